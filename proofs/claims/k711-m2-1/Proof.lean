import JvmDerived
import JvmDerived.Pilot.@@N@@Statement
import JvmDerived.Pilot.@@N@@Code
set_option linter.unusedVariables false
set_option linter.unusedSimpArgs false
namespace Jvm.RoadKit
open Sem ClassFile Op Lib Jvm.Stand Jvm.Free Jvm.LawKit
section New
variable {p : Program} {l : Launch} {e : Env} {R : Room} {s : State} {m : MethodId} {args : Array Value} {below : List Frame} {meth : Method} {c : Code} {T : State} {locs : List Loc} {cells slots : Nat}
theorem retI (X : Stand p l e R s m args below meth c T locs cells slots) (hx : p.tables.exec = Jvm.exec) {pc : Nat} {Ls : Array Slot} {z : Int32} {rest : List Value} (hret : meth.sig.returnType = some .int) (hd : decode c.code pc = .ok (.ireturn, 1)) {fs : List Frame}
    (hl : ∀ (f : JFrame) (acts : List Action), f.method = m → f.locked = none → f.entered = [] → (doReturn e (T.setTop f) acts (some (.int z))).1 = T.setFrames fs) : Steps p.tables e below (T.setTop (mkF m pc Ls (.int z :: rest))) (T.setFrames fs) := by
  have hm' : T.vm.method? m = some meth := X.method'
  have hn : narrow .int (.int z) = .int z := rfl
  show Steps p.tables e below (T.setTop { method := m, pc := pc, locals := Ls, stack := _ :: rest, locked := none }) _
  jvm_step X.here [X.here.top, hx, hd, hm', hret, hn]
  first | (intro acts; rw [hl _ acts rfl rfl rfl]) | rw [hl _ _ rfl rfl rfl]
  exact Steps.refl _
end New
end Jvm.RoadKit
/- laws to paste: Road.backV, Road.lenW, Road.chN, Road.eqW, Road.codOf (cut by pick.py; bodies as the Statement names them) -/
namespace Jvm.Pilot.@@N@@
namespace StrChars
open Jvm Sem ClassFile Op Lib Jvm.Stand Jvm.Free.XT Jvm.Free.ALB Jvm.Free.JM Jvm.Free
open Jvm.Lib.Cold (StaticIs)
/-- a char array whose places are chars -/
def Ch (a : Addr) (A : Cell) (U : State) : Prop := Arr .char a A U ∧ Typed .char A
theorem Ch.mv {a : Addr} {A : Cell} {U U' : State} (h : Ch a A U) (hal : U.vm.Alike U'.vm) (hh : U'.heap = U.heap) : Ch a A U' := ⟨h.1.mv hal hh, h.2⟩
theorem Ch.keep {a : Addr} {A : Cell} {U U' : State} (h : Ch a A U) (hal : U.vm.Alike U'.vm) (hk : U'.heap[a]? = some A) : Ch a A U' := ⟨h.1.keep hal hk, h.2⟩
/-- what place i of a char[]'s cell holds -/
def cv (A : Cell) (i : Nat) : Int32 := match A.slots[i]? with | some (.int x) => x | _ => 0
theorem Ch.get {a : Addr} {A : Cell} {U : State} (h : Ch a A U) {i : Nat} (hi : i < A.slots.size) : A.slots[i]? = some (.int (cv A i)) := by
  have e := Array.getElem?_eq_getElem hi
  have f := h.2 i _ e
  unfold cv; rw [e]
  generalize A.slots[i] = v at f
  cases v <;> simp [fits] at f ⊢
/-- the byte that i2b leaves of a char -/
def lo8 (x : Int32) : Int32 := x.toInt8.toInt32
theorem fits_lo8 (y : Int32) : fits .byte (.int (lo8 y)) = true := by
  have h1 := y.toInt8.le_toInt
  have h2 := y.toInt8.toInt_lt
  simp only [lo8, fits, Bool.and_eq_true, decide_eq_true_eq, Int32.le_iff_toInt_le, Int8.toInt_toInt32, show (-128 : Int32).toInt = -128 from by decide, show (127 : Int32).toInt = 127 from by decide]
  omega
/-- A' is A but that each place j of lo .. hi - 1 holds f j -/
def Laid (A A' : Cell) (lo hi : Nat) (f : Nat → Value) : Prop := A'.cls = A.cls ∧ A'.vm = A.vm ∧ A'.slots.size = A.slots.size ∧ ∀ i, A'.slots[i]? = if lo ≤ i ∧ i < hi then some (f i) else A.slots[i]?
theorem Laid.zero (A : Cell) (lo : Nat) (f : Nat → Value) : Laid A A lo (lo + 0) f := ⟨rfl, rfl, rfl, fun i => by rw [if_neg (by omega)]⟩
theorem Laid.step {A Ak : Cell} {lo k : Nat} {f : Nat → Value} {v : Value} (h : Laid A Ak lo k f) (hlo : lo ≤ k) (hk : k < Ak.slots.size) (hv : v = f k) : Laid A (Ak.setSlot k v) lo (k + 1) f := by
  refine ⟨h.1, h.2.1, by simpa [Cell.setSlot] using h.2.2.1, fun i => ?_⟩
  by_cases e : k = i
  · subst e; rw [Cell.slots_setSlot_self v hk, if_pos (by omega), hv]
  · rw [Cell.slots_setSlot_ne v e, h.2.2.2 i]
    by_cases q : lo ≤ i ∧ i < k
    · rw [if_pos q, if_pos (by omega)]
    · rw [if_neg q, if_neg (by omega)]
def U16 : String := "java/lang/StringUTF16"
namespace Cmp5
def yN : MethodName := ⟨"java/lang/StringUTF16", "compress", "([CI[BII)I"⟩
abbrev yB : ByteArray := jdk_52_method_21_code
theorem d0 : decode yB 0 = .ok (.iconst 0, 1) := by decide +kernel
theorem d1 : decode yB 1 = .ok (.istore 5, 2) := by decide +kernel
theorem d3 : decode yB 3 = .ok (.iload 5, 2) := by decide +kernel
theorem d5 : decode yB 5 = .ok (.iload 4, 2) := by decide +kernel
theorem d7 : decode yB 7 = .ok (.if_icmp (.ge) 37, 3) := by decide +kernel
theorem d10 : decode yB 10 = .ok (.aload_n 0, 1) := by decide +kernel
theorem d11 : decode yB 11 = .ok (.iload_n 1, 1) := by decide +kernel
theorem d12 : decode yB 12 = .ok (.caload, 1) := by decide +kernel
theorem d13 : decode yB 13 = .ok (.istore 6, 2) := by decide +kernel
theorem d15 : decode yB 15 = .ok (.iload 6, 2) := by decide +kernel
theorem d17 : decode yB 17 = .ok (.sipush 255, 3) := by decide +kernel
theorem d20 : decode yB 20 = .ok (.if_icmp (.le) 6, 3) := by decide +kernel
theorem d26 : decode yB 26 = .ok (.aload_n 2, 1) := by decide +kernel
theorem d27 : decode yB 27 = .ok (.iload_n 3, 1) := by decide +kernel
theorem d28 : decode yB 28 = .ok (.iload 6, 2) := by decide +kernel
theorem d30 : decode yB 30 = .ok (.i2b, 1) := by decide +kernel
theorem d31 : decode yB 31 = .ok (.bastore, 1) := by decide +kernel
theorem d32 : decode yB 32 = .ok (.iinc 1 1, 3) := by decide +kernel
theorem d35 : decode yB 35 = .ok (.iinc 3 1, 3) := by decide +kernel
theorem d38 : decode yB 38 = .ok (.iinc 5 1, 3) := by decide +kernel
theorem d41 : decode yB 41 = .ok (.goto (-38), 3) := by decide +kernel
theorem d44 : decode yB 44 = .ok (.iload 4, 2) := by decide +kernel
theorem d46 : decode yB 46 = .ok (.ireturn, 1) := by decide +kernel
def site : List Cond := []
def tab : Cond := tabOf yN yB 7 (some .int) site
def P (b : Addr) (A : Cell) (d : Addr) (B : Cell) (o q len : Nat) (args : Array Value) (s : State) : Prop := args = #[.ref b, .int (Int32.ofNat o), .ref d, .int (Int32.ofNat q), .int (Int32.ofNat len)] ∧ Ch b A s ∧ Arr .byte d B s ∧ b ≠ d ∧ o + len ≤ A.slots.size ∧ q + len ≤ B.slots.size ∧ ∀ i, i < len → ¬ 255 < cv A (o + i)
def E (b : Addr) (A : Cell) (d : Addr) (B : Cell) (o q len : Nat) (r : Option Value) (s u : State) : Prop := r = some (.int (Int32.ofNat len)) ∧ ∃ B', Put d B' s u ∧ Laid B B' q (q + len) (fun j => Value.int (lo8 (cv A (o + (j - q)))))
/-- no char of the range above 255: len; the places written hold each char's low byte -/
theorem law (l : Launch) (b : Addr) (A : Cell) (d : Addr) (B : Cell) (o q len : Nat) : Law l yN 5 5 0 0 yB 7 (some .int) site (P b A d B o q len) (E b A d B o q len) (copyLocs d q len) 0 0 := by
  refine Law.of_walk (plainFor_of_name (by decide +kernel)) (by decide +kernel) (by decide +kernel) (by decide) (fun _ _ h => by rw [h.1]; rfl) (fun _ U U' hal hh h => ⟨h.1, h.2.1.mv hal hh, h.2.2.1.mv hal hh, h.2.2.2⟩) (fun r U U' V V' h1 hal h2 h => ⟨h.1, h.2.elim fun B' q => ⟨B', q.1.mv h1 h2, q.2⟩⟩) ?_
  intro p e s m args below meth c s₁ X0 hexec hbytes hml hret hlk hnm hown hh0 W hP
  obtain ⟨rfl, hA, hB, hne, l1, l2, hp⟩ := hP
  have c1 : Steps p.tables e below (s₁.setTop (entryFrame m #[.ref b, .int (Int32.ofNat o), .ref d, .int (Int32.ofNat q), .int (Int32.ofNat len)] 7)) (s₁.setTop (mkF m 0 #[.val (.ref b), .val (.int (Int32.ofNat o)), .val (.ref d), .val (.int (Int32.ofNat q)), .val (.int (Int32.ofNat len)), .unset, .unset] [])) := entry rfl
  have hA0 := hA.1.mv X0.warmed.alike hh0
  have hB0 := hB.mv X0.warmed.alike hh0
  have a31 := hA.1.2.2.2
  have c2 : Steps p.tables e below (s₁.setTop (entryFrame m #[.ref b, .int (Int32.ofNat o), .ref d, .int (Int32.ofNat q), .int (Int32.ofNat len)] 7)) (s₁.setTop (mkF m 3 #[.val (.ref b), .val (.int (Int32.ofNat o)), .val (.ref d), .val (.int (Int32.ofNat q)), .val (.int (Int32.ofNat len)), .val (.int 0), .unset] [])) := c1.trans (by
    refine iconstV X0.here hexec rfl 0 (hb hbytes d0) (by decide) ?_
    refine XS.istore X0.here hexec rfl (hb hbytes d1) rfl rfl ?_
    exact Steps.refl _)
  have loop : ∀ (r i : Nat), i + r = len → ∀ (z : Slot), (z = .unset ∨ ∃ w, z = .val w ∧ w.category = 1) → ∀ (Tl : State) (Bk : Cell), Stand p l e { frames := 0, locals := 0, cells := 0, slots := 0 } s m #[.ref b, .int (Int32.ofNat o), .ref d, .int (Int32.ofNat q), .int (Int32.ofNat len)] below meth c Tl ([] ++ copyLocs d q i) 0 0 → Put d Bk s₁ Tl → Laid B Bk q (q + i) (fun j => Value.int (lo8 (cv A (o + (j - q))))) →
      Steps p.tables e below (s₁.setTop (entryFrame m #[.ref b, .int (Int32.ofNat o), .ref d, .int (Int32.ofNat q), .int (Int32.ofNat len)] 7)) (Tl.setTop (mkF m 3 #[.val (.ref b), .val (.int (Int32.ofNat (o + i))), .val (.ref d), .val (.int (Int32.ofNat (q + i))), .val (.int (Int32.ofNat len)), .val (.int (Int32.ofNat i)), z] [])) → ∃ (T' : State) (B' : Cell) (z' : Slot), Stand p l e { frames := 0, locals := 0, cells := 0, slots := 0 } s m #[.ref b, .int (Int32.ofNat o), .ref d, .int (Int32.ofNat q), .int (Int32.ofNat len)] below meth c T' ([] ++ copyLocs d q len) 0 0 ∧ Put d B' s₁ T' ∧ Laid B B' q (q + len) (fun j => Value.int (lo8 (cv A (o + (j - q))))) ∧
      Steps p.tables e below (s₁.setTop (entryFrame m #[.ref b, .int (Int32.ofNat o), .ref d, .int (Int32.ofNat q), .int (Int32.ofNat len)] 7)) (T'.setTop (mkF m 3 #[.val (.ref b), .val (.int (Int32.ofNat (o + len))), .val (.ref d), .val (.int (Int32.ofNat (q + len))), .val (.int (Int32.ofNat len)), .val (.int (Int32.ofNat len)), z'] [])) := by
    intro r
    induction r with
    | zero =>
      intro i hi z hz Tl Bk Xl pl fl cl
      have hil : i = len := by omega
      rw [hil] at Xl fl cl
      exact ⟨Tl, Bk, z, Xl, pl, fl, cl⟩
    | succ r ih =>
      intro i hi z hz Tl Bk Xl pl fl cl
      have all := X0.warmed.alike.symm.trans Xl.warmed.alike
      have hAl := hA0.keep all (pl.other hne hA0.1)
      have hBk := hB0.like all pl.1 fl.1 fl.2.1 fl.2.2.1
      have hlt : q + i < Bk.slots.size := by rw [fl.2.2.1]; omega
      have c3 : Steps p.tables e below (s₁.setTop (entryFrame m #[.ref b, .int (Int32.ofNat o), .ref d, .int (Int32.ofNat q), .int (Int32.ofNat len)] 7)) (Tl.setTop (mkF m 12 #[.val (.ref b), .val (.int (Int32.ofNat (o + i))), .val (.ref d), .val (.int (Int32.ofNat (q + i))), .val (.int (Int32.ofNat len)), .val (.int (Int32.ofNat i)), z] [.int (Int32.ofNat (o + i)), .ref b])) := cl.trans (by
        refine XS.iload Xl.here hexec rfl (hb hbytes d3) rfl ?_
        refine XS.iload Xl.here hexec rfl (hb hbytes d5) rfl ?_
        refine XS.icmpNo Xl.here hexec rfl (hb hbytes d7) rfl (ii_ge_f (lt32 (by omega) (by omega))) ?_
        refine XS.aloadN Xl.here hexec rfl (hb hbytes d10) rfl rfl ?_
        refine XS.iloadN Xl.here hexec rfl (hb hbytes d11) rfl ?_
        exact Steps.refl _)
      have c4 : Steps p.tables e below (s₁.setTop (entryFrame m #[.ref b, .int (Int32.ofNat o), .ref d, .int (Int32.ofNat q), .int (Int32.ofNat len)] 7)) (Tl.setTop (mkF m 13 #[.val (.ref b), .val (.int (Int32.ofNat (o + i))), .val (.ref d), .val (.int (Int32.ofNat (q + i))), .val (.int (Int32.ofNat len)), .val (.int (Int32.ofNat i)), z] [.int (cv A (o + i))])) := c3.trans (by
        refine Xl.aget hexec hAl rfl (hA.get (i := o + i) (by omega)) rfl rfl (hb hbytes d12) ?_
        exact Steps.refl _)
      have c5 : Steps p.tables e below (s₁.setTop (entryFrame m #[.ref b, .int (Int32.ofNat o), .ref d, .int (Int32.ofNat q), .int (Int32.ofNat len)] 7)) (Tl.setTop (mkF m 15 #[.val (.ref b), .val (.int (Int32.ofNat (o + i))), .val (.ref d), .val (.int (Int32.ofNat (q + i))), .val (.int (Int32.ofNat len)), .val (.int (Int32.ofNat i)), .val (.int (cv A (o + i)))] [])) := c4.trans (by
        refine XS.istoreS Xl.here hexec rfl (hb hbytes d13) rfl rfl hz ?_
        exact Steps.refl _)
      have c6 : Steps p.tables e below (s₁.setTop (entryFrame m #[.ref b, .int (Int32.ofNat o), .ref d, .int (Int32.ofNat q), .int (Int32.ofNat len)] 7)) (Tl.setTop (mkF m 31 #[.val (.ref b), .val (.int (Int32.ofNat (o + i))), .val (.ref d), .val (.int (Int32.ofNat (q + i))), .val (.int (Int32.ofNat len)), .val (.int (Int32.ofNat i)), .val (.int (cv A (o + i)))] [.int (lo8 (cv A (o + i))), .int (Int32.ofNat (q + i)), .ref d])) := c5.trans (by
        refine XS.iload Xl.here hexec rfl (hb hbytes d15) rfl ?_
        refine sipushV Xl.here hexec rfl 255 (hb hbytes d17) (by decide) ?_
        refine XS.icmpYes Xl.here hexec rfl (pc0 := 20) rfl (hb hbytes d20) rfl (ii_le_t (hp i (by omega))) (by decide) rfl ?_
        refine XS.aloadN Xl.here hexec rfl (hb hbytes d26) rfl rfl ?_
        refine XS.iloadN Xl.here hexec rfl (hb hbytes d27) rfl ?_
        refine XS.iload Xl.here hexec rfl (hb hbytes d28) rfl ?_
        refine i2b Xl.here hexec rfl (hb hbytes d30) rfl ?_
        exact Steps.refl _)
      obtain ⟨T7, X7, p7, st7⟩ := Xl.aput hexec hBk rfl hlt rfl (fits_lo8 (cv A (o + i))) (g := (mkF m 31 #[.val (.ref b), .val (.int (Int32.ofNat (o + i))), .val (.ref d), .val (.int (Int32.ofNat (q + i))), .val (.int (Int32.ofNat len)), .val (.int (Int32.ofNat i)), .val (.int (cv A (o + i)))] [.int (lo8 (cv A (o + i))), .int (Int32.ofNat (q + i)), .ref d])) rfl (rest := []) rfl (hb hbytes d31)
      have c8 : Steps p.tables e below (s₁.setTop (entryFrame m #[.ref b, .int (Int32.ofNat o), .ref d, .int (Int32.ofNat q), .int (Int32.ofNat len)] 7)) (T7.setTop (mkF m 32 #[.val (.ref b), .val (.int (Int32.ofNat (o + i))), .val (.ref d), .val (.int (Int32.ofNat (q + i))), .val (.int (Int32.ofNat len)), .val (.int (Int32.ofNat i)), .val (.int (cv A (o + i)))] [])) := c6.trans (st7 _ (Steps.refl _))
      have c9 : Steps p.tables e below (s₁.setTop (entryFrame m #[.ref b, .int (Int32.ofNat o), .ref d, .int (Int32.ofNat q), .int (Int32.ofNat len)] 7)) (T7.setTop (mkF m 3 #[.val (.ref b), .val (.int (Int32.ofNat (o + i) + 1)), .val (.ref d), .val (.int (Int32.ofNat (q + i) + 1)), .val (.int (Int32.ofNat len)), .val (.int (Int32.ofNat i + 1)), .val (.int (cv A (o + i)))] [])) := c8.trans (by
        refine iincV X7.here hexec rfl 1 (hb hbytes d32) (by decide) rfl rfl ?_
        refine iincV X7.here hexec rfl 1 (hb hbytes d35) (by decide) rfl rfl ?_
        refine iincV X7.here hexec rfl 1 (hb hbytes d38) (by decide) rfl rfl ?_
        refine XS.goto X7.here hexec rfl (pc0 := 41) rfl (hb hbytes d41) (by decide) rfl ?_
        exact Steps.refl _)
      have c10 : Steps p.tables e below (s₁.setTop (entryFrame m #[.ref b, .int (Int32.ofNat o), .ref d, .int (Int32.ofNat q), .int (Int32.ofNat len)] 7)) (T7.setTop (mkF m 3 #[.val (.ref b), .val (.int (Int32.ofNat (o + (i + 1)))), .val (.ref d), .val (.int (Int32.ofNat (q + (i + 1)))), .val (.int (Int32.ofNat len)), .val (.int (Int32.ofNat (i + 1))), .val (.int (cv A (o + i)))] [])) := by
        have := c9
        rw [succ32, succ32, succ32] at this
        exact this
      exact ih (i + 1) (by omega) _ (Or.inr ⟨_, rfl, rfl⟩) T7 _ (by rw [copyLocs_step, ← List.append_assoc]; exact X7) (pl.trans p7) (fl.step (by omega) hlt (by simp)) c10
  obtain ⟨T9, B9, z9, X9, p9, f9, g9⟩ := loop len 0 (by omega) .unset (Or.inl rfl) s₁ B (by simpa [copyLocs] using X0) ⟨hB0.1, fun _ _ => rfl, rfl⟩ (Laid.zero _ _ _) c2
  have c11 : Steps p.tables e below (s₁.setTop (entryFrame m #[.ref b, .int (Int32.ofNat o), .ref d, .int (Int32.ofNat q), .int (Int32.ofNat len)] 7)) (T9.setTop (mkF m 46 #[.val (.ref b), .val (.int (Int32.ofNat (o + len))), .val (.ref d), .val (.int (Int32.ofNat (q + len))), .val (.int (Int32.ofNat len)), .val (.int (Int32.ofNat len)), z9] [.int (Int32.ofNat len)])) := g9.trans (by
    refine XS.iload X9.here hexec rfl (hb hbytes d3) rfl ?_
    refine XS.iload X9.here hexec rfl (hb hbytes d5) rfl ?_
    refine XS.icmpYes X9.here hexec rfl (pc0 := 7) rfl (hb hbytes d7) rfl (ii_ge_t (nlt32 (by omega) (Nat.le_refl _))) (by decide) rfl ?_
    refine XS.iload X9.here hexec rfl (hb hbytes d44) rfl ?_
    exact Steps.refl _)
  exact ⟨T9, some (.int (Int32.ofNat len)), _, _, _, X9, by simp, rfl, rfl, (fun h => by cases h), ⟨rfl, B9, p9.from hh0, f9⟩, fun fs hl => c11.trans (X9.ireturnOut hexec hret rfl (Or.inl rfl) (hb hbytes d46) hl)⟩
end Cmp5
namespace Cmp3
def yN : MethodName := ⟨"java/lang/StringUTF16", "compress", "([CII)[B"⟩
abbrev yB : ByteArray := jdk_52_method_16_code
theorem d0 : decode yB 0 = .ok (.iload_n 2, 1) := by decide +kernel
theorem d1 : decode yB 1 = .ok (.newarray .byte, 2) := by decide +kernel
theorem d3 : decode yB 3 = .ok (.astore_n 3, 1) := by decide +kernel
theorem d4 : decode yB 4 = .ok (.aload_n 0, 1) := by decide +kernel
theorem d5 : decode yB 5 = .ok (.iload_n 1, 1) := by decide +kernel
theorem d6 : decode yB 6 = .ok (.aload_n 3, 1) := by decide +kernel
theorem d7 : decode yB 7 = .ok (.iconst 0, 1) := by decide +kernel
theorem d8 : decode yB 8 = .ok (.iload_n 2, 1) := by decide +kernel
theorem d9 : decode yB 9 = .ok (.invokestatic 115, 3) := by decide +kernel
theorem d12 : decode yB 12 = .ok (.istore 4, 2) := by decide +kernel
theorem d14 : decode yB 14 = .ok (.iload 4, 2) := by decide +kernel
theorem d16 : decode yB 16 = .ok (.iload_n 2, 1) := by decide +kernel
theorem d17 : decode yB 17 = .ok (.if_icmp (.eq) 40, 3) := by decide +kernel
theorem d57 : decode yB 57 = .ok (.aload_n 3, 1) := by decide +kernel
theorem d58 : decode yB 58 = .ok (.areturn, 1) := by decide +kernel
def site : List Cond := [.arrayClass .byte, Cmp5.tab] ++ staticW U16 115 Cmp5.yN
def tab : Cond := tabOf yN yB 6 (some (.array .byte)) site
def P (b : Addr) (A : Cell) (o len : Nat) (args : Array Value) (s : State) : Prop := args = #[.ref b, .int (Int32.ofNat o), .int (Int32.ofNat len)] ∧ Ch b A s ∧ o + len ≤ A.slots.size ∧ len ≤ 536870912 ∧ ∀ i, i < len → ¬ 255 < cv A (o + i)
def E (b : Addr) (A : Cell) (o len : Nat) (r : Option Value) (s u : State) : Prop := NewArr .byte "[B" len (fun j => .int (lo8 (cv A (o + j)))) r s u ∧ u.heap.size = s.heap.size + 1
/-- no char of the range above 255: a new byte[] of their low bytes -/
theorem law (l : Launch) (b : Addr) (A : Cell) (o len : Nat) : Law l yN 3 3 1 18 yB 6 (some (.array .byte)) site (P b A o len) (E b A o len) [] 1 len := by
  refine Law.of_walk (plainFor_of_name (by decide +kernel)) (by decide +kernel) (by decide +kernel) (by decide) (fun _ _ h => by rw [h.1]; rfl) (fun _ U U' hal hh h => ⟨h.1, h.2.1.mv hal hh, h.2.2⟩) (fun r U U' V V' h1 hal h2 h => ⟨NewArr.mv r U U' V V' h1 hal h2 h.1, by rw [h1, h2]; exact h.2⟩) ?_
  intro p e s m args below meth c s₁ X0 hexec hbytes hml hret hlk hnm hown hh0 W hP
  obtain ⟨rfl, hA, l1, l2, hp⟩ := hP
  have a31 := hA.1.2.2.2
  have c1 : Steps p.tables e below (s₁.setTop (entryFrame m #[.ref b, .int (Int32.ofNat o), .int (Int32.ofNat len)] 6)) (s₁.setTop (mkF m 0 #[.val (.ref b), .val (.int (Int32.ofNat o)), .val (.int (Int32.ofNat len)), .unset, .unset, .unset] [])) := entry rfl
  have c2 : Steps p.tables e below (s₁.setTop (entryFrame m #[.ref b, .int (Int32.ofNat o), .int (Int32.ofNat len)] 6)) (s₁.setTop (mkF m 1 #[.val (.ref b), .val (.int (Int32.ofNat o)), .val (.int (Int32.ofNat len)), .unset, .unset, .unset] [.int (Int32.ofNat len)])) := c1.trans (by
    refine XS.iloadN X0.here hexec rfl (hb hbytes d0) rfl ?_
    exact Steps.refl _)
  obtain ⟨T3, B3, X3, ba3, bs3, bv3, bh3, bf3, st3⟩ := X0.anew hexec (atype := .byte) (wk W (.arrayClass .byte)) rfl (by show len * 1 ≤ _; omega) (by omega) (g := (mkF m 1 #[.val (.ref b), .val (.int (Int32.ofNat o)), .val (.int (Int32.ofNat len)), .unset, .unset, .unset] [.int (Int32.ofNat len)])) rfl (hb hbytes d1) (rest := []) rfl (Nat.le_refl _) (by show 0 + len ≤ len; omega)
  rw [hh0] at ba3 st3
  have kp3 : XT.Kept s T3 := (XT.Kept.of_eq hh0).push bh3
  have hA3 := hA.keep X3.warmed.alike (kp3 _ _ hA.1.1)
  have hne : b ≠ s.heap.size := hA.1.ne
  have c4 : Steps p.tables e below (s₁.setTop (entryFrame m #[.ref b, .int (Int32.ofNat o), .int (Int32.ofNat len)] 6)) (T3.setTop (mkF m 3 #[.val (.ref b), .val (.int (Int32.ofNat o)), .val (.int (Int32.ofNat len)), .unset, .unset, .unset] [.ref s.heap.size])) := c2.trans (st3 _ (Steps.refl _))
  have c5 : Steps p.tables e below (s₁.setTop (entryFrame m #[.ref b, .int (Int32.ofNat o), .int (Int32.ofNat len)] 6)) (T3.setTop (mkF m 9 #[.val (.ref b), .val (.int (Int32.ofNat o)), .val (.int (Int32.ofNat len)), .val (.ref s.heap.size), .unset, .unset] [.int (Int32.ofNat len), .int 0, .ref s.heap.size, .int (Int32.ofNat o), .ref b])) := c4.trans (by
    refine XS.astoreN X3.here hexec rfl (hb hbytes d3) rfl rfl rfl ?_
    refine XS.aloadN X3.here hexec rfl (hb hbytes d4) rfl rfl ?_
    refine XS.iloadN X3.here hexec rfl (hb hbytes d5) rfl ?_
    refine XS.aloadN X3.here hexec rfl (hb hbytes d6) rfl rfl ?_
    refine iconstV X3.here hexec rfl 0 (hb hbytes d7) (by decide) ?_
    refine XS.iloadN X3.here hexec rfl (hb hbytes d8) rfl ?_
    exact Steps.refl _)
  obtain ⟨v6, T6, X6, E6, g6⟩ := X3.callS hexec (Cmp5.law l b A s.heap.size B3 o 0 len) hown (wks W (staticW U16 115 Cmp5.yN)) (wk W Cmp5.tab) (W := 0) (Nat.le_of_ble_eq_true rfl) (Nat.le_of_ble_eq_true rfl) (Nat.le_refl _) (by show 0 + len + 0 ≤ len; omega) (g := (mkF m 9 #[.val (.ref b), .val (.int (Int32.ofNat o)), .val (.int (Int32.ofNat len)), .val (.ref s.heap.size), .unset, .unset] [.int (Int32.ofNat len), .int (Int32.ofNat 0), .ref s.heap.size, .int (Int32.ofNat o), .ref b])) rfl (by rw [hml]; rfl) c5 (argsL := [.ref b, .int (Int32.ofNat o), .ref s.heap.size, .int (Int32.ofNat 0), .int (Int32.ofNat len)]) (rest := []) rfl rfl (by show 2 * 0 + 0 ≤ _; decide) (hb hbytes d9) (⟨rfl, hA3, ba3, hne, l1, by rw [bs3]; simp, hp⟩)
  obtain ⟨rfl, B6, p6, f6⟩ := E6
  have c7 : Steps p.tables e below (s₁.setTop (entryFrame m #[.ref b, .int (Int32.ofNat o), .int (Int32.ofNat len)] 6)) (T6.setTop (mkF m 12 #[.val (.ref b), .val (.int (Int32.ofNat o)), .val (.int (Int32.ofNat len)), .val (.ref s.heap.size), .unset, .unset] [.int (Int32.ofNat len)])) := g6
  have c8 : Steps p.tables e below (s₁.setTop (entryFrame m #[.ref b, .int (Int32.ofNat o), .int (Int32.ofNat len)] 6)) (T6.setTop (mkF m 58 #[.val (.ref b), .val (.int (Int32.ofNat o)), .val (.int (Int32.ofNat len)), .val (.ref s.heap.size), .val (.int (Int32.ofNat len)), .unset] [.ref s.heap.size])) := c7.trans (by
    refine XS.istore X6.here hexec rfl (hb hbytes d12) rfl rfl ?_
    refine XS.iload X6.here hexec rfl (hb hbytes d14) rfl ?_
    refine XS.iloadN X6.here hexec rfl (hb hbytes d16) rfl ?_
    refine XS.icmpYes X6.here hexec rfl (pc0 := 17) rfl (hb hbytes d17) rfl (ii_eq_t rfl) (by decide) rfl ?_
    refine XS.aloadN X6.here hexec rfl (hb hbytes d57) rfl rfl ?_
    exact Steps.refl _)
  have X8 := X6.wide (L' := []) (cells' := 1) (slots' := len) (fun x hx hlt => by
    simp only [List.nil_append, copyLocs, List.mem_map, List.mem_range] at hx
    obtain ⟨i, -, rfl⟩ := hx
    exact absurd hlt (Nat.lt_irrefl _)) (Nat.le_refl _) (by omega)
  exact ⟨T6, some (.ref s.heap.size), _, _, _, X8, rfl, rfl, rfl, (fun h => by cases h), ⟨⟨rfl, B6, ba3.like (X3.warmed.alike.symm.trans X6.warmed.alike) p6.1 f6.1 f6.2.1 f6.2.2.1, f6.2.1.trans bv3, by rw [X6.warmed.alike.findClass, f6.1]; exact bf3, by rw [f6.2.2.1, bs3]; simp, fun j hj => by rw [f6.2.2.2 j, if_pos (by omega)]; rfl, kp3.put p6 (Nat.le_refl _)⟩, by rw [p6.2.2, bh3, hh0]; simp⟩, fun fs hl => c8.trans (X8.areturnOut hexec rfl hret rfl (hb hbytes d58) hl)⟩
end Cmp3
namespace CodL
def yN : MethodName := ⟨"java/lang/StringUTF16", "coderFromArrayLen", "([BI)B"⟩
abbrev yB : ByteArray := jdk_52_method_15_code
theorem d0 : decode yB 0 = .ok (.iload_n 1, 1) := by decide +kernel
theorem d1 : decode yB 1 = .ok (.aload_n 0, 1) := by decide +kernel
theorem d2 : decode yB 2 = .ok (.arraylength, 1) := by decide +kernel
theorem d3 : decode yB 3 = .ok (.isub, 1) := by decide +kernel
theorem d4 : decode yB 4 = .ok (.bipush 31, 2) := by decide +kernel
theorem d6 : decode yB 6 = .ok (.iushr, 1) := by decide +kernel
theorem d7 : decode yB 7 = .ok (.i2b, 1) := by decide +kernel
theorem d8 : decode yB 8 = .ok (.ireturn, 1) := by decide +kernel
def site : List Cond := []
def tab : Cond := tabOf yN yB 2 (some .byte) site
def P (d : Addr) (B : Cell) (args : Array Value) (s : State) : Prop := args = #[.ref d, .int (Int32.ofNat B.slots.size)] ∧ Arr .byte d B s
def E (r : Option Value) (s u : State) : Prop := XT.PureE (some (.int 0)) r s u
/-- an array as long as the number of chars: LATIN1 -/
theorem law (l : Launch) (d : Addr) (B : Cell) : Law l yN 2 2 0 0 yB 2 (some .byte) site (P d B) E [] 0 0 := by
  refine Law.of_walk (plainFor_of_name (by decide +kernel)) (by decide +kernel) (by decide +kernel) (by decide) (fun _ _ h => by rw [h.1]; rfl) (fun _ U U' hal hh h => ⟨h.1, h.2.mv hal hh⟩) (fun r U U' V V' h1 hal h2 h => XT.PureE.mv r U U' V V' h1 hal h2 h) ?_
  intro p e s m args below meth c s₁ X0 hexec hbytes hml hret hlk hnm hown hh0 W hP
  obtain ⟨rfl, hB⟩ := hP
  have hB0 := hB.mv X0.warmed.alike hh0
  have c1 : Steps p.tables e below (s₁.setTop (entryFrame m #[.ref d, .int (Int32.ofNat B.slots.size)] 2)) (s₁.setTop (mkF m 0 #[.val (.ref d), .val (.int (Int32.ofNat B.slots.size))] [])) := entry rfl
  have c2 : Steps p.tables e below (s₁.setTop (entryFrame m #[.ref d, .int (Int32.ofNat B.slots.size)] 2)) (s₁.setTop (mkF m 2 #[.val (.ref d), .val (.int (Int32.ofNat B.slots.size))] [.ref d, .int (Int32.ofNat B.slots.size)])) := c1.trans (by
    refine XS.iloadN X0.here hexec rfl (hb hbytes d0) rfl ?_
    refine XS.aloadN X0.here hexec rfl (hb hbytes d1) rfl rfl ?_
    exact Steps.refl _)
  have c3 : Steps p.tables e below (s₁.setTop (entryFrame m #[.ref d, .int (Int32.ofNat B.slots.size)] 2)) (s₁.setTop (mkF m 8 #[.val (.ref d), .val (.int (Int32.ofNat B.slots.size))] [.int (lo8 (ushr (Int32.ofNat B.slots.size - Int32.ofNat B.slots.size) 31))])) := c2.trans (by
    refine X0.alen hexec hB0 rfl rfl (hb hbytes d2) ?_
    refine XS.isub X0.here hexec rfl (hb hbytes d3) rfl ?_
    refine bipushV X0.here hexec rfl 31 (hb hbytes d4) (by decide) ?_
    refine iushr X0.here hexec rfl (hb hbytes d6) rfl ?_
    refine i2b X0.here hexec rfl (hb hbytes d7) rfl ?_
    exact Steps.refl _)
  have e0 : lo8 (ushr (Int32.ofNat B.slots.size - Int32.ofNat B.slots.size) 31) = 0 := by rw [Int32.sub_self]; decide
  rw [e0] at c3
  exact ⟨s₁, some (.int 0), _, _, _, X0, rfl, rfl, rfl, (fun h => by cases h), ⟨rfl, hh0⟩, fun fs hl => c3.trans (X0.ireturnOut hexec hret rfl (Or.inr (Or.inr (Or.inl rfl))) (hb hbytes d8) hl)⟩
end CodL
/-- the String at a is Latin-1 over a new byte[] (the heap's one new cell): the low bytes of the len chars of A from o on; every cell but a is kept -/
def Got (a : Addr) (D : Cell) (fV fC : Field) (A : Cell) (o len : Nat) (r : Option Value) (s u : State) : Prop := r = none ∧ ∃ D' V : Cell, Blank "java/lang/String" a D' u ∧ Same D D' [fV.slot, fC.slot] ∧ D'.slots[fV.slot]? = some (.ref s.heap.size) ∧ D'.slots[fC.slot]? = some (.int 0) ∧ Arr .byte s.heap.size V u ∧ V.vm = .none ∧ u.vm.findClass "[B" = some V.cls ∧ V.slots.size = len ∧ (∀ j, j < len → V.slots[j]? = some (.int (lo8 (cv A (o + j))))) ∧ (∀ (y : Addr) (c : Cell), y ≠ a → s.heap[y]? = some c → u.heap[y]? = some c) ∧ u.heap.size = s.heap.size + 1
theorem Got.mv {a : Addr} {D A : Cell} {fV fC : Field} {o len : Nat} : ∀ r (U U' V V' : State), U'.heap = U.heap → V.vm.Alike V'.vm → V'.heap = V.heap → Got a D fV fC A o len r U V → Got a D fV fC A o len r U' V' :=
  fun r U U' V V' h1 hal h2 ⟨e0, D', X, a1, a2, a3, a4, a5, a6, a7, a8, a9, a10, a11⟩ => ⟨e0, D', X, a1.mv hal h2, a2, by rw [h1]; exact a3, a4, by rw [h1]; exact a5.mv hal h2, a6, by rw [hal.findClass]; exact a7, a8, a9, by rw [h1, h2]; exact a10, by rw [h1, h2]; exact a11⟩
namespace New4
def yN : MethodName := ⟨"java/lang/String", "<init>", "([CIILjava/lang/Void;)V"⟩
abbrev yB : ByteArray := jdk_42_method_149_code
theorem d0 : decode yB 0 = .ok (.aload_n 0, 1) := by decide +kernel
theorem d1 : decode yB 1 = .ok (.invokespecial 1, 3) := by decide +kernel
theorem d4 : decode yB 4 = .ok (.iload_n 3, 1) := by decide +kernel
theorem d5 : decode yB 5 = .ok (.ifCond (.ne) 22, 3) := by decide +kernel
theorem d27 : decode yB 27 = .ok (.getstatic 38, 3) := by decide +kernel
theorem d30 : decode yB 30 = .ok (.ifCond (.eq) 28, 3) := by decide +kernel
theorem d33 : decode yB 33 = .ok (.aload_n 1, 1) := by decide +kernel
theorem d34 : decode yB 34 = .ok (.iload_n 2, 1) := by decide +kernel
theorem d35 : decode yB 35 = .ok (.iload_n 3, 1) := by decide +kernel
theorem d36 : decode yB 36 = .ok (.invokestatic 177, 3) := by decide +kernel
theorem d39 : decode yB 39 = .ok (.astore 5, 2) := by decide +kernel
theorem d41 : decode yB 41 = .ok (.aload_n 0, 1) := by decide +kernel
theorem d42 : decode yB 42 = .ok (.aload 5, 2) := by decide +kernel
theorem d44 : decode yB 44 = .ok (.iload_n 3, 1) := by decide +kernel
theorem d45 : decode yB 45 = .ok (.invokestatic 47, 3) := by decide +kernel
theorem d48 : decode yB 48 = .ok (.putfield 15, 3) := by decide +kernel
theorem d51 : decode yB 51 = .ok (.aload_n 0, 1) := by decide +kernel
theorem d52 : decode yB 52 = .ok (.aload 5, 2) := by decide +kernel
theorem d54 : decode yB 54 = .ok (.putfield 9, 3) := by decide +kernel
theorem d57 : decode yB 57 = .ok (.return_, 1) := by decide +kernel
def site : List Cond := [.fieldLink "java/lang/String" 38 "java/lang/String" "COMPACT_STRINGS" "Z", Cmp3.tab, CodL.tab, .laysFinal "java/lang/String" "java/lang/String" "value" "[B", .fieldLink "java/lang/String" 9 "java/lang/String" "value" "[B", .laysFinal "java/lang/String" "java/lang/String" "coder" "B", .fieldLink "java/lang/String" 15 "java/lang/String" "coder" "B"] ++ objW "java/lang/String" 1 ++ staticW "java/lang/String" 177 Cmp3.yN ++ staticW "java/lang/String" 47 CodL.yN
def tab : Cond := tabOf yN yB 6 none site
def P (a : Addr) (D : Cell) (fV fC : Field) (b : Addr) (A : Cell) (z : Int32) (o len : Nat) (args : Array Value) (s : State) : Prop := args = #[.ref a, .ref b, .int (Int32.ofNat o), .int (Int32.ofNat len), .null] ∧ Blank "java/lang/String" a D s ∧ Found "java/lang/String" "value" "[B" fV s ∧ Found "java/lang/String" "coder" "B" fC s ∧ Ch b A s ∧ StaticIs s "java/lang/String" "COMPACT_STRINGS" "Z" (.int z) ∧ ¬ z = 0 ∧ 0 < len ∧ o + len ≤ A.slots.size ∧ len ≤ 536870912 ∧ ∀ i, i < len → ¬ 255 < cv A (o + i)
def E (a : Addr) (D : Cell) (fV fC : Field) (A : Cell) (o len : Nat) (r : Option Value) (s u : State) : Prop := Got a D fV fC A o len r s u
/-- len > 0, no char of the range above 255: a Latin-1 String of their low bytes -/
theorem law (l : Launch) (a : Addr) (D : Cell) (fV fC : Field) (b : Addr) (A : Cell) (z : Int32) (o len : Nat) : Law l yN 5 4 2 35 yB 6 none site (P a D fV fC b A z o len) (E a D fV fC A o len) [⟨a, fC.slot⟩, ⟨a, fV.slot⟩] 1 len := by
  refine Law.of_walk (plainFor_of_name (by decide +kernel)) (by decide +kernel) (by decide +kernel) (by decide) (fun _ _ h => by rw [h.1]; rfl) (fun _ U U' hal hh h => ⟨h.1, h.2.1.mv hal hh, h.2.2.1.al hal, h.2.2.2.1.al hal, h.2.2.2.2.1.mv hal hh, h.2.2.2.2.2.1.there hal hh, h.2.2.2.2.2.2⟩) (fun r U U' V V' h1 hal h2 h => Got.mv r U U' V V' h1 hal h2 h) ?_
  intro p e s m args below meth c s₁ X0 hexec hbytes hml hret hlk hnm hown hh0 W hP
  obtain ⟨rfl, hB, f1, f2, hA, s1, hz, l0, l1, l2, hp⟩ := hP
  have a31 := hA.1.2.2.2
  have c1 : Steps p.tables e below (s₁.setTop (entryFrame m #[.ref a, .ref b, .int (Int32.ofNat o), .int (Int32.ofNat len), .null] 6)) (s₁.setTop (mkF m 0 #[.val (.ref a), .val (.ref b), .val (.int (Int32.ofNat o)), .val (.int (Int32.ofNat len)), .val .null, .unset] [])) := entry rfl
  have c2 : Steps p.tables e below (s₁.setTop (entryFrame m #[.ref a, .ref b, .int (Int32.ofNat o), .int (Int32.ofNat len), .null] 6)) (s₁.setTop (mkF m 1 #[.val (.ref a), .val (.ref b), .val (.int (Int32.ofNat o)), .val (.int (Int32.ofNat len)), .val .null, .unset] [.ref a])) := c1.trans (by
    refine XS.aloadN X0.here hexec rfl (hb hbytes d0) rfl rfl ?_
    exact Steps.refl _)
  obtain ⟨T3, X3, q3, st3⟩ := X0.oinit hexec hown (wks W (objW "java/lang/String" 1)) (g := (mkF m 1 #[.val (.ref a), .val (.ref b), .val (.int (Int32.ofNat o)), .val (.int (Int32.ofNat len)), .val .null, .unset] [.ref a])) rfl (by rw [hml]; rfl) (rest := []) rfl (hb hbytes d1) (W := 0) (by show 2 * 0 + 0 ≤ _; decide) (Nat.le_of_ble_eq_true rfl) (Nat.le_of_ble_eq_true rfl)
  have hh3 := q3.trans hh0
  have c4 : Steps p.tables e below (s₁.setTop (entryFrame m #[.ref a, .ref b, .int (Int32.ofNat o), .int (Int32.ofNat len), .null] 6)) (T3.setTop (mkF m 27 #[.val (.ref a), .val (.ref b), .val (.int (Int32.ofNat o)), .val (.int (Int32.ofNat len)), .val .null, .unset] [])) := (c2.trans (st3 _ (Steps.refl _))).trans (by
    refine XS.iloadN X3.here hexec rfl (hb hbytes d4) rfl ?_
    refine XS.ifYes X3.here hexec rfl (pc0 := 5) rfl (hb hbytes d5) rfl (i0_ne_t (nz32 (by omega) l0)) (by decide) rfl ?_
    exact Steps.refl _)
  obtain ⟨T5, X5, q5, st5⟩ := X3.sget hexec hown (wk W (.fieldLink "java/lang/String" 38 "java/lang/String" "COMPACT_STRINGS" "Z")) s1 (fun _ _ h => by rw [hh3]; exact h) (g := (mkF m 27 #[.val (.ref a), .val (.ref b), .val (.int (Int32.ofNat o)), .val (.int (Int32.ofNat len)), .val .null, .unset] [])) rfl (hb hbytes d27)
  have hh5 := q5.trans hh3
  have c6 : Steps p.tables e below (s₁.setTop (entryFrame m #[.ref a, .ref b, .int (Int32.ofNat o), .int (Int32.ofNat len), .null] 6)) (T5.setTop (mkF m 30 #[.val (.ref a), .val (.ref b), .val (.int (Int32.ofNat o)), .val (.int (Int32.ofNat len)), .val .null, .unset] [.int z])) := c4.trans (st5 _ (Steps.refl _))
  have c7 : Steps p.tables e below (s₁.setTop (entryFrame m #[.ref a, .ref b, .int (Int32.ofNat o), .int (Int32.ofNat len), .null] 6)) (T5.setTop (mkF m 36 #[.val (.ref a), .val (.ref b), .val (.int (Int32.ofNat o)), .val (.int (Int32.ofNat len)), .val .null, .unset] [.int (Int32.ofNat len), .int (Int32.ofNat o), .ref b])) := c6.trans (by
    refine XS.ifNo X5.here hexec rfl (hb hbytes d30) rfl (i0_eq_f hz) ?_
    refine XS.aloadN X5.here hexec rfl (hb hbytes d33) rfl rfl ?_
    refine XS.iloadN X5.here hexec rfl (hb hbytes d34) rfl ?_
    refine XS.iloadN X5.here hexec rfl (hb hbytes d35) rfl ?_
    exact Steps.refl _)
  obtain ⟨v8, T8, X8, E8, g8⟩ := X5.callS hexec (Cmp3.law l b A o len) hown (wks W (staticW "java/lang/String" 177 Cmp3.yN)) (wk W Cmp3.tab) (W := 0) (Nat.le_of_ble_eq_true rfl) (Nat.le_of_ble_eq_true rfl) (Nat.le_refl _) (by show 0 + len ≤ len; omega) (g := (mkF m 36 #[.val (.ref a), .val (.ref b), .val (.int (Int32.ofNat o)), .val (.int (Int32.ofNat len)), .val .null, .unset] [.int (Int32.ofNat len), .int (Int32.ofNat o), .ref b])) rfl (by rw [hml]; rfl) c7 (argsL := [.ref b, .int (Int32.ofNat o), .int (Int32.ofNat len)]) (rest := []) rfl rfl (by show 2 * 0 + 0 ≤ _; decide) (hb hbytes d36) (⟨rfl, hA.mv X5.warmed.alike hh5, l1, l2, hp⟩)
  obtain ⟨e8, z8⟩ := E8
  obtain ⟨rfl, N, n1, n2, n3, n4, n5, n6⟩ := NewArr.mv _ T5 s _ _ hh5.symm (Vm.Alike.refl _) rfl e8
  rw [hh5] at z8
  have hB1 := hB.keep X8.warmed.alike (n6 _ _ hB.1)
  have hne : s.heap.size ≠ a := (Nat.ne_of_lt (Array.getElem?_eq_some_iff.mp hB.1).1).symm
  have c9 : Steps p.tables e below (s₁.setTop (entryFrame m #[.ref a, .ref b, .int (Int32.ofNat o), .int (Int32.ofNat len), .null] 6)) (T8.setTop (mkF m 39 #[.val (.ref a), .val (.ref b), .val (.int (Int32.ofNat o)), .val (.int (Int32.ofNat len)), .val .null, .unset] [.ref s.heap.size])) := g8
  have c10 : Steps p.tables e below (s₁.setTop (entryFrame m #[.ref a, .ref b, .int (Int32.ofNat o), .int (Int32.ofNat len), .null] 6)) (T8.setTop (mkF m 45 #[.val (.ref a), .val (.ref b), .val (.int (Int32.ofNat o)), .val (.int (Int32.ofNat len)), .val .null, .val (.ref s.heap.size)] [.int (Int32.ofNat N.slots.size), .ref s.heap.size, .ref a])) := by
    have hc : Steps p.tables e below (s₁.setTop (entryFrame m #[.ref a, .ref b, .int (Int32.ofNat o), .int (Int32.ofNat len), .null] 6)) (T8.setTop (mkF m 45 #[.val (.ref a), .val (.ref b), .val (.int (Int32.ofNat o)), .val (.int (Int32.ofNat len)), .val .null, .val (.ref s.heap.size)] [.int (Int32.ofNat len), .ref s.heap.size, .ref a])) := c9.trans (by
      refine XS.astore X8.here hexec rfl (hb hbytes d39) rfl rfl rfl ?_
      refine XS.aloadN X8.here hexec rfl (hb hbytes d41) rfl rfl ?_
      refine XS.aload X8.here hexec rfl (hb hbytes d42) rfl rfl ?_
      refine XS.iloadN X8.here hexec rfl (hb hbytes d44) rfl ?_
      exact Steps.refl _)
    rw [n4]; exact hc
  obtain ⟨v11, T11, X11, E11, g11⟩ := X8.callS hexec (CodL.law l s.heap.size N) hown (wks W (staticW "java/lang/String" 47 CodL.yN)) (wk W CodL.tab) (W := 1) (Nat.le_of_ble_eq_true rfl) (Nat.le_of_ble_eq_true rfl) (Nat.le_refl _) (by show 0 + len + 0 ≤ len; omega) (g := (mkF m 45 #[.val (.ref a), .val (.ref b), .val (.int (Int32.ofNat o)), .val (.int (Int32.ofNat len)), .val .null, .val (.ref s.heap.size)] [.int (Int32.ofNat N.slots.size), .ref s.heap.size, .ref a])) rfl (by rw [hml]; rfl) c10 (argsL := [.ref s.heap.size, .int (Int32.ofNat N.slots.size)]) (rest := [.ref a]) rfl rfl (by show 2 * 0 + (1 + 0) ≤ _; decide) (hb hbytes d45) (⟨rfl, n1⟩)
  obtain ⟨rfl, q11⟩ := E11
  have hB11 := hB1.mv (X8.warmed.alike.symm.trans X11.warmed.alike) q11
  have c12 : Steps p.tables e below (s₁.setTop (entryFrame m #[.ref a, .ref b, .int (Int32.ofNat o), .int (Int32.ofNat len), .null] 6)) (T11.setTop (mkF m 48 #[.val (.ref a), .val (.ref b), .val (.int (Int32.ofNat o)), .val (.int (Int32.ofNat len)), .val .null, .val (.ref s.heap.size)] [.int 0, .ref a])) := g11
  obtain ⟨T13, X13, p13, bl13, sl13, st13⟩ := X11.finit hexec hown (wk W (.fieldLink "java/lang/String" 15 "java/lang/String" "coder" "B")) (Or.inr ⟨_, (wk W (.laysFinal "java/lang/String" "java/lang/String" "coder" "B"))⟩) (Or.inl ⟨rfl, hnm⟩) f2 (Or.inl rfl) hB11 (t := .byte) (by decide +kernel) rfl (g := (mkF m 48 #[.val (.ref a), .val (.ref b), .val (.int (Int32.ofNat o)), .val (.int (Int32.ofNat len)), .val .null, .val (.ref s.heap.size)] [.int 0, .ref a])) rfl (rest := []) rfl (hb hbytes d48)
  have c14 : Steps p.tables e below (s₁.setTop (entryFrame m #[.ref a, .ref b, .int (Int32.ofNat o), .int (Int32.ofNat len), .null] 6)) (T13.setTop (mkF m 54 #[.val (.ref a), .val (.ref b), .val (.int (Int32.ofNat o)), .val (.int (Int32.ofNat len)), .val .null, .val (.ref s.heap.size)] [.ref s.heap.size, .ref a])) := (c12.trans (st13 _ (Steps.refl _))).trans (by
    refine XS.aloadN X13.here hexec rfl (hb hbytes d51) rfl rfl ?_
    refine XS.aload X13.here hexec rfl (hb hbytes d52) rfl rfl ?_
    exact Steps.refl _)
  obtain ⟨T15, X15, p15, bl15, sl15, st15⟩ := X13.finit hexec hown (wk W (.fieldLink "java/lang/String" 9 "java/lang/String" "value" "[B")) (Or.inr ⟨_, (wk W (.laysFinal "java/lang/String" "java/lang/String" "value" "[B"))⟩) (Or.inl ⟨rfl, hnm⟩) f1 (Or.inl rfl) bl13 (t := (.array .byte)) (by decide +kernel) rfl (g := (mkF m 54 #[.val (.ref a), .val (.ref b), .val (.int (Int32.ofNat o)), .val (.int (Int32.ofNat len)), .val .null, .val (.ref s.heap.size)] [.ref s.heap.size, .ref a])) rfl (rest := []) rfl (hb hbytes d54)
  have c16 : Steps p.tables e below (s₁.setTop (entryFrame m #[.ref a, .ref b, .int (Int32.ofNat o), .int (Int32.ofNat len), .null] 6)) (T15.setTop (mkF m 57 #[.val (.ref a), .val (.ref b), .val (.int (Int32.ofNat o)), .val (.int (Int32.ofNat len)), .val .null, .val (.ref s.heap.size)] [])) := c14.trans (st15 _ (Steps.refl _))
  have ap := apart (Or.inr ⟨_, (wk W (.laysFinal "java/lang/String" "java/lang/String" "value" "[B"))⟩) (Or.inr ⟨_, (wk W (.laysFinal "java/lang/String" "java/lang/String" "coder" "B"))⟩) f1 f2 (t₁ := .array .byte) (t₂ := .byte) (by decide +kernel) (by decide +kernel) (by decide)
  have al := X8.warmed.alike.symm.trans X15.warmed.alike
  have n7 : T11.heap[s.heap.size]? = some N := by rw [q11]; exact n1.1
  exact ⟨T15, none, _, _, _, X15, by simp, rfl, by omega, (fun _ => rfl), ⟨rfl, _, N, bl15, ((Same.refl D _).set _ (by simp)).set _ (by simp), sl15, (Cell.slots_setSlot_ne _ ap).trans sl13, n1.keep al (p15.other hne (p13.other hne n7)), n2, by rw [al.findClass]; exact n3, n4, n5, fun y c h1 h2 => p15.other h1 (p13.other h1 (by rw [q11]; exact n6 y c h2)), by rw [p15.2.2, p13.2.2, q11]; exact z8⟩, fun fs hl => c16.trans (X15.returnOut hexec hret (hb hbytes d57) hl)⟩
end New4
namespace New1
def yN : MethodName := ⟨"java/lang/String", "<init>", "([C)V"⟩
abbrev yB : ByteArray := jdk_42_method_3_code
theorem d0 : decode yB 0 = .ok (.aload_n 0, 1) := by decide +kernel
theorem d1 : decode yB 1 = .ok (.aload_n 1, 1) := by decide +kernel
theorem d2 : decode yB 2 = .ok (.iconst 0, 1) := by decide +kernel
theorem d3 : decode yB 3 = .ok (.aload_n 1, 1) := by decide +kernel
theorem d4 : decode yB 4 = .ok (.arraylength, 1) := by decide +kernel
theorem d5 : decode yB 5 = .ok (.aconst_null, 1) := by decide +kernel
theorem d6 : decode yB 6 = .ok (.invokespecial 27, 3) := by decide +kernel
theorem d9 : decode yB 9 = .ok (.return_, 1) := by decide +kernel
def site : List Cond := [New4.tab] ++ initW "java/lang/String" 27 New4.yN
def tab : Cond := tabOf yN yB 2 none site
def P (a : Addr) (D : Cell) (fV fC : Field) (b : Addr) (A : Cell) (z : Int32) (args : Array Value) (s : State) : Prop := args = #[.ref a, .ref b] ∧ Blank "java/lang/String" a D s ∧ Found "java/lang/String" "value" "[B" fV s ∧ Found "java/lang/String" "coder" "B" fC s ∧ Ch b A s ∧ StaticIs s "java/lang/String" "COMPACT_STRINGS" "Z" (.int z) ∧ ¬ z = 0 ∧ 0 < A.slots.size ∧ A.slots.size ≤ 536870912 ∧ ∀ i, i < A.slots.size → ¬ 255 < cv A i
def E (a : Addr) (D : Cell) (fV fC : Field) (A : Cell) (r : Option Value) (s u : State) : Prop := Got a D fV fC A 0 A.slots.size r s u
/-- new String(chars), not empty, no char above 255: a Latin-1 String of their low bytes -/
theorem law (l : Launch) (a : Addr) (D : Cell) (fV fC : Field) (b : Addr) (A : Cell) (z : Int32) : Law l yN 2 1 3 52 yB 2 none site (P a D fV fC b A z) (E a D fV fC A) [⟨a, fC.slot⟩, ⟨a, fV.slot⟩] 1 A.slots.size := by
  refine Law.of_walk (plainFor_of_name (by decide +kernel)) (by decide +kernel) (by decide +kernel) (by decide) (fun _ _ h => by rw [h.1]; rfl) (fun _ U U' hal hh h => ⟨h.1, h.2.1.mv hal hh, h.2.2.1.al hal, h.2.2.2.1.al hal, h.2.2.2.2.1.mv hal hh, h.2.2.2.2.2.1.there hal hh, h.2.2.2.2.2.2⟩) (fun r U U' V V' h1 hal h2 h => Got.mv r U U' V V' h1 hal h2 h) ?_
  intro p e s m args below meth c s₁ X0 hexec hbytes hml hret hlk hnm hown hh0 W hP
  obtain ⟨rfl, hB, f1, f2, hA, s1, hz, l0, l2, hp⟩ := hP
  have c1 : Steps p.tables e below (s₁.setTop (entryFrame m #[.ref a, .ref b] 2)) (s₁.setTop (mkF m 0 #[.val (.ref a), .val (.ref b)] [])) := entry rfl
  have c2 : Steps p.tables e below (s₁.setTop (entryFrame m #[.ref a, .ref b] 2)) (s₁.setTop (mkF m 6 #[.val (.ref a), .val (.ref b)] [.null, .int (Int32.ofNat A.slots.size), .int 0, .ref b, .ref a])) := c1.trans (by
    refine XS.aloadN X0.here hexec rfl (hb hbytes d0) rfl rfl ?_
    refine XS.aloadN X0.here hexec rfl (hb hbytes d1) rfl rfl ?_
    refine iconstV X0.here hexec rfl 0 (hb hbytes d2) (by decide) ?_
    refine XS.aloadN X0.here hexec rfl (hb hbytes d3) rfl rfl ?_
    refine X0.alen hexec (hA.1.mv X0.warmed.alike hh0) rfl rfl (hb hbytes d4) ?_
    refine XS.aconstNull X0.here hexec rfl (hb hbytes d5) ?_
    exact Steps.refl _)
  obtain ⟨v3, T3, X3, E3, g3⟩ := X0.callN hexec (New4.law l a D fV fC b A z 0 A.slots.size) rfl hown (wks W (initW "java/lang/String" 27 New4.yN)) (W New4.tab (by simp only [site, List.mem_cons, List.mem_append, true_or, or_true])) (W := 0) (Nat.le_of_ble_eq_true rfl) (Nat.le_of_ble_eq_true rfl) (Nat.le_refl _) (by show 0 + A.slots.size ≤ A.slots.size; omega) (g := (mkF m 6 #[.val (.ref a), .val (.ref b)] [.null, .int (Int32.ofNat A.slots.size), .int (Int32.ofNat 0), .ref b, .ref a])) rfl (by rw [hml]; rfl) c2 (argsL := [.ref b, .int (Int32.ofNat 0), .int (Int32.ofNat A.slots.size), .null]) (rest := []) rfl rfl (by show 2 * 0 + 0 ≤ _; decide) (hb hbytes d6) (⟨rfl, hB.mv X0.warmed.alike hh0, f1.al X0.warmed.alike, f2.al X0.warmed.alike, hA.mv X0.warmed.alike hh0, s1.there X0.warmed.alike hh0, hz, l0, by omega, l2, fun i hi => by rw [Nat.zero_add]; exact hp i hi⟩)
  have e0 := Got.mv _ s₁ s _ _ hh0.symm (Vm.Alike.refl _) rfl E3
  obtain rfl := e0.1
  have c4 : Steps p.tables e below (s₁.setTop (entryFrame m #[.ref a, .ref b] 2)) (T3.setTop (mkF m 9 #[.val (.ref a), .val (.ref b)] [])) := g3
  exact ⟨T3, none, _, _, _, X3, by simp, rfl, by omega, (fun _ => rfl), e0, fun fs hl => c4.trans (X3.returnOut hexec hret (hb hbytes d9) hl)⟩
theorem pays {l : Launch} {R : Room} {p : Program} {e : Env} {below : List Frame} {s : State} {sargs : Array Value} {len W : Nat} (a : Addr) (D : Cell) (fV fC : Field) (b : Addr) (A : Cell) (z : Int32) (htab : tab.before sargs s = true) (hfr : 4 ≤ R.frames) (hlo : W + 65 ≤ R.locals) :
    Back l R p e below s sargs yN len W (fun A₁ a₁ => A₁.cells + 1 ≤ R.cells ∧ A₁.slots + A.slots.size ≤ R.slots ∧ P a D fV fC b A z a₁ A₁.U) (fun A₁ _ v₁ B₁ => E a D fV fC A v₁ A₁.U B₁.U ∧ B₁.locs = A₁.locs ++ [⟨a, fC.slot⟩, ⟨a, fV.slot⟩] ∧ B₁.cells = A₁.cells + 1 ∧ B₁.slots = A₁.slots + A.slots.size) :=
  (law l a D fV fC b A z).pays htab hfr (by omega)
end New1
/-- the byte, read back as charAt reads it, is the char -/
theorem lo8_mask {x : Int32} (h0 : ¬ x < 0) (h1 : ¬ 255 < x) : lo8 x &&& 255 = x := by
  have t : ∀ k : Fin 256, lo8 (Int32.ofNat k.val) &&& 255 = Int32.ofNat k.val := by decide +kernel
  rw [Int32.lt_iff_toInt_lt] at h0 h1
  have e0 : (0 : Int32).toInt = 0 := rfl
  have e1 : (255 : Int32).toInt = 255 := rfl
  obtain ⟨k, hk⟩ : ∃ k : Nat, x.toInt = k := ⟨x.toInt.toNat, by omega⟩
  have hx : x = Int32.ofNat k := Int32.toInt_inj.mp (by rw [hk, Int32.toInt_ofNat_small (by omega)])
  rw [hx]
  exact t ⟨k, by omega⟩
end StrChars
namespace StrChars.Road
open Jvm Sem ClassFile Op Lib Jvm.Stand Jvm.Free Jvm.Free.XT
open Jvm.Lib.Cold (StaticIs)
abbrev ST : String := "java/lang/String"
/-- every table word that New1's law asks, flat -/
abbrev words : List Jvm.Cond := [.code New1.yN New1.yB 2 none, .initialized ST, .methodLink ST 27 New4.yN, .instanceMethod New4.yN,
  .code New4.yN New4.yB 6 none, .fieldLink ST 38 ST "COMPACT_STRINGS" "Z", .laysFinal ST ST "value" "[B", .fieldLink ST 9 ST "value" "[B", .laysFinal ST ST "coder" "B", .fieldLink ST 15 ST "coder" "B",
  .methodLink ST 1 Lib.objectInit, .instanceMethod Lib.objectInit, .code Lib.objectInit ⟨#[0xb1]⟩ 1 none, .methodLink ST 177 Cmp3.yN, .static Cmp3.yN, .methodLink ST 47 CodL.yN, .static CodL.yN,
  .code Cmp3.yN Cmp3.yB 6 (some (.array .byte)), .initialized U16, .arrayClass .byte, .methodLink U16 115 Cmp5.yN, .static Cmp5.yN, .code Cmp5.yN Cmp5.yB 7 (some .int), .code CodL.yN CodL.yB 2 (some .byte)]
theorem tab_of {a : Array Value} {s : State} (h : ∀ w ∈ words, w.before a s = true) : New1.tab.before a s = true := by
  have h5 : Cmp5.tab.before a s = true := unparts (wk h (.code Cmp5.yN Cmp5.yB 7 (some .int))) (wks h (.initialized Cmp5.yN.cls :: Cmp5.site))
  have hc : CodL.tab.before a s = true := unparts (wk h (.code CodL.yN CodL.yB 2 (some .byte))) (wks h (.initialized CodL.yN.cls :: CodL.site))
  have q5 : ∀ w ∈ Cmp5.tab :: words, w.before a s = true := fun w hw => (List.mem_cons.mp hw).elim (fun e => e ▸ h5) (h w)
  have h3 : Cmp3.tab.before a s = true := unparts (wk q5 (.code Cmp3.yN Cmp3.yB 6 (some (.array .byte)))) (wks q5 (.initialized Cmp3.yN.cls :: Cmp3.site))
  have q3 : ∀ w ∈ Cmp3.tab :: CodL.tab :: words, w.before a s = true := fun w hw => (List.mem_cons.mp hw).elim (fun e => e ▸ h3) fun hw => (List.mem_cons.mp hw).elim (fun e => e ▸ hc) (h w)
  have h4 : New4.tab.before a s = true := unparts (wk q3 (.code New4.yN New4.yB 6 none)) (wks q3 (.initialized New4.yN.cls :: New4.site))
  have q4 : ∀ w ∈ New4.tab :: words, w.before a s = true := fun w hw => (List.mem_cons.mp hw).elim (fun e => e ▸ h4) (h w)
  exact unparts (wk q4 (.code New1.yN New1.yB 2 none)) (wks q4 (.initialized New1.yN.cls :: New1.site))
/-- the words ride from the start Z to the walk's own state -/
theorem moved {Z s : State} {a0 args : Array Value} (hZ : Z.Warmed39 s.vm) (hw : ∀ d ∈ words, d.before a0 Z = true) : ∀ d ∈ words, d.before args s = true := fun d hd => by
  have q := hw d hd
  have t : ∀ d ∈ words, d = .arrayClass .byte ∨ (d.onTables && d.keepsFace) = true := by decide +kernel
  rcases t d hd with rfl | t
  · exact RoadKit.mvA hZ q
  · exact RoadKit.mv hZ q t
/-- WHAT COMES BACK, over the tables of the start Z: h the heap at the call, h' behind it -/
def Q (Z : State) (x : Addr) (A : Cell) (h : Heap) (v : Option Value) (h' : Heap) (L : List Loc) : Prop := v = none ∧ (∀ y ∈ L, y.base = x) ∧ RoadKit.Keep h h' [x] ∧ h'.size = h.size + 1 ∧ RoadKit.Exa Z h' x ST ∧ RoadKit.Fld Z h' x ST "value" "[B" (.ref h.size) ∧ RoadKit.Fld Z h' x ST "coder" "B" (.int 0) ∧
  (∃ V : Cell, RoadKit.Arr Z h' h.size V .byte ∧ V.vm = .none ∧ Z.vm.findClass "[B" = some V.cls ∧ V.slots.size = A.slots.size ∧ ∀ j, j < A.slots.size → V.slots[j]? = some (.int (lo8 (cv A j)))) ∧
  ∀ (O n d : String) (w : Value), RoadKit.Fld Z h x O n d w → RoadKit.slotOf Z O n d ≠ RoadKit.slotOf Z ST "value" "[B" → RoadKit.slotOf Z O n d ≠ RoadKit.slotOf Z ST "coder" "B" → RoadKit.Fld Z h' x O n d w
/-- **new String(chars) AT A CALL, IN THE ROAD'S FORM**: for specialBack behind newO: x the fresh String, b the char[] with the cell A -/
theorem back {p : Program} {l : Launch} {e : Env} {R : Room} {s : State} {args : Array Value} {below : List Frame} {len W : Nat} {Z : State} {a0 : Array Value} {h : Heap} (hZ : Z.Warmed39 s.vm) (hw : ∀ d ∈ words, d.before a0 Z = true) {kI : Nat} (wi : (Jvm.Cond.instantiable ST kI).before a0 Z = true)
    {x b : Addr} {A : Cell} {z : Int32} {v0 c0 : Value} (E : RoadKit.Exa Z h x ST) (V : RoadKit.Fld Z h x ST "value" "[B" v0) (C : RoadKit.Fld Z h x ST "coder" "B" c0) (K : RoadKit.Arr Z h b A .char) (hty : Typed .char A) (S : RoadKit.Sta Z h ST "COMPACT_STRINGS" "Z" (.int z)) (hz : ¬ z = 0)
    (l0 : 0 < A.slots.size) (l2 : A.slots.size ≤ 536870912) (hp : ∀ i, i < A.slots.size → ¬ 255 < cv A i) (hfr : 4 ≤ R.frames) (hlo : W + 65 ≤ R.locals) :
    Back l R p e below s args New1.yN len W (fun P a => a = #[.ref x, .ref b] ∧ P.U.heap = h ∧ P.cells + 1 ≤ R.cells ∧ P.slots + A.slots.size ≤ R.slots)
      (fun P _ v B => ∃ L, Q Z x A h v B.U.heap L ∧ B.locs = P.locs ++ L ∧ B.cells = P.cells + 1 ∧ B.slots = P.slots + A.slots.size) := by
  intro m meth c P g ig mk a X hg hsize hdg hW hn hp'
  obtain ⟨rfl, rfl, r1, r2⟩ := hp'
  have al : Z.vm.Alike P.U.vm := hZ.alike.trans X.warmed.alike
  obtain ⟨D, cfV, kV, iV, fV, hD, gV, stV, knV, obV, asV, slV⟩ := id V
  obtain ⟨D', cfC, kC, iC, fC, hD', gC, stC, -, -, asC, slC⟩ := id C
  cases hD.symm.trans hD'
  obtain ⟨D2, kD, e1, e2, e3, e4, e5⟩ := id E
  cases hD.symm.trans e1
  obtain ⟨c2, k2, i1, i2, i3, -⟩ := Cond.instantiable_spec wi
  cases e2.symm.trans i1
  cases e3.symm.trans i2
  obtain ⟨kU, u1, u2⟩ := al.2.2 _ _ e3
  have hB : Blank ST x D P.U := ⟨hD, ⟨knV, fun q hq => by rw [hq] at obV; cases obV⟩, by rw [al.findClass]; exact e2, kU, u1, by rw [u2]; exact i3, by rw [u2]; exact e5 i3⟩
  have F1 : Found ST "value" "[B" fV P.U := ⟨SBG.found_only al ⟨cfV, kV, iV, gV⟩, stV⟩
  have F2 : Found ST "coder" "B" fC P.U := ⟨SBG.found_only al ⟨cfC, kC, iC, gC⟩, stC⟩
  have hA : Ch b A P.U := ⟨⟨K.1, State.isArrayOf_alike al K.2.1, K.2.2, by omega⟩, hty⟩
  have hS : StaticIs P.U ST "COMPACT_STRINGS" "Z" (.int z) := by
    obtain ⟨cfS, iS, kS, fS, st, cS, t1, t2, t3, t4, t5, t6, t7⟩ := S
    exact StaticIs.there (s := { Z with heap := P.U.heap }) ⟨cfS, iS, kS, fS, st, cS, t1, t2, t3, t4, t5, (fun q => by rw [q] at t6; cases t6), t7⟩ al rfl
  obtain ⟨v, B, X', ⟨⟨hv, E', V', q1, q2, q3, q4, q5, q6, q7, q8, q9, q10, q11⟩, hl, hc, hs⟩, st⟩ := New1.pays x D fV fC b A z (tab_of (moved hZ hw)) hfr hlo m meth c P g ig mk _ X hg hsize hdg hW hn ⟨r1, r2, rfl, hB, F1, F2, hA, hS, hz, l0, l2, hp⟩
  have al' : Z.vm.Alike B.U.vm := hZ.alike.trans X'.warmed.alike
  have hsz : E'.slots.size = D.slots.size := by
    obtain ⟨-, -, -, kB, w1, w2, w3⟩ := q1
    obtain ⟨kB', y1, y2⟩ := al'.2.2 _ _ e3
    rw [q2.2.1] at w1
    cases w1.symm.trans y1
    rw [w3, e5 i3, y2]
  refine ⟨v, B, X', ⟨_, ⟨hv, ?_, ⟨by omega, fun y cy hy hn' => q10 y cy (by simpa using hn') hy, fun y cy hy => ?_⟩, q11, ⟨E', _, q1.1, by rw [q2.2.1]; exact e2, by rw [q2.2.1]; exact e3, by rw [q2.1]; exact obV, fun _ => by rw [hsz]; exact e5 i3⟩,
    ⟨E', cfV, kV, iV, fV, q1.1, gV, stV, by rw [q2.1]; exact knV, by rw [q2.1]; exact obV, by rw [q2.2.1]; exact asV, q3⟩, ⟨E', cfC, kC, iC, fC, q1.1, gC, stC, by rw [q2.1]; exact knV, by rw [q2.1]; exact obV, by rw [q2.2.1]; exact asC, q4⟩,
    ⟨V', ⟨q5.1, State.isArrayOf_alike al'.symm q5.2.1, q5.2.2.1⟩, q6, by rw [← al'.findClass]; exact q7, q8, fun j hj => by have := q9 j hj; rwa [Nat.zero_add] at this⟩, fun O n d w F n1 n2 => ?_⟩, hl, hc, hs⟩, st⟩
  · intro y hy
    simp only [List.mem_cons, List.not_mem_nil, or_false] at hy
    rcases hy with rfl | rfl <;> rfl
  · by_cases q : y = x
    · subst q
      cases hD.symm.trans hy
      exact ⟨E', q1.1, q2.2.1, q2.1, hsz⟩
    · exact ⟨cy, q10 y cy q hy, rfl, rfl, rfl⟩
  · obtain ⟨D3, cf, k, i, f, g1, g2, g3, g4, g5, g6, g7⟩ := F
    cases hD.symm.trans g1
    simp only [RoadKit.slotOf, g2, gV, gC, Option.map_some, Option.getD_some] at n1 n2
    exact ⟨E', cf, k, i, f, q1.1, g2, g3, by rw [q2.1]; exact g4, by rw [q2.1]; exact g5, by rw [q2.2.1]; exact g6, by rw [q2.2.2 f.slot (by simp [n1, n2])]; exact g7⟩
end StrChars.Road
namespace StrChars.Road
open Jvm Sem ClassFile Op Lib Jvm.Stand Jvm.Free Jvm.Free.XT
/-- WHAT COMES BACK, the byte[] as a list of values -/
def QA (Z : State) (x : Addr) (zn : Int32) (cs : List Int32) (h : Heap) (v : Option Value) (h' : Heap) (L : List Loc) : Prop := v = none ∧ (∀ y ∈ L, y.base = x) ∧ RoadKit.Keep h h' [x] ∧ h'.size = h.size + 1 ∧ RoadKit.Exa Z h' x ST ∧ RoadKit.Fld Z h' x ST "value" "[B" (.ref h.size) ∧ RoadKit.Fld Z h' x ST "coder" "B" (.int 0) ∧
  (∃ kb, Z.vm.findClass "[B" = some kb ∧ RoadKit.Arv Z h' h.size kb .byte zn (cs.map fun c => .int (lo8 c)) (.int 0)) ∧
  ∀ (O n d : String) (w : Value), RoadKit.Fld Z h x O n d w → RoadKit.slotOf Z O n d ≠ RoadKit.slotOf Z ST "value" "[B" → RoadKit.slotOf Z O n d ≠ RoadKit.slotOf Z ST "coder" "B" → RoadKit.Fld Z h' x O n d w
/-- **new String(chars) AT A CALL, THE ARRAYS AS LISTS**: the char[] at b holds cs, not empty, no char above 255 -/
theorem backArv {p : Program} {l : Launch} {e : Env} {R : Room} {s : State} {args : Array Value} {below : List Frame} {len W : Nat} {Z : State} {a0 : Array Value} {h : Heap} (hZ : Z.Warmed39 s.vm) (hw : ∀ d ∈ words, d.before a0 Z = true) {kI : Nat} (wi : (Jvm.Cond.instantiable ST kI).before a0 Z = true)
    {x b : Addr} {k : ClassId} {zn z : Int32} {cs : List Int32} {dv v0 c0 : Value} (E : RoadKit.Exa Z h x ST) (V : RoadKit.Fld Z h x ST "value" "[B" v0) (C : RoadKit.Fld Z h x ST "coder" "B" c0) (K : RoadKit.Arv Z h b k .char zn (cs.map Value.int) dv) (S : RoadKit.Sta Z h ST "COMPACT_STRINGS" "Z" (.int z)) (hz : ¬ z = 0)
    (hlen : zn.toNatClampNeg = cs.length) (h0 : 0 < cs.length) (hbig : cs.length ≤ 536870912) (hall : ∀ c ∈ cs, ¬ 255 < c) (hfr : 4 ≤ R.frames) (hlo : W + 65 ≤ R.locals) :
    Back l R p e below s args New1.yN len W (fun P a => a = #[.ref x, .ref b] ∧ P.U.heap = h ∧ P.cells + 1 ≤ R.cells ∧ P.slots + cs.length ≤ R.slots)
      (fun P _ v B => ∃ L, QA Z x zn cs h v B.U.heap L ∧ B.locs = P.locs ++ L ∧ B.cells = P.cells + 1 ∧ B.slots = P.slots + cs.length) := by
  obtain ⟨A, K1, K2, K3, K4, K5, K6⟩ := K
  have e : A.slots.size = cs.length := K3.trans hlen
  have hat : ∀ (i : Nat) (hi : i < cs.length), A.slots[i]? = some (.int cs[i]) := fun i hi => by rw [K5 i (by omega)]; simp [List.getD_eq_getElem?_getD, hi]
  have hcv : ∀ (i : Nat) (hi : i < cs.length), cv A i = cs[i] := fun i hi => by unfold cv; rw [hat i hi]
  have hty : Typed .char A := fun i v hv => by
    have hi : i < A.slots.size := (Array.getElem?_eq_some_iff.mp hv).1
    have q := K5 i hi
    rw [hv] at q
    rw [Option.some.inj q]
    exact K6 i hi
  refine Back.mono (back hZ hw wi E V C K1 hty S hz (by omega) (by omega) (fun i hi => by rw [hcv i (by omega)]; exact hall _ (List.getElem_mem _)) hfr hlo) (fun P a hp => ⟨hp.1, hp.2.1, hp.2.2.1, by rw [e]; exact hp.2.2.2⟩) (fun P a v B hp hq => ?_)
  obtain ⟨L, ⟨q1, q2, q3, q4, q5, q6, q7, ⟨V', v1, v2, v3, v4, v5⟩, q9⟩, hl, hc, hs⟩ := hq
  refine ⟨L, ⟨q1, q2, q3, q4, q5, q6, q7, ⟨V'.cls, v3, V', v1, rfl, by rw [v4, e, hlen], K4, fun i hi => ?_, fun i hi => ?_⟩, q9⟩, hl, hc, by rw [hs, e]⟩
  · have hi' : i < cs.length := by omega
    rw [v5 i (by omega), hcv i hi']; simp [List.getD_eq_getElem?_getD, hi']
  · have hi' : i < cs.length := by omega
    simp only [List.getD_eq_getElem?_getD, List.getElem?_map, List.getElem?_eq_getElem hi', Option.map_some, Option.getD_some]
    exact fits_lo8 _
end StrChars.Road
namespace StrChars.Road
open Jvm Sem ClassFile Op Lib Jvm.Stand Jvm.Free Jvm.Free.XT
/-- WHAT COMES BACK, in the writer's own shape -/
def QV (Z : State) (x : Addr) (N : Int32) (bs : List Int32) (h : Heap) (n0 : Nat) (v : Option Value) (h' : Heap) (L : List Loc) : Prop := v = none ∧ RoadKit.Fr n0 L ∧ RoadKit.Keep h h' [x] ∧ RoadKit.Exa Z h' x ST ∧ RoadKit.Fld Z h' x ST "coder" "B" (.int 0) ∧
  ∃ (t : Addr) (kb : ClassId), n0 ≤ t ∧ h.size ≤ t ∧ ¬ t = x ∧ RoadKit.Fld Z h' x ST "value" "[B" (.ref t) ∧ RoadKit.Arv Z h' t kb .byte N (bs.map Value.int) (.int 0)
/-- **new String(chars) AT A CALL, FOR THE WRITER**: a char[] of n known ints, each 0 to 255 -/
theorem backV {p : Program} {l : Launch} {e : Env} {R : Room} {s : State} {args : Array Value} {below : List Frame} {len W : Nat} {Z : State} {a0 : Array Value} {h : Heap} (hZ : Z.Warmed39 s.vm) (hw : ∀ d ∈ words, d.before a0 Z = true) {kI : Nat} (wi : (Jvm.Cond.instantiable ST kI).before a0 Z = true)
    {x b : Addr} {kC : ClassId} {cs bs : List Int32} {d v0 c0 : Value} {z N : Int32} {n n0 : Nat} (hx0 : n0 ≤ x) (hh0 : n0 ≤ h.size) (E : RoadKit.Exa Z h x ST) (V : RoadKit.Fld Z h x ST "value" "[B" v0) (C : RoadKit.Fld Z h x ST "coder" "B" c0) (K : RoadKit.Arv Z h b kC .char N (cs.map Value.int) d) (S : RoadKit.Sta Z h ST "COMPACT_STRINGS" "Z" (.int z)) (hz : ¬ z = 0)
    (hn : cs.length = n) (hN : N = Int32.ofNat n) (l0 : 0 < n) (l2 : n ≤ 4000) (hp : ∀ c ∈ cs, ¬ c < 0 ∧ ¬ (255 : Int32) < c) (hb : bs = cs.map (fun c => c.toInt8.toInt32)) (hfr : 4 ≤ R.frames) (hlo : W + 65 ≤ R.locals) :
    Back l R p e below s args (⟨"java/lang/String", "<init>", "([C)V"⟩ : MethodName) len W (fun P a => a = #[.ref x, .ref b] ∧ P.U.heap = h ∧ P.cells + 1 ≤ R.cells ∧ P.slots + n ≤ R.slots)
      (fun P _ v B => ∃ L, QV Z x N bs h n0 v B.U.heap L ∧ B.locs = P.locs ++ L ∧ B.cells = P.cells + 1 ∧ B.slots = P.slots + n) := by
  subst hn hN hb
  refine Back.mono (backArv hZ hw wi E V C K S hz (n32 (by omega)) l0 (by omega) (fun c hc => (hp c hc).2) hfr hlo) (fun P a hp => hp) (fun P a v B hp hq => ?_)
  obtain ⟨L, ⟨q1, q2, q3, q4, q5, q6, q7, ⟨kb, v1, v2⟩, q9⟩, hl, hc, hs⟩ := hq
  exact ⟨L, ⟨q1, fun y hy => by rw [q2 y hy]; exact hx0, q3, q5, q7, h.size, kb, hh0, Nat.le_refl _, Nat.ne_of_gt E.lt, q6, by rw [List.map_map]; exact v2⟩, hl, hc, hs⟩
end StrChars.Road
namespace StrChars
open Jvm Sem ClassFile Op Lib Jvm.Stand Jvm.Free.XT Jvm.Free.ALB Jvm.Free.JM Jvm.Free
open Jvm.Lib.Cold (StaticIs)
def hi8 (x : Int32) : Int32 := lo8 (x >>> ((8 : Int32) &&& 31))
/-- what StringUTF16.getChar makes of two bytes -/
def pairCh (u v : Int32) : Int32 := (((u &&& 255) <<< ((0 : Int32) &&& 31)) ||| ((v &&& 255) <<< ((8 : Int32) &&& 31))).toUInt32.toUInt16.toUInt32.toInt32
theorem shr0 (c : Int32) : c >>> ((0 : Int32) &&& 31) = c := by
  have e : ((0 : Int32) &&& 31) = 0 := by decide
  rw [e]
  apply Int32.toBitVec_inj.mp
  rw [Int32.toBitVec_shiftRight]
  have e1 : ((0 : Int32).toBitVec.smod 32) = 0#32 := by decide
  rw [e1, BitVec.sshiftRight_eq']
  exact BitVec.sshiftRight_zero
theorem lo8_and (x : Int32) : (lo8 x &&& 255).toBitVec.toNat = x.toBitVec.toNat % 256 := by
  have h : (lo8 x).toBitVec = (x.toBitVec.signExtend 8).signExtend 32 := by rw [lo8, Int8.toBitVec_toInt32, Int32.toBitVec_toInt8]
  rw [Int32.toBitVec_and, BitVec.toNat_and, h]
  have e : ((x.toBitVec.signExtend 8).signExtend 32).toNat % 256 = x.toBitVec.toNat % 256 := by
    rw [BitVec.toNat_signExtend]
    have hlt := x.toBitVec.isLt
    simp only [BitVec.toNat_setWidth, BitVec.toNat_signExtend]
    split <;> split <;> omega
  rw [← e]
  exact Nat.and_two_pow_sub_one_eq_mod _ 8
theorem pair_says {c : Int32} (h0 : ¬ c < 0) (h1 : ¬ 65535 < c) : pairCh (lo8 c) (hi8 c) = c := by
  rw [Int32.lt_iff_toInt_lt] at h0 h1
  have e0 : (0 : Int32).toInt = 0 := rfl
  have e1 : (65535 : Int32).toInt = 65535 := rfl
  have hc : c.toInt = c.toBitVec.toNat := by
    have := c.toBitVec.isLt
    have e : c.toInt = c.toBitVec.toInt := rfl
    rw [e] at h0 h1
    rw [e]
    rw [BitVec.toInt_eq_toNat_cond] at h0 h1 ⊢
    split at h0 <;> split <;> omega
  have hn : c.toBitVec.toNat < 65536 := by omega
  have a1 := lo8_and c
  have a2 : (hi8 c &&& 255).toBitVec.toNat = c.toBitVec.toNat / 256 := by
    rw [hi8, lo8_and]
    have e : ((8 : Int32) &&& 31) = 8 := by decide
    rw [e, Int32.toBitVec_shiftRight]
    have e2 : ((8 : Int32).toBitVec.smod 32) = 8#32 := by decide
    rw [e2, BitVec.sshiftRight_eq', BitVec.toNat_sshiftRight_of_msb_false (by rw [BitVec.msb_eq_false_iff_two_mul_lt]; omega)]
    show c.toBitVec.toNat >>> 8 % 256 = _
    rw [Nat.shiftRight_eq_div_pow]
    omega
  unfold pairCh
  apply Int32.toBitVec_inj.mp
  apply BitVec.eq_of_toNat_eq
  have f0 : ((0 : Int32) &&& 31) = 0 := by decide
  have f8 : ((8 : Int32) &&& 31) = 8 := by decide
  rw [f0, f8]
  have g : (((lo8 c &&& 255) <<< (0 : Int32)) ||| ((hi8 c &&& 255) <<< (8 : Int32))).toBitVec.toNat = c.toBitVec.toNat := by
    rw [Int32.toBitVec_or, Int32.toBitVec_shiftLeft, Int32.toBitVec_shiftLeft]
    have s0 : ((0 : Int32).toBitVec.smod 32) = 0#32 := by decide
    have s8 : ((8 : Int32).toBitVec.smod 32) = 8#32 := by decide
    rw [s0, s8, BitVec.toNat_or]
    simp only [BitVec.shiftLeft_eq', BitVec.toNat_shiftLeft, a1, a2]
    show (c.toBitVec.toNat % 256) <<< 0 % 2 ^ 32 ||| (c.toBitVec.toNat / 256) <<< 8 % 2 ^ 32 = _
    rw [Nat.shiftLeft_zero, Nat.mod_eq_of_lt (show c.toBitVec.toNat % 256 < 2 ^ 32 by omega), Nat.mod_eq_of_lt (show (c.toBitVec.toNat / 256) <<< 8 < 2 ^ 32 by rw [Nat.shiftLeft_eq]; omega), Nat.or_comm, ← Nat.shiftLeft_add_eq_or_of_lt (by omega), Nat.shiftLeft_eq]
    omega
  show BitVec.toNat (((((lo8 c &&& 255) <<< (0 : Int32)) ||| ((hi8 c &&& 255) <<< (8 : Int32))).toBitVec.setWidth 16).setWidth 32) = _
  rw [BitVec.toNat_setWidth, BitVec.toNat_setWidth, g]
  omega
end StrChars
namespace StrChars
open Jvm Sem ClassFile Op Lib Jvm.Stand Jvm.Free.XT Jvm.Free.ALB Jvm.Free.JM Jvm.Free
open Jvm.Lib.Cold (StaticIs)
theorem shr1 {n : Nat} (h : 2 * n < 2 ^ 31) : Int32.ofNat (2 * n) >>> ((1 : Int32) &&& 31) = Int32.ofNat n := by
  have e : ((1 : Int32) &&& 31) = 1 := by decide
  rw [e]
  apply Int32.toBitVec_inj.mp
  rw [Int32.toBitVec_shiftRight]
  have e1 : ((1 : Int32).toBitVec.smod 32) = 1#32 := by decide
  have hm : (BitVec.ofNat 32 (2 * n)).toNat = 2 * n := by rw [BitVec.toNat_ofNat, Nat.mod_eq_of_lt (by omega)]
  rw [e1, BitVec.sshiftRight_eq']
  apply BitVec.eq_of_toNat_eq
  show ((BitVec.ofNat 32 (2 * n)).sshiftRight 1).toNat = (BitVec.ofNat 32 n).toNat
  rw [BitVec.toNat_sshiftRight_of_msb_false (by rw [BitVec.msb_eq_false_iff_two_mul_lt, hm]; omega), hm, BitVec.toNat_ofNat, Nat.shiftRight_eq_div_pow]
  omega
/-- charAt's cast of a byte read back -/
def chr8 (u : Int32) : Int32 := (u &&& 255).toUInt32.toUInt16.toUInt32.toInt32
theorem chr8_lo8 {c : Int32} (h0 : ¬ c < 0) (h1 : ¬ 255 < c) : chr8 (lo8 c) = c := by
  have t : ∀ k : Fin 256, (Int32.ofNat k.val).toUInt32.toUInt16.toUInt32.toInt32 = Int32.ofNat k.val := by decide +kernel
  unfold chr8
  rw [lo8_mask h0 h1]
  rw [Int32.lt_iff_toInt_lt] at h0 h1
  have e0 : (0 : Int32).toInt = 0 := rfl
  have e1 : (255 : Int32).toInt = 255 := rfl
  obtain ⟨k, hk⟩ : ∃ k : Nat, c.toInt = k := ⟨c.toInt.toNat, by omega⟩
  have hx : c = Int32.ofNat k := Int32.toInt_inj.mp (by rw [hk, Int32.toInt_ofNat_small (by omega)])
  rw [hx]
  exact t ⟨k, by omega⟩
theorem narrow_ch {c : Int32} (h0 : ¬ c < 0) (h1 : ¬ 65535 < c) : narrow .char (.int c) = .int c := by
  have q : narrow .char (.int (pairCh (lo8 c) (hi8 c))) = .int (pairCh (lo8 c) (hi8 c)) := narrow_c _
  rwa [pair_says h0 h1] at q
/-- the array's cell V codes the n chars f 0 .. f (n - 1) by the coder cd, as the JDK does: coder 1 just where some char is above 255 -/
def Cod (cd : Int32) (n : Nat) (f : Nat → Int32) (V : Cell) : Prop := (cd = 0 ∧ V.slots.size = n ∧ ∀ j, j < n → V.slots[j]? = some (.int (lo8 (f j))) ∧ ¬ 255 < f j) ∨ (cd = 1 ∧ V.slots.size = 2 * n ∧ (∀ j, j < n → V.slots[2 * j]? = some (.int (lo8 (f j))) ∧ V.slots[2 * j + 1]? = some (.int (hi8 (f j)))) ∧ ∃ j, j < n ∧ 255 < f j)
theorem Cod.cd {cd : Int32} {n : Nat} {f : Nat → Int32} {V : Cell} (h : Cod cd n f V) : cd = 0 ∨ cd = 1 := h.imp (fun q => q.1) fun q => q.1
theorem Cod.len {cd : Int32} {n : Nat} {f : Nat → Int32} {V : Cell} (h : Cod cd n f V) (hs : V.slots.size < 2 ^ 31) : Int32.ofNat V.slots.size >>> (cd &&& 31) = Int32.ofNat n := by
  rcases h with ⟨rfl, h, -⟩ | ⟨rfl, h, -⟩
  · rw [shr0, h]
  · rw [h, shr1 (by omega)]
/-- **x is a String of the n chars f 0 .. f (n - 1)**, Latin-1 or UTF-16; its array at t has the cell V -/
def Txt (x t : Addr) (V : Cell) (cd : Int32) (n : Nat) (f : Nat → Int32) (U : State) : Prop := Exact "java/lang/String" x U ∧ Has x "java/lang/String" "value" "[B" (.ref t) U ∧ Has x "java/lang/String" "coder" "B" (.int cd) U ∧ XT.Arr .byte t V U ∧ Cod cd n f V ∧ ∀ j, j < n → ¬ f j < 0 ∧ ¬ 65535 < f j
theorem Txt.mv {x t : Addr} {V : Cell} {cd : Int32} {n : Nat} {f : Nat → Int32} {U U' : State} (h : Txt x t V cd n f U) (hal : U.vm.Alike U'.vm) (hh : U'.heap = U.heap) : Txt x t V cd n f U' := ⟨h.1.mv hal hh, h.2.1.mv hal hh, h.2.2.1.mv hal hh, h.2.2.2.1.mv hal hh, h.2.2.2.2⟩
namespace Cdr
def yN : MethodName := ⟨"java/lang/String", "coder", "()B"⟩
abbrev yB : ByteArray := jdk_42_method_152_code
theorem d0 : decode yB 0 = .ok (.getstatic 38, 3) := by decide +kernel
theorem d3 : decode yB 3 = .ok (.ifCond (.eq) 10, 3) := by decide +kernel
theorem d6 : decode yB 6 = .ok (.aload_n 0, 1) := by decide +kernel
theorem d7 : decode yB 7 = .ok (.getfield 15, 3) := by decide +kernel
theorem d10 : decode yB 10 = .ok (.goto 4, 3) := by decide +kernel
theorem d14 : decode yB 14 = .ok (.ireturn, 1) := by decide +kernel
def site : List Cond := [.fieldLink "java/lang/String" 38 "java/lang/String" "COMPACT_STRINGS" "Z", .fieldLink "java/lang/String" 15 "java/lang/String" "coder" "B"]
def tab : Cond := tabOf yN yB 1 (some .byte) site
def P (x : Addr) (cd z : Int32) (args : Array Value) (s : State) : Prop := args = #[.ref x] ∧ Has x "java/lang/String" "coder" "B" (.int cd) s ∧ (cd = 0 ∨ cd = 1) ∧ StaticIs s "java/lang/String" "COMPACT_STRINGS" "Z" (.int z) ∧ ¬ z = 0
def E (cd : Int32) (r : Option Value) (s u : State) : Prop := XT.PureE (some (.int cd)) r s u
theorem law (l : Launch) (x : Addr) (cd z : Int32) : Law l yN 1 0 0 0 yB 1 (some .byte) site (P x cd z) (E cd) [] 0 0 := by
  refine Law.of_walk (plainFor_of_name (by decide +kernel)) (by decide +kernel) (by decide +kernel) (by decide) (fun _ _ h => by rw [h.1]; rfl) (fun _ U U' hal hh h => ⟨h.1, h.2.1.mv hal hh, h.2.2.1, h.2.2.2.1.there hal hh, h.2.2.2.2⟩) (fun r U U' V V' h1 hal h2 h => XT.PureE.mv r U U' V V' h1 hal h2 h) ?_
  intro p e s m args below meth c s₁ X0 hexec hbytes hml hret hlk hnm hown hh0 W hP
  obtain ⟨rfl, hx, hc, s1, hz⟩ := hP
  have c1 : Steps p.tables e below (s₁.setTop (entryFrame m #[.ref x] 1)) (s₁.setTop (mkF m 0 #[.val (.ref x)] [])) := entry rfl
  obtain ⟨T2, X2, q2, st2⟩ := X0.sget hexec hown (wk W (.fieldLink "java/lang/String" 38 "java/lang/String" "COMPACT_STRINGS" "Z")) s1 (fun _ _ h => by rw [hh0]; exact h) (g := (mkF m 0 #[.val (.ref x)] [])) rfl (hb hbytes d0)
  have hh2 := q2.trans hh0
  have c3 : Steps p.tables e below (s₁.setTop (entryFrame m #[.ref x] 1)) (T2.setTop (mkF m 7 #[.val (.ref x)] [.ref x])) := (c1.trans (st2 _ (Steps.refl _))).trans (by
    refine XS.ifNo X2.here hexec rfl (hb hbytes d3) rfl (i0_eq_f hz) ?_
    refine XS.aloadN X2.here hexec rfl (hb hbytes d6) rfl rfl ?_
    exact Steps.refl _)
  obtain ⟨T4, X4, q4, st4⟩ := X2.hget hexec hown (wk W (.fieldLink "java/lang/String" 15 "java/lang/String" "coder" "B")) (hx.mv X2.warmed.alike hh2) (g := (mkF m 7 #[.val (.ref x)] [.ref x])) rfl (rest := []) rfl (hb hbytes d7)
  have c5 : Steps p.tables e below (s₁.setTop (entryFrame m #[.ref x] 1)) (T4.setTop (mkF m 14 #[.val (.ref x)] [.int cd])) := (c3.trans (st4 _ (Steps.refl _))).trans (by
    refine XS.goto X4.here hexec rfl (pc0 := 10) rfl (hb hbytes d10) (by decide) rfl ?_
    exact Steps.refl _)
  exact ⟨T4, some (.int cd), _, _, _, X4, rfl, rfl, rfl, (fun h => by cases h), ⟨rfl, q4.trans hh2⟩, fun fs hl => c5.trans (X4.ireturnOut hexec hret (by rcases hc with rfl | rfl <;> rfl) (Or.inr (Or.inr (Or.inl rfl))) (hb hbytes d14) hl)⟩
end Cdr
namespace Len
def yN : MethodName := ⟨"java/lang/String", "length", "()I"⟩
abbrev yB : ByteArray := jdk_42_method_54_code
theorem d0 : decode yB 0 = .ok (.aload_n 0, 1) := by decide +kernel
theorem d1 : decode yB 1 = .ok (.getfield 9, 3) := by decide +kernel
theorem d4 : decode yB 4 = .ok (.arraylength, 1) := by decide +kernel
theorem d5 : decode yB 5 = .ok (.aload_n 0, 1) := by decide +kernel
theorem d6 : decode yB 6 = .ok (.invokevirtual 335, 3) := by decide +kernel
theorem d9 : decode yB 9 = .ok (.ishr, 1) := by decide +kernel
theorem d10 : decode yB 10 = .ok (.ireturn, 1) := by decide +kernel
def site : List Cond := [.fieldLink "java/lang/String" 9 "java/lang/String" "value" "[B", Cdr.tab] ++ virtW "java/lang/String" 335 "java/lang/String" Cdr.yN Cdr.yN
def tab : Cond := tabOf yN yB 1 (some .int) site
def P (x t : Addr) (V : Cell) (cd : Int32) (n : Nat) (f : Nat → Int32) (z : Int32) (args : Array Value) (s : State) : Prop := args = #[.ref x] ∧ Txt x t V cd n f s ∧ StaticIs s "java/lang/String" "COMPACT_STRINGS" "Z" (.int z) ∧ ¬ z = 0
def E (n : Nat) (r : Option Value) (s u : State) : Prop := XT.PureE (some (.int (Int32.ofNat n))) r s u
/-- length() of a String of n chars, in either coding -/
theorem law (l : Launch) (x t : Addr) (V : Cell) (cd : Int32) (n : Nat) (f : Nat → Int32) (z : Int32) : Law l yN 1 0 1 13 yB 1 (some .int) site (P x t V cd n f z) (E n) [] 0 0 := by
  refine Law.of_walk (plainFor_of_name (by decide +kernel)) (by decide +kernel) (by decide +kernel) (by decide) (fun _ _ h => by rw [h.1]; rfl) (fun _ U U' hal hh h => ⟨h.1, h.2.1.mv hal hh, h.2.2.1.there hal hh, h.2.2.2⟩) (fun r U U' V V' h1 hal h2 h => XT.PureE.mv r U U' V V' h1 hal h2 h) ?_
  intro p e s m args below meth c s₁ X0 hexec hbytes hml hret hlk hnm hown hh0 W hP
  obtain ⟨rfl, hx, s1, hz⟩ := hP
  have v31 := hx.2.2.2.1.2.2.2
  have c1 : Steps p.tables e below (s₁.setTop (entryFrame m #[.ref x] 1)) (s₁.setTop (mkF m 1 #[.val (.ref x)] [.ref x])) := Steps.trans (entry rfl) (by
    show Steps p.tables e below (s₁.setTop (mkF m 0 #[.val (.ref x)] [])) _
    refine XS.aloadN X0.here hexec rfl (hb hbytes d0) rfl rfl ?_
    exact Steps.refl _)
  obtain ⟨T2, X2, q2, st2⟩ := X0.hget hexec hown (wk W (.fieldLink "java/lang/String" 9 "java/lang/String" "value" "[B")) (hx.mv X0.warmed.alike hh0).2.1 (g := (mkF m 1 #[.val (.ref x)] [.ref x])) rfl (rest := []) rfl (hb hbytes d1)
  have hh2 := q2.trans hh0
  have hx2 := hx.mv X2.warmed.alike hh2
  have c3 : Steps p.tables e below (s₁.setTop (entryFrame m #[.ref x] 1)) (T2.setTop (mkF m 6 #[.val (.ref x)] [.ref x, .int (Int32.ofNat V.slots.size)])) := (c1.trans (st2 _ (Steps.refl _))).trans (by
    refine X2.alen hexec hx2.2.2.2.1 rfl rfl (hb hbytes d4) ?_
    refine XS.aloadN X2.here hexec rfl (hb hbytes d5) rfl rfl ?_
    exact Steps.refl _)
  obtain ⟨v4, T4, X4, E4, g4⟩ := X2.callV hexec (Cdr.law l x cd z) hown (wks W (virtW "java/lang/String" 335 "java/lang/String" Cdr.yN Cdr.yN)) rfl (by decide) (wk W Cdr.tab) (W := 1) (Nat.le_of_ble_eq_true rfl) (Nat.le_of_ble_eq_true rfl) (Nat.le_refl _) (Nat.le_refl _) (hx2.1.fc X2.warmed.alike) hx2.1.is (g := (mkF m 6 #[.val (.ref x)] [.ref x, .int (Int32.ofNat V.slots.size)])) rfl (by rw [hml]; rfl) c3 (argsL := []) (rest := [.int (Int32.ofNat V.slots.size)]) rfl rfl (by show 2 * 0 + (1 + 0) ≤ _; decide) (hb hbytes d6) (⟨rfl, hx2.2.2.1, hx.2.2.2.2.1.cd, s1.there X2.warmed.alike hh2, hz⟩)
  obtain ⟨rfl, q4⟩ := E4
  have c5 : Steps p.tables e below (s₁.setTop (entryFrame m #[.ref x] 1)) (T4.setTop (mkF m 10 #[.val (.ref x)] [.int (Int32.ofNat V.slots.size >>> (cd &&& 31))])) := Steps.trans g4 (by
    refine ishr X4.here hexec rfl (hb hbytes d9) rfl ?_
    exact Steps.refl _)
  rw [hx.2.2.2.2.1.len v31] at c5
  exact ⟨T4, some (.int (Int32.ofNat n)), _, _, _, X4, rfl, rfl, rfl, (fun h => by cases h), ⟨rfl, q4.trans hh2⟩, fun fs hl => c5.trans (X4.ireturnOut hexec hret rfl (Or.inl rfl) (hb hbytes d10) hl)⟩
theorem pays {l : Launch} {R : Room} {p : Program} {e : Env} {below : List Frame} {s : State} {sargs : Array Value} {len W : Nat} (x t : Addr) (V : Cell) (cd : Int32) (n : Nat) (f : Nat → Int32) (z : Int32) (htab : tab.before sargs s = true) (hfr : 2 ≤ R.frames) (hlo : W + 25 ≤ R.locals) :
    Back l R p e below s sargs yN len W (fun A₁ a₁ => A₁.cells + 0 ≤ R.cells ∧ A₁.slots + 0 ≤ R.slots ∧ P x t V cd n f z a₁ A₁.U) (fun A₁ _ v₁ B₁ => E n v₁ A₁.U B₁.U ∧ B₁.locs = A₁.locs ++ [] ∧ B₁.cells = A₁.cells + 0 ∧ B₁.slots = A₁.slots + 0) :=
  (law l x t V cd n f z).pays htab hfr (by omega)
end Len
namespace IsL
def yN : MethodName := ⟨"java/lang/String", "isLatin1", "()Z"⟩
abbrev yB : ByteArray := jdk_42_method_154_code
theorem d0 : decode yB 0 = .ok (.getstatic 38, 3) := by decide +kernel
theorem d3 : decode yB 3 = .ok (.ifCond (.eq) 14, 3) := by decide +kernel
theorem d6 : decode yB 6 = .ok (.aload_n 0, 1) := by decide +kernel
theorem d7 : decode yB 7 = .ok (.getfield 15, 3) := by decide +kernel
theorem d10 : decode yB 10 = .ok (.ifCond (.ne) 7, 3) := by decide +kernel
theorem d13 : decode yB 13 = .ok (.iconst 1, 1) := by decide +kernel
theorem d14 : decode yB 14 = .ok (.goto 4, 3) := by decide +kernel
theorem d17 : decode yB 17 = .ok (.iconst 0, 1) := by decide +kernel
theorem d18 : decode yB 18 = .ok (.ireturn, 1) := by decide +kernel
def site : List Cond := [.fieldLink "java/lang/String" 38 "java/lang/String" "COMPACT_STRINGS" "Z", .fieldLink "java/lang/String" 15 "java/lang/String" "coder" "B"]
def tab : Cond := tabOf yN yB 1 (some .boolean) site
def P (x : Addr) (cd z : Int32) (args : Array Value) (s : State) : Prop := args = #[.ref x] ∧ Has x "java/lang/String" "coder" "B" (.int cd) s ∧ (cd = 0 ∨ cd = 1) ∧ StaticIs s "java/lang/String" "COMPACT_STRINGS" "Z" (.int z) ∧ ¬ z = 0
def E (cd : Int32) (r : Option Value) (s u : State) : Prop := XT.PureE (some (.int (1 - cd))) r s u
theorem law (l : Launch) (x : Addr) (cd z : Int32) : Law l yN 1 0 0 0 yB 1 (some .boolean) site (P x cd z) (E cd) [] 0 0 := by
  refine Law.of_walk (plainFor_of_name (by decide +kernel)) (by decide +kernel) (by decide +kernel) (by decide) (fun _ _ h => by rw [h.1]; rfl) (fun _ U U' hal hh h => ⟨h.1, h.2.1.mv hal hh, h.2.2.1, h.2.2.2.1.there hal hh, h.2.2.2.2⟩) (fun r U U' V V' h1 hal h2 h => XT.PureE.mv r U U' V V' h1 hal h2 h) ?_
  intro p e s m args below meth c s₁ X0 hexec hbytes hml hret hlk hnm hown hh0 W hP
  obtain ⟨rfl, hx, hc, s1, hz⟩ := hP
  have c1 : Steps p.tables e below (s₁.setTop (entryFrame m #[.ref x] 1)) (s₁.setTop (mkF m 0 #[.val (.ref x)] [])) := entry rfl
  obtain ⟨T2, X2, q2, st2⟩ := X0.sget hexec hown (wk W (.fieldLink "java/lang/String" 38 "java/lang/String" "COMPACT_STRINGS" "Z")) s1 (fun _ _ h => by rw [hh0]; exact h) (g := (mkF m 0 #[.val (.ref x)] [])) rfl (hb hbytes d0)
  have hh2 := q2.trans hh0
  have c3 : Steps p.tables e below (s₁.setTop (entryFrame m #[.ref x] 1)) (T2.setTop (mkF m 7 #[.val (.ref x)] [.ref x])) := (c1.trans (st2 _ (Steps.refl _))).trans (by
    refine XS.ifNo X2.here hexec rfl (hb hbytes d3) rfl (i0_eq_f hz) ?_
    refine XS.aloadN X2.here hexec rfl (hb hbytes d6) rfl rfl ?_
    exact Steps.refl _)
  obtain ⟨T4, X4, q4, st4⟩ := X2.hget hexec hown (wk W (.fieldLink "java/lang/String" 15 "java/lang/String" "coder" "B")) (hx.mv X2.warmed.alike hh2) (g := (mkF m 7 #[.val (.ref x)] [.ref x])) rfl (rest := []) rfl (hb hbytes d7)
  have c5 : Steps p.tables e below (s₁.setTop (entryFrame m #[.ref x] 1)) (T4.setTop (mkF m 10 #[.val (.ref x)] [.int cd])) := c3.trans (st4 _ (Steps.refl _))
  have c6 : Steps p.tables e below (s₁.setTop (entryFrame m #[.ref x] 1)) (T4.setTop (mkF m 18 #[.val (.ref x)] [.int (1 - cd)])) := by
    rcases hc with rfl | rfl
    · exact c5.trans (by
        refine XS.ifNo X4.here hexec rfl (hb hbytes d10) rfl (i0_ne_f rfl) ?_
        refine iconstV X4.here hexec rfl 1 (hb hbytes d13) (by decide) ?_
        refine XS.goto X4.here hexec rfl (pc0 := 14) rfl (hb hbytes d14) (by decide) rfl ?_
        exact Steps.refl _)
    · exact c5.trans (by
        refine XS.ifYes X4.here hexec rfl (pc0 := 10) rfl (hb hbytes d10) rfl (i0_ne_t (by decide)) (by decide) rfl ?_
        refine iconstV X4.here hexec rfl 0 (hb hbytes d17) (by decide) ?_
        exact Steps.refl _)
  exact ⟨T4, some (.int (1 - cd)), _, _, _, X4, rfl, rfl, rfl, (fun h => by cases h), ⟨rfl, q4.trans hh2⟩, fun fs hl => c6.trans (X4.ireturnOut hexec hret (by rcases hc with rfl | rfl <;> rfl) (Or.inr (Or.inl rfl)) (hb hbytes d18) hl)⟩
end IsL
namespace LChA
def yN : MethodName := ⟨"java/lang/StringLatin1", "charAt", "([BI)C"⟩
abbrev yB : ByteArray := jdk_43_method_2_code
theorem d0 : decode yB 0 = .ok (.iload_n 1, 1) := by decide +kernel
theorem d1 : decode yB 1 = .ok (.aload_n 0, 1) := by decide +kernel
theorem d2 : decode yB 2 = .ok (.arraylength, 1) := by decide +kernel
theorem d3 : decode yB 3 = .ok (.invokestatic 9, 3) := by decide +kernel
theorem d6 : decode yB 6 = .ok (.aload_n 0, 1) := by decide +kernel
theorem d7 : decode yB 7 = .ok (.iload_n 1, 1) := by decide +kernel
theorem d8 : decode yB 8 = .ok (.baload, 1) := by decide +kernel
theorem d9 : decode yB 9 = .ok (.sipush 255, 3) := by decide +kernel
theorem d12 : decode yB 12 = .ok (.iand, 1) := by decide +kernel
theorem d13 : decode yB 13 = .ok (.i2c, 1) := by decide +kernel
theorem d14 : decode yB 14 = .ok (.ireturn, 1) := by decide +kernel
def site : List Cond := [JO.Str_checkIndex.tab] ++ staticW "java/lang/StringLatin1" 9 JO.Str_checkIndex.yN
def tab : Cond := tabOf yN yB 2 (some .char) site
def P (t : Addr) (V : Cell) (i : Nat) (u : Int32) (fm : Value) (args : Array Value) (s : State) : Prop := args = #[.ref t, .int (Int32.ofNat i)] ∧ XT.Arr .byte t V s ∧ V.slots[i]? = some (.int u) ∧ (StaticIs s "jdk/internal/util/Preconditions" "SIOOBE_FORMATTER" "Ljava/util/function/BiFunction;" fm ∧ fm.isRef = true)
def E (u : Int32) (r : Option Value) (s w : State) : Prop := XT.PureE (some (.int (chr8 u))) r s w
theorem law (l : Launch) (t : Addr) (V : Cell) (i : Nat) (u : Int32) (fm : Value) : Law l yN 2 2 2 27 yB 2 (some .char) site (P t V i u fm) (E u) [] 0 0 := by
  refine Law.of_walk (plainFor_of_name (by decide +kernel)) (by decide +kernel) (by decide +kernel) (by decide) (fun _ _ h => by rw [h.1]; rfl) (fun _ U U' hal hh h => ⟨h.1, h.2.1.mv hal hh, h.2.2.1, h.2.2.2.1.there hal hh, h.2.2.2.2⟩) (fun r U U' V V' h1 hal h2 h => XT.PureE.mv r U U' V V' h1 hal h2 h) ?_
  intro p e s m args below meth c s₁ X0 hexec hbytes hml hret hlk hnm hown hh0 W hP
  obtain ⟨rfl, hV, hu, s1, rf⟩ := hP
  have v31 := hV.2.2.2
  have hi : i < V.slots.size := (Array.getElem?_eq_some_iff.mp hu).1
  have c1 : Steps p.tables e below (s₁.setTop (entryFrame m #[.ref t, .int (Int32.ofNat i)] 2)) (s₁.setTop (mkF m 0 #[.val (.ref t), .val (.int (Int32.ofNat i))] [])) := entry rfl
  have c2 : Steps p.tables e below (s₁.setTop (entryFrame m #[.ref t, .int (Int32.ofNat i)] 2)) (s₁.setTop (mkF m 3 #[.val (.ref t), .val (.int (Int32.ofNat i))] [.int (Int32.ofNat V.slots.size), .int (Int32.ofNat i)])) := c1.trans (by
    refine XS.iloadN X0.here hexec rfl (hb hbytes d0) rfl ?_
    refine XS.aloadN X0.here hexec rfl (hb hbytes d1) rfl rfl ?_
    refine X0.alen hexec (hV.mv X0.warmed.alike hh0) rfl rfl (hb hbytes d2) ?_
    exact Steps.refl _)
  obtain ⟨v3, T3, X3, E3, g3⟩ := X0.callS hexec (JO.Str_checkIndex.law l (Int32.ofNat i) (Int32.ofNat V.slots.size) fm) hown (wks W (staticW "java/lang/StringLatin1" 9 JO.Str_checkIndex.yN)) (wk W JO.Str_checkIndex.tab) (W := 0) (Nat.le_of_ble_eq_true rfl) (Nat.le_of_ble_eq_true rfl) (Nat.le_refl _) (Nat.le_refl _) (g := (mkF m 3 #[.val (.ref t), .val (.int (Int32.ofNat i))] [.int (Int32.ofNat V.slots.size), .int (Int32.ofNat i)])) rfl (by rw [hml]; rfl) c2 (argsL := [.int (Int32.ofNat i), .int (Int32.ofNat V.slots.size)]) (rest := []) rfl rfl (by show 2 * 0 + 0 ≤ _; decide) (hb hbytes d3) (⟨rfl, rf, s1.there X0.warmed.alike hh0, Int32.ofNat_not_neg (by omega), lt32 v31 hi⟩)
  obtain ⟨rfl, q3⟩ := E3
  have hh3 := q3.trans hh0
  have c4 : Steps p.tables e below (s₁.setTop (entryFrame m #[.ref t, .int (Int32.ofNat i)] 2)) (T3.setTop (mkF m 14 #[.val (.ref t), .val (.int (Int32.ofNat i))] [.int (chr8 u)])) := Steps.trans g3 (by
    refine XS.aloadN X3.here hexec rfl (hb hbytes d6) rfl rfl ?_
    refine XS.iloadN X3.here hexec rfl (hb hbytes d7) rfl ?_
    refine X3.aget hexec (hV.mv X3.warmed.alike hh3) rfl hu rfl rfl (hb hbytes d8) ?_
    refine sipushV X3.here hexec rfl 255 (hb hbytes d9) (by decide) ?_
    refine XS.iand X3.here hexec rfl (hb hbytes d12) rfl ?_
    refine i2c X3.here hexec rfl (hb hbytes d13) rfl ?_
    exact Steps.refl _)
  exact ⟨T3, some (.int (chr8 u)), _, _, _, X3, rfl, rfl, rfl, (fun h => by cases h), ⟨rfl, hh3⟩, fun fs hl => c4.trans (X3.ireturnOut hexec hret (narrow_c _) (Or.inr (Or.inr (Or.inr (Or.inl rfl)))) (hb hbytes d14) hl)⟩
end LChA
end StrChars
namespace StrChars.Road
open Jvm Sem ClassFile Op Lib Jvm.Stand Jvm.Free Jvm.Free.XT
open Jvm.Lib.Cold (StaticIs)
theorem consq {a : Array Value} {s : State} {c : Jvm.Cond} {L : List Jvm.Cond} (h0 : c.before a s = true) (h : ∀ w ∈ L, w.before a s = true) : ∀ w ∈ c :: L, w.before a s = true := fun w hw => (List.mem_cons.mp hw).elim (fun e => e ▸ h0) (h w)
/-- the words of String.length(), either coding -/
abbrev wordsLen : List Jvm.Cond := [.code Len.yN Len.yB 1 (some .int), .initialized ST, .fieldLink ST 9 ST "value" "[B", .fieldLink ST 38 ST "COMPACT_STRINGS" "Z", .fieldLink ST 15 ST "coder" "B", .code Cdr.yN Cdr.yB 1 (some .byte), .methodLink ST 335 Cdr.yN, .declares Cdr.yN, .selects ST Cdr.yN Cdr.yN, .instanceMethod Cdr.yN]
theorem tabLen_of {a : Array Value} {s : State} (h : ∀ w ∈ wordsLen, w.before a s = true) : Len.tab.before a s = true := by
  have hc : Cdr.tab.before a s = true := unparts (wk h (.code Cdr.yN Cdr.yB 1 (some .byte))) (wks h (.initialized Cdr.yN.cls :: Cdr.site))
  have q := consq hc h
  exact unparts (wk q (.code Len.yN Len.yB 1 (some .int))) (wks q (.initialized Len.yN.cls :: Len.site))
theorem movedLen {Z s : State} {a0 args : Array Value} (hZ : Z.Warmed39 s.vm) (hw : ∀ d ∈ wordsLen, d.before a0 Z = true) : ∀ d ∈ wordsLen, d.before args s = true := fun d hd => by
  have q := hw d hd
  have t : ∀ d ∈ wordsLen, d = .arrayClass .byte ∨ (d.onTables && d.keepsFace) = true := by decide +kernel
  rcases t d hd with rfl | t
  · exact RoadKit.mvA hZ q
  · exact RoadKit.mv hZ q t
/-- the bytes of the chars cs, low before high -/
def wideBytes : List Int32 → List Value
  | [] => []
  | c :: cs => .int (lo8 c) :: .int (hi8 c) :: wideBytes cs
theorem wide_lo (d : Value) : ∀ (cs : List Int32) (j : Nat), j < cs.length → (wideBytes cs).getD (2 * j) d = .int (lo8 (cs.getD j 0))
  | [], j, h => absurd h (Nat.not_lt_zero j)
  | c :: cs, 0, _ => rfl
  | c :: cs, j + 1, h => by
    have q := wide_lo d cs j (by simpa using h)
    rw [show 2 * (j + 1) = 2 * j + 1 + 1 from by omega]
    simpa [wideBytes] using q
theorem wide_hi (d : Value) : ∀ (cs : List Int32) (j : Nat), j < cs.length → (wideBytes cs).getD (2 * j + 1) d = .int (hi8 (cs.getD j 0))
  | [], j, h => absurd h (Nat.not_lt_zero j)
  | c :: cs, 0, _ => rfl
  | c :: cs, j + 1, h => by
    have q := wide_hi d cs j (by simpa using h)
    rw [show 2 * (j + 1) + 1 = 2 * j + 1 + 1 + 1 from by omega]
    simpa [wideBytes] using q
theorem low_at (d : Value) (cs : List Int32) (j : Nat) (h : j < cs.length) : (cs.map fun c => Value.int (lo8 c)).getD j d = .int (lo8 (cs.getD j 0)) := by
  simp [List.getD_eq_getElem?_getD, h]
/-- an array of N2 bytes vs codes the chars cs by the coder cd -/
def CodA (cs : List Int32) (cd N2 : Int32) (vs : List Value) : Prop := (cd = 0 ∧ N2 = Int32.ofNat cs.length ∧ vs = (cs.map fun c => Value.int (lo8 c)) ∧ ∀ c ∈ cs, ¬ 255 < c) ∨ (cd = 1 ∧ N2 = Int32.ofNat (2 * cs.length) ∧ vs = wideBytes cs ∧ ∃ c ∈ cs, 255 < c)
theorem CodA.cod {cs : List Int32} {cd N2 : Int32} {vs : List Value} {V : Cell} (h : CodA cs cd N2 vs) (hn : 2 * cs.length < 2 ^ 31) (hs : V.slots.size = N2.toNatClampNeg) (hv : RoadKit.Has V vs (.int 0)) : Cod cd cs.length (fun j => cs.getD j 0) V := by
  rcases h with ⟨rfl, rfl, rfl, h⟩ | ⟨rfl, rfl, rfl, c, hc, hw⟩
  · rw [n32 (by omega)] at hs
    exact Or.inl ⟨rfl, hs, fun j hj => ⟨by rw [hv j (by omega), low_at _ _ _ hj], by
      have e : cs.getD j 0 = cs[j] := by simp [List.getD_eq_getElem?_getD, hj]
      show ¬ 255 < cs.getD j 0
      rw [e]; exact h _ (List.getElem_mem _)⟩⟩
  · rw [n32 (by omega)] at hs
    obtain ⟨j, hj, rfl⟩ := List.getElem_of_mem hc
    exact Or.inr ⟨rfl, hs, fun j hj => ⟨by rw [hv _ (by omega), wide_lo _ _ _ hj], by rw [hv _ (by omega), wide_hi _ _ _ hj]⟩, j, hj, by
      have e : cs.getD j 0 = cs[j] := by simp [List.getD_eq_getElem?_getD, hj]
      show 255 < cs.getD j 0
      rw [e]; exact hw⟩
/-- an object of exactly java/lang/String, its two fields found: as the laws ask it -/
theorem strObj {Z U : State} {a0 : Array Value} {kI : Nat} (wi : (Jvm.Cond.instantiable ST kI).before a0 Z = true) (al : Z.vm.Alike U.vm) {x : Addr} {v0 c0 : Value} (E : RoadKit.Exa Z U.heap x ST) (V : RoadKit.Fld Z U.heap x ST "value" "[B" v0) (C : RoadKit.Fld Z U.heap x ST "coder" "B" c0) :
    ∃ (D : Cell) (fV fC : Field), Blank ST x D U ∧ Found ST "value" "[B" fV U ∧ Found ST "coder" "B" fC U ∧ D.slots[fV.slot]? = some v0 ∧ D.slots[fC.slot]? = some c0 ∧ RoadKit.slotOf Z ST "value" "[B" = fV.slot ∧ RoadKit.slotOf Z ST "coder" "B" = fC.slot := by
  obtain ⟨D, cfV, kV, iV, fV, hD, gV, stV, knV, obV, asV, slV⟩ := V
  obtain ⟨D', cfC, kC, iC, fC, hD', gC, stC, -, -, asC, slC⟩ := C
  cases hD.symm.trans hD'
  obtain ⟨D2, kD, e1, e2, e3, e4, e5⟩ := E
  cases hD.symm.trans e1
  obtain ⟨c2, k2, i1, i2, i3, -⟩ := Cond.instantiable_spec wi
  cases e2.symm.trans i1
  cases e3.symm.trans i2
  obtain ⟨kU, u1, u2⟩ := al.2.2 _ _ e3
  exact ⟨D, fV, fC, ⟨hD, ⟨knV, fun q hq => by rw [hq] at obV; cases obV⟩, by rw [al.findClass]; exact e2, kU, u1, by rw [u2]; exact i3, by rw [u2]; exact e5 i3⟩, ⟨SBG.found_only al ⟨cfV, kV, iV, gV⟩, stV⟩, ⟨SBG.found_only al ⟨cfC, kC, iC, gC⟩, stC⟩, slV, slC, by simp [RoadKit.slotOf, gV], by simp [RoadKit.slotOf, gC]⟩
theorem sta_is {Z U : State} (al : Z.vm.Alike U.vm) {C n d : String} {v : Value} (S : RoadKit.Sta Z U.heap C n d v) : StaticIs U C n d v := by
  obtain ⟨cfS, iS, kS, fS, st, cS, t1, t2, t3, t4, t5, t6, t7⟩ := S
  exact StaticIs.there (s := { Z with heap := U.heap }) ⟨cfS, iS, kS, fS, st, cS, t1, t2, t3, t4, t5, (fun q => by rw [q] at t6; cases t6), t7⟩ al rfl
/-- **length() OF SUCH A STRING** -/
theorem lenW {p : Program} {l : Launch} {e : Env} {R : Room} {s : State} {args : Array Value} {below : List Frame} {len W : Nat} {Z : State} {a0 : Array Value} {h : Heap} (hZ : Z.Warmed39 s.vm) (hw : ∀ d ∈ wordsLen, d.before a0 Z = true) {kI : Nat} (wi : (Jvm.Cond.instantiable ST kI).before a0 Z = true)
    {x t : Addr} {kb : ClassId} {cs : List Int32} {cd N2 z : Int32} {vs : List Value} (E : RoadKit.Exa Z h x ST) (V : RoadKit.Fld Z h x ST "value" "[B" (.ref t)) (C : RoadKit.Fld Z h x ST "coder" "B" (.int cd)) (K : RoadKit.Arv Z h t kb .byte N2 vs (.int 0)) (hc : CodA cs cd N2 vs) (hb : ∀ c ∈ cs, ¬ c < 0 ∧ ¬ (65535 : Int32) < c)
    (S : RoadKit.Sta Z h ST "COMPACT_STRINGS" "Z" (.int z)) (hz : ¬ z = 0) (l2 : cs.length ≤ 4000) (hfr : 2 ≤ R.frames) (hlo : W + 25 ≤ R.locals) :
    Back l R p e below s args (⟨"java/lang/String", "length", "()I"⟩ : MethodName) len W (fun P a => a = #[.ref x] ∧ P.U.heap = h ∧ P.cells + 0 ≤ R.cells ∧ P.slots + 0 ≤ R.slots)
      (fun P _ v B => ∃ L, (v = some (.int (Int32.ofNat cs.length)) ∧ L = [] ∧ B.U.heap = h) ∧ B.locs = P.locs ++ L ∧ B.cells = P.cells + 0 ∧ B.slots = P.slots + 0) := by
  obtain ⟨A, K1, K2, K3, K4, K5, K6⟩ := K
  have hcod := hc.cod (by omega) K3 K5
  intro m meth c P g ig mk a X hg hsize hdg hW hn hp'
  obtain ⟨rfl, rfl, r1, r2⟩ := hp'
  have al : Z.vm.Alike P.U.vm := hZ.alike.trans X.warmed.alike
  obtain ⟨D, fV, fC, hB, F1, F2, g1, g2, -, -⟩ := strObj wi al E V C
  have hx : Txt x t A cd cs.length (fun j => cs.getD j 0) P.U := ⟨⟨_, hB.2.2.1, D, hB.1, rfl, by cases q : D.vm <;> first | rfl | exact absurd q (hB.2.1.2 _)⟩, Has.of hB F1 g1, Has.of hB F2 g2, ⟨K1.1, State.isArrayOf_alike al K1.2.1, K1.2.2, by rcases hcod with ⟨-, q, -⟩ | ⟨-, q, -⟩ <;> omega⟩, hcod, fun j hj => by
    have e : cs.getD j 0 = cs[j] := by simp [List.getD_eq_getElem?_getD, hj]
    show ¬ cs.getD j 0 < 0 ∧ ¬ 65535 < cs.getD j 0
    rw [e]; exact hb _ (List.getElem_mem _)⟩
  obtain ⟨v, B, X', ⟨⟨hv, hh⟩, hl, hk, hs⟩, st⟩ := Len.pays x t A cd cs.length (fun j => cs.getD j 0) z (tabLen_of (movedLen hZ hw)) hfr hlo m meth c P g ig mk _ X hg hsize hdg hW hn ⟨r1, r2, rfl, hx, sta_is al S, hz⟩
  exact ⟨v, B, X', ⟨[], ⟨hv, rfl, hh⟩, hl, hk, hs⟩, st⟩
end StrChars.Road
namespace StrChars
open Jvm Sem ClassFile Op Lib Jvm.Stand Jvm.Free.XT Jvm.Free.ALB Jvm.Free.JM Jvm.Free
open Jvm.Lib.Cold (StaticIs)
/-- what place i of a byte[]'s cell holds -/
def yv (A : Cell) (i : Nat) : Int32 := match A.slots[i]? with | some (.int x) => x | _ => 0
theorem yv_get {a : Addr} {A : Cell} {U : State} (h : XT.Arr .byte a A U) (ht : Typed .byte A) {i : Nat} (hi : i < A.slots.size) : A.slots[i]? = some (.int (yv A i)) := by
  have e := Array.getElem?_eq_getElem hi
  have f := ht i _ e
  unfold yv; rw [e]
  generalize A.slots[i] = v at f
  cases v <;> simp [fits] at f ⊢
/-- the two arrays are equal, place for place -/
def EqC (A B : Cell) : Prop := A.slots.size = B.slots.size ∧ ∀ i, i < A.slots.size → yv A i = yv B i
/-- a boolean that says whether p -/
def Says01 (q : Prop) (r : Option Value) (s u : State) : Prop := ∃ v : Int32, r = some (.int v) ∧ u.heap = s.heap ∧ ((v = 1 ∧ q) ∨ (v = 0 ∧ ¬ q))
theorem Says01.mv {q : Prop} : ∀ r (U U' V V' : State), U'.heap = U.heap → V.vm.Alike V'.vm → V'.heap = V.heap → Says01 q r U V → Says01 q r U' V' :=
  fun r U U' V V' h1 _ h2 ⟨v, a, b, c⟩ => ⟨v, a, by rw [h1, h2]; exact b, c⟩
namespace LEq
def yN : MethodName := ⟨"java/lang/StringLatin1", "equals", "([B[B)Z"⟩
abbrev yB : ByteArray := jdk_43_method_13_code
theorem d0 : decode yB 0 = .ok (.aload_n 0, 1) := by decide +kernel
theorem d1 : decode yB 1 = .ok (.arraylength, 1) := by decide +kernel
theorem d2 : decode yB 2 = .ok (.aload_n 1, 1) := by decide +kernel
theorem d3 : decode yB 3 = .ok (.arraylength, 1) := by decide +kernel
theorem d4 : decode yB 4 = .ok (.if_icmp (.ne) 30, 3) := by decide +kernel
theorem d7 : decode yB 7 = .ok (.iconst 0, 1) := by decide +kernel
theorem d8 : decode yB 8 = .ok (.istore_n 2, 1) := by decide +kernel
theorem d9 : decode yB 9 = .ok (.iload_n 2, 1) := by decide +kernel
theorem d10 : decode yB 10 = .ok (.aload_n 0, 1) := by decide +kernel
theorem d11 : decode yB 11 = .ok (.arraylength, 1) := by decide +kernel
theorem d12 : decode yB 12 = .ok (.if_icmp (.ge) 20, 3) := by decide +kernel
theorem d15 : decode yB 15 = .ok (.aload_n 0, 1) := by decide +kernel
theorem d16 : decode yB 16 = .ok (.iload_n 2, 1) := by decide +kernel
theorem d17 : decode yB 17 = .ok (.baload, 1) := by decide +kernel
theorem d18 : decode yB 18 = .ok (.aload_n 1, 1) := by decide +kernel
theorem d19 : decode yB 19 = .ok (.iload_n 2, 1) := by decide +kernel
theorem d20 : decode yB 20 = .ok (.baload, 1) := by decide +kernel
theorem d21 : decode yB 21 = .ok (.if_icmp (.eq) 5, 3) := by decide +kernel
theorem d24 : decode yB 24 = .ok (.iconst 0, 1) := by decide +kernel
theorem d25 : decode yB 25 = .ok (.ireturn, 1) := by decide +kernel
theorem d26 : decode yB 26 = .ok (.iinc 2 1, 3) := by decide +kernel
theorem d29 : decode yB 29 = .ok (.goto (-20), 3) := by decide +kernel
theorem d32 : decode yB 32 = .ok (.iconst 1, 1) := by decide +kernel
theorem d33 : decode yB 33 = .ok (.ireturn, 1) := by decide +kernel
theorem d34 : decode yB 34 = .ok (.iconst 0, 1) := by decide +kernel
theorem d35 : decode yB 35 = .ok (.ireturn, 1) := by decide +kernel
def site : List Cond := []
def tab : Cond := tabOf yN yB 3 (some .boolean) site
def P (a : Addr) (A : Cell) (b : Addr) (B : Cell) (args : Array Value) (s : State) : Prop := args = #[.ref a, .ref b] ∧ XT.Arr .byte a A s ∧ Typed .byte A ∧ XT.Arr .byte b B s ∧ Typed .byte B
/-- whether two byte[] are equal, place for place -/
theorem law (l : Launch) (a : Addr) (A : Cell) (b : Addr) (B : Cell) : Law l yN 2 2 0 0 yB 3 (some .boolean) site (P a A b B) (Says01 (EqC A B)) [] 0 0 := by
  refine Law.of_walk (plainFor_of_name (by decide +kernel)) (by decide +kernel) (by decide +kernel) (by decide) (fun _ _ h => by rw [h.1]; rfl) (fun _ U U' hal hh h => ⟨h.1, h.2.1.mv hal hh, h.2.2.1, h.2.2.2.1.mv hal hh, h.2.2.2.2⟩) (fun r U U' V V' h1 hal h2 h => Says01.mv r U U' V V' h1 hal h2 h) ?_
  intro p e s m args below meth c s₁ X0 hexec hbytes hml hret hlk hnm hown hh0 W hP
  obtain ⟨rfl, hA, tA, hB, tB⟩ := hP
  have a31 := hA.2.2.2
  have b31 := hB.2.2.2
  have hA0 := hA.mv X0.warmed.alike hh0
  have hB0 := hB.mv X0.warmed.alike hh0
  have c1 : Steps p.tables e below (s₁.setTop (entryFrame m #[.ref a, .ref b] 3)) (s₁.setTop (mkF m 0 #[.val (.ref a), .val (.ref b), .unset] [])) := entry rfl
  have c2 : Steps p.tables e below (s₁.setTop (entryFrame m #[.ref a, .ref b] 3)) (s₁.setTop (mkF m 4 #[.val (.ref a), .val (.ref b), .unset] [.int (Int32.ofNat B.slots.size), .int (Int32.ofNat A.slots.size)])) := c1.trans (by
    refine XS.aloadN X0.here hexec rfl (hb hbytes d0) rfl rfl ?_
    refine X0.alen hexec hA0 rfl rfl (hb hbytes d1) ?_
    refine XS.aloadN X0.here hexec rfl (hb hbytes d2) rfl rfl ?_
    refine X0.alen hexec hB0 rfl rfl (hb hbytes d3) ?_
    exact Steps.refl _)
  by_cases hs : A.slots.size = B.slots.size
  · have c3 : Steps p.tables e below (s₁.setTop (entryFrame m #[.ref a, .ref b] 3)) (s₁.setTop (mkF m 9 #[.val (.ref a), .val (.ref b), .val (.int 0)] [])) := c2.trans (by
      refine XS.icmpNo X0.here hexec rfl (hb hbytes d4) rfl (ii_ne_f (by rw [hs])) ?_
      refine iconstV X0.here hexec rfl 0 (hb hbytes d7) (by decide) ?_
      refine XS.istoreN X0.here hexec rfl (hb hbytes d8) rfl rfl ?_
      exact Steps.refl _)
    have loop : ∀ (r i : Nat), i + r = A.slots.size → (∀ j, j < i → yv A j = yv B j) → Steps p.tables e below (s₁.setTop (entryFrame m #[.ref a, .ref b] 3)) (s₁.setTop (mkF m 9 #[.val (.ref a), .val (.ref b), .val (.int (Int32.ofNat i))] [])) → ∃ (pc : Nat) (Ls : Array Slot) (v : Int32), (pc = 25 ∨ pc = 33) ∧ ((v = 1 ∧ EqC A B) ∨ (v = 0 ∧ ¬ EqC A B)) ∧ Steps p.tables e below (s₁.setTop (entryFrame m #[.ref a, .ref b] 3)) (s₁.setTop (mkF m pc Ls [.int v])) := by
      intro r
      induction r with
      | zero =>
        intro i hi he cl
        exact ⟨33, _, 1, Or.inr rfl, Or.inl ⟨rfl, hs, fun j hj => he j (by omega)⟩, cl.trans (by
          refine XS.iloadN X0.here hexec rfl (hb hbytes d9) rfl ?_
          refine XS.aloadN X0.here hexec rfl (hb hbytes d10) rfl rfl ?_
          refine X0.alen hexec hA0 rfl rfl (hb hbytes d11) ?_
          refine XS.icmpYes X0.here hexec rfl (pc0 := 12) rfl (hb hbytes d12) rfl (ii_ge_t (nlt32 (by omega) (by omega))) (by decide) rfl ?_
          refine iconstV X0.here hexec rfl 1 (hb hbytes d32) (by decide) ?_
          exact Steps.refl _)⟩
      | succ r ih =>
        intro i hi he cl
        have c4 : Steps p.tables e below (s₁.setTop (entryFrame m #[.ref a, .ref b] 3)) (s₁.setTop (mkF m 21 #[.val (.ref a), .val (.ref b), .val (.int (Int32.ofNat i))] [.int (yv B i), .int (yv A i)])) := cl.trans (by
          refine XS.iloadN X0.here hexec rfl (hb hbytes d9) rfl ?_
          refine XS.aloadN X0.here hexec rfl (hb hbytes d10) rfl rfl ?_
          refine X0.alen hexec hA0 rfl rfl (hb hbytes d11) ?_
          refine XS.icmpNo X0.here hexec rfl (hb hbytes d12) rfl (ii_ge_f (lt32 (by omega) (by omega))) ?_
          refine XS.aloadN X0.here hexec rfl (hb hbytes d15) rfl rfl ?_
          refine XS.iloadN X0.here hexec rfl (hb hbytes d16) rfl ?_
          refine X0.aget hexec hA0 rfl (yv_get hA tA (i := i) (by omega)) rfl rfl (hb hbytes d17) ?_
          refine XS.aloadN X0.here hexec rfl (hb hbytes d18) rfl rfl ?_
          refine XS.iloadN X0.here hexec rfl (hb hbytes d19) rfl ?_
          refine X0.aget hexec hB0 rfl (yv_get hB tB (i := i) (by omega)) rfl rfl (hb hbytes d20) ?_
          exact Steps.refl _)
        by_cases hv : yv A i = yv B i
        · have c5 : Steps p.tables e below (s₁.setTop (entryFrame m #[.ref a, .ref b] 3)) (s₁.setTop (mkF m 9 #[.val (.ref a), .val (.ref b), .val (.int (Int32.ofNat i + 1))] [])) := c4.trans (by
            refine XS.icmpYes X0.here hexec rfl (pc0 := 21) rfl (hb hbytes d21) rfl (ii_eq_t hv) (by decide) rfl ?_
            refine iincV X0.here hexec rfl 1 (hb hbytes d26) (by decide) rfl rfl ?_
            refine XS.goto X0.here hexec rfl (pc0 := 29) rfl (hb hbytes d29) (by decide) rfl ?_
            exact Steps.refl _)
          rw [succ32] at c5
          exact ih (i + 1) (by omega) (fun j hj => by
            by_cases e : j = i
            · rw [e]; exact hv
            · exact he j (by omega)) c5
        · exact ⟨25, _, 0, Or.inl rfl, Or.inr ⟨rfl, fun q => hv (q.2 i (by omega))⟩, c4.trans (by
            refine XS.icmpNo X0.here hexec rfl (hb hbytes d21) rfl (ii_eq_f hv) ?_
            refine iconstV X0.here hexec rfl 0 (hb hbytes d24) (by decide) ?_
            exact Steps.refl _)⟩
    obtain ⟨pc, Ls, v, hpc, hv, cz⟩ := loop A.slots.size 0 (by omega) (fun j hj => absurd hj (Nat.not_lt_zero j)) c3
    have nv : narrow .boolean (.int v) = .int v := by rcases hv with ⟨rfl, -⟩ | ⟨rfl, -⟩ <;> rfl
    rcases hpc with rfl | rfl
    · exact ⟨s₁, some (.int v), _, _, _, X0, rfl, rfl, rfl, (fun h => by cases h), ⟨v, rfl, hh0, hv⟩, fun fs hl => cz.trans (X0.ireturnOut hexec hret nv (Or.inr (Or.inl rfl)) (hb hbytes d25) hl)⟩
    · exact ⟨s₁, some (.int v), _, _, _, X0, rfl, rfl, rfl, (fun h => by cases h), ⟨v, rfl, hh0, hv⟩, fun fs hl => cz.trans (X0.ireturnOut hexec hret nv (Or.inr (Or.inl rfl)) (hb hbytes d33) hl)⟩
  · have c3 : Steps p.tables e below (s₁.setTop (entryFrame m #[.ref a, .ref b] 3)) (s₁.setTop (mkF m 35 #[.val (.ref a), .val (.ref b), .unset] [.int 0])) := c2.trans (by
      refine XS.icmpYes X0.here hexec rfl (pc0 := 4) rfl (hb hbytes d4) rfl (ii_ne_t (ne32 a31 b31 hs)) (by decide) rfl ?_
      refine iconstV X0.here hexec rfl 0 (hb hbytes d34) (by decide) ?_
      exact Steps.refl _)
    exact ⟨s₁, some (.int 0), _, _, _, X0, rfl, rfl, rfl, (fun h => by cases h), ⟨0, rfl, hh0, Or.inr ⟨rfl, fun q => hs q.1⟩⟩, fun fs hl => c3.trans (X0.ireturnOut hexec hret rfl (Or.inr (Or.inl rfl)) (hb hbytes d35) hl)⟩
end LEq
theorem Cod.ty {cd : Int32} {n : Nat} {f : Nat → Int32} {V : Cell} (h : Cod cd n f V) : Typed .byte V := fun i v hv => by
  have hi : i < V.slots.size := (Array.getElem?_eq_some_iff.mp hv).1
  rcases h with ⟨-, k1, k2⟩ | ⟨-, k1, k2, -⟩
  · rw [(k2 i (by omega)).1] at hv; cases hv; exact fits_lo8 _
  · rcases Nat.mod_two_eq_zero_or_one i with e | e
    · obtain ⟨j, rfl⟩ : ∃ j, i = 2 * j := ⟨i / 2, by omega⟩
      rw [(k2 j (by omega)).1] at hv; cases hv; exact fits_lo8 _
    · obtain ⟨j, rfl⟩ : ∃ j, i = 2 * j + 1 := ⟨i / 2, by omega⟩
      rw [(k2 j (by omega)).2] at hv; cases hv; exact fits_lo8 _
/-- the same text -/
def SameT (n : Nat) (f : Nat → Int32) (k : Nat) (g : Nat → Int32) : Prop := n = k ∧ ∀ j, j < n → f j = g j
theorem lo8_inj {x y : Int32} (h0 : ¬ x < 0) (h1 : ¬ 255 < x) (k0 : ¬ y < 0) (k1 : ¬ 255 < y) (h : lo8 x = lo8 y) : x = y := by
  rw [← lo8_mask h0 h1, ← lo8_mask k0 k1, h]
/-- arrays coded by one coder are equal just where the texts are -/
theorem Cod.eqv {cd : Int32} {n k : Nat} {f g : Nat → Int32} {V V' : Cell} (h : Cod cd n f V) (h' : Cod cd k g V') (hf : ∀ j, j < n → ¬ f j < 0 ∧ ¬ 65535 < f j) (hg : ∀ j, j < k → ¬ g j < 0 ∧ ¬ 65535 < g j) : EqC V V' ↔ SameT n f k g := by
  have yvv : ∀ {W : Cell} {i : Nat} {x : Int32}, W.slots[i]? = some (.int x) → yv W i = x := fun q => by unfold yv; rw [q]
  rcases h with ⟨rfl, k1, k2⟩ | ⟨rfl, k1, k2, -⟩
  · rcases h' with ⟨-, m1, m2⟩ | ⟨e, -⟩
    · constructor
      · rintro ⟨e1, e2⟩
        refine ⟨by omega, fun j hj => ?_⟩
        have q := e2 j (by omega)
        rw [yvv (k2 j hj).1, yvv (m2 j (by omega)).1] at q
        exact lo8_inj (hf j hj).1 (k2 j hj).2 (hg j (by omega)).1 (m2 j (by omega)).2 q
      · rintro ⟨rfl, e2⟩
        refine ⟨by omega, fun j hj => ?_⟩
        rw [yvv (k2 j (by omega)).1, yvv (m2 j (by omega)).1, e2 j (by omega)]
    · exact absurd e (by decide)
  · rcases h' with ⟨e, -⟩ | ⟨-, m1, m2, -⟩
    · exact absurd e (by decide)
    · constructor
      · rintro ⟨e1, e2⟩
        refine ⟨by omega, fun j hj => ?_⟩
        have q1 := e2 (2 * j) (by omega)
        have q2 := e2 (2 * j + 1) (by omega)
        rw [yvv (k2 j hj).1, yvv (m2 j (by omega)).1] at q1
        rw [yvv (k2 j hj).2, yvv (m2 j (by omega)).2] at q2
        rw [← pair_says (hf j hj).1 (hf j hj).2, ← pair_says (hg j (by omega)).1 (hg j (by omega)).2, q1, q2]
      · rintro ⟨rfl, e2⟩
        refine ⟨by omega, fun i hi => ?_⟩
        rcases Nat.mod_two_eq_zero_or_one i with e | e
        · obtain ⟨j, rfl⟩ : ∃ j, i = 2 * j := ⟨i / 2, by omega⟩
          rw [yvv (k2 j (by omega)).1, yvv (m2 j (by omega)).1, e2 j (by omega)]
        · obtain ⟨j, rfl⟩ : ∃ j, i = 2 * j + 1 := ⟨i / 2, by omega⟩
          rw [yvv (k2 j (by omega)).2, yvv (m2 j (by omega)).2, e2 j (by omega)]
/-- two codings differ: so do the texts -/
theorem Cod.dif {cd cd' : Int32} {n k : Nat} {f g : Nat → Int32} {V V' : Cell} (h : Cod cd n f V) (h' : Cod cd' k g V') (hne : ¬ cd = cd') : ¬ SameT n f k g := by
  rintro ⟨rfl, e⟩
  rcases h with ⟨rfl, -, k2⟩ | ⟨rfl, -, -, j, hj, hw⟩
  · rcases h' with ⟨rfl, -⟩ | ⟨-, -, -, j, hj, hw⟩
    · exact hne rfl
    · exact (k2 j hj).2 (by rw [e j hj]; exact hw)
  · rcases h' with ⟨-, -, m2⟩ | ⟨rfl, -⟩
    · exact (m2 j hj).2 (by rw [← e j hj]; exact hw)
    · exact hne rfl
/-- an object of exactly C is an instance of C -/
theorem cinst {p : Program} {l : Launch} {e : Env} {R : Room} {s : State} {m : MethodId} {args : Array Value} {below : List Frame} {meth : Method} {c : Code} {T : State} {locs : List Loc} {cells slots : Nat} (X : Stand p l e R s m args below meth c T locs cells slots) (hexec : p.tables.exec = Jvm.exec) {own C : String} {index : Nat} (hown : s.vm.findClass own = some m.cls) (hlink : (Cond.classLink own index C).before args s = true) {a : Addr} (hE : Exact C a T)
    {g : JFrame} (hg : g.method = m) {rest : List Value} (hstack : g.stack = .ref a :: rest) (hdg : decode c.code g.pc = .ok (.instanceof index, 3)) :
    ∃ T', Stand p l e R s m args below meth c T' locs cells slots ∧ T'.heap = T.heap ∧ ∀ target, Steps p.tables e below (T'.setTop { g with pc := g.pc + 3, stack := .int 1 :: rest }) target → Steps p.tables e below (T.setTop g) target := by
  obtain ⟨cB, h1, D, h2, h3, h4⟩ := hE
  have h1' : s.vm.findClass C = some cB := by rw [← X.warmed.alike.findClass]; exact h1
  obtain ⟨vm', X', st⟩ := X.instanceofYes hexec hown hlink h2 h4 h1' (by rw [h3]; exact Jvm.Free.SB.assignable_self _ _) hg hstack hdg
  exact ⟨_, X', rfl, st⟩
theorem cself {p : Program} {l : Launch} {e : Env} {R : Room} {s : State} {m : MethodId} {args : Array Value} {below : List Frame} {meth : Method} {c : Code} {T : State} {locs : List Loc} {cells slots : Nat} (X : Stand p l e R s m args below meth c T locs cells slots) (hexec : p.tables.exec = Jvm.exec) {own C : String} {index : Nat} (hown : s.vm.findClass own = some m.cls) (hlink : (Cond.classLink own index C).before args s = true) {a : Addr} (hE : Exact C a T)
    {g : JFrame} (hg : g.method = m) {rest : List Value} (hstack : g.stack = .ref a :: rest) (hdg : decode c.code g.pc = .ok (.checkcast index, 3)) :
    ∃ T', Stand p l e R s m args below meth c T' locs cells slots ∧ T'.heap = T.heap ∧ ∀ target, Steps p.tables e below (T'.setTop { g with pc := g.pc + 3, stack := .ref a :: rest }) target → Steps p.tables e below (T.setTop g) target := by
  obtain ⟨cB, h1, D, h2, h3, h4⟩ := hE
  have h1' : s.vm.findClass C = some cB := by rw [← X.warmed.alike.findClass]; exact h1
  obtain ⟨vm', X', st⟩ := X.checkcastYes hexec hown hlink h2 h4 h1' (by rw [h3]; exact Jvm.Free.SB.assignable_self _ _) hg hstack hdg
  exact ⟨_, X', rfl, fun t h => st t (by rw [← hstack] at h; exact h)⟩
namespace SEq
def yN : MethodName := ⟨"java/lang/String", "equals", "(Ljava/lang/Object;)Z"⟩
abbrev yB : ByteArray := jdk_42_method_66_code
theorem d0 : decode yB 0 = .ok (.aload_n 0, 1) := by decide +kernel
theorem d1 : decode yB 1 = .ok (.aload_n 1, 1) := by decide +kernel
theorem d2 : decode yB 2 = .ok (.if_acmp (.ne) 5, 3) := by decide +kernel
theorem d5 : decode yB 5 = .ok (.iconst 1, 1) := by decide +kernel
theorem d6 : decode yB 6 = .ok (.ireturn, 1) := by decide +kernel
theorem d7 : decode yB 7 = .ok (.aload_n 1, 1) := by decide +kernel
theorem d8 : decode yB 8 = .ok (.instanceof 10, 3) := by decide +kernel
theorem d11 : decode yB 11 = .ok (.ifCond (.eq) 43, 3) := by decide +kernel
theorem d14 : decode yB 14 = .ok (.aload_n 1, 1) := by decide +kernel
theorem d15 : decode yB 15 = .ok (.checkcast 10, 3) := by decide +kernel
theorem d18 : decode yB 18 = .ok (.astore_n 2, 1) := by decide +kernel
theorem d19 : decode yB 19 = .ok (.getstatic 38, 3) := by decide +kernel
theorem d22 : decode yB 22 = .ok (.ifCond (.eq) 14, 3) := by decide +kernel
theorem d25 : decode yB 25 = .ok (.aload_n 0, 1) := by decide +kernel
theorem d26 : decode yB 26 = .ok (.getfield 15, 3) := by decide +kernel
theorem d29 : decode yB 29 = .ok (.aload_n 2, 1) := by decide +kernel
theorem d30 : decode yB 30 = .ok (.getfield 15, 3) := by decide +kernel
theorem d33 : decode yB 33 = .ok (.if_icmp (.ne) 21, 3) := by decide +kernel
theorem d36 : decode yB 36 = .ok (.aload_n 0, 1) := by decide +kernel
theorem d37 : decode yB 37 = .ok (.getfield 9, 3) := by decide +kernel
theorem d40 : decode yB 40 = .ok (.aload_n 2, 1) := by decide +kernel
theorem d41 : decode yB 41 = .ok (.getfield 9, 3) := by decide +kernel
theorem d44 : decode yB 44 = .ok (.invokestatic 541, 3) := by decide +kernel
theorem d47 : decode yB 47 = .ok (.ifCond (.eq) 7, 3) := by decide +kernel
theorem d50 : decode yB 50 = .ok (.iconst 1, 1) := by decide +kernel
theorem d51 : decode yB 51 = .ok (.goto 4, 3) := by decide +kernel
theorem d54 : decode yB 54 = .ok (.iconst 0, 1) := by decide +kernel
theorem d55 : decode yB 55 = .ok (.ireturn, 1) := by decide +kernel
def site : List Cond := [.classLink "java/lang/String" 10 "java/lang/String", .fieldLink "java/lang/String" 38 "java/lang/String" "COMPACT_STRINGS" "Z", .fieldLink "java/lang/String" 15 "java/lang/String" "coder" "B", .fieldLink "java/lang/String" 9 "java/lang/String" "value" "[B", LEq.tab] ++ staticW "java/lang/String" 541 LEq.yN
def tab : Cond := tabOf yN yB 3 (some .boolean) site
def P (x t : Addr) (V : Cell) (cd : Int32) (n : Nat) (f : Nat → Int32) (y t' : Addr) (V' : Cell) (cd' : Int32) (k : Nat) (g : Nat → Int32) (z : Int32) (args : Array Value) (s : State) : Prop := args = #[.ref x, .ref y] ∧ Txt x t V cd n f s ∧ Txt y t' V' cd' k g s ∧ StaticIs s "java/lang/String" "COMPACT_STRINGS" "Z" (.int z) ∧ ¬ z = 0
/-- equals(Object) of two Strings: whether the texts are the same -/
theorem law (l : Launch) (x t : Addr) (V : Cell) (cd : Int32) (n : Nat) (f : Nat → Int32) (y t' : Addr) (V' : Cell) (cd' : Int32) (k : Nat) (g : Nat → Int32) (z : Int32) : Law l yN 2 1 1 14 yB 3 (some .boolean) site (P x t V cd n f y t' V' cd' k g z) (Says01 (SameT n f k g)) [] 0 0 := by
  refine Law.of_walk (plainFor_of_name (by decide +kernel)) (by decide +kernel) (by decide +kernel) (by decide) (fun _ _ h => by rw [h.1]; rfl) (fun _ U U' hal hh h => ⟨h.1, h.2.1.mv hal hh, h.2.2.1.mv hal hh, h.2.2.2.1.there hal hh, h.2.2.2.2⟩) (fun r U U' V V' h1 hal h2 h => Says01.mv r U U' V V' h1 hal h2 h) ?_
  intro p e s m args below meth c s₁ X0 hexec hbytes hml hret hlk hnm hown hh0 W hP
  obtain ⟨rfl, hx, hy, s1, hz⟩ := hP
  have c1 : Steps p.tables e below (s₁.setTop (entryFrame m #[.ref x, .ref y] 3)) (s₁.setTop (mkF m 2 #[.val (.ref x), .val (.ref y), .unset] [.ref y, .ref x])) := Steps.trans (entry rfl) (by
    show Steps p.tables e below (s₁.setTop (mkF m 0 #[.val (.ref x), .val (.ref y), .unset] [])) _
    refine XS.aloadN X0.here hexec rfl (hb hbytes d0) rfl rfl ?_
    refine XS.aloadN X0.here hexec rfl (hb hbytes d1) rfl rfl ?_
    exact Steps.refl _)
  by_cases hxy : x = y
  · have c2 : Steps p.tables e below (s₁.setTop (entryFrame m #[.ref x, .ref y] 3)) (s₁.setTop (mkF m 6 #[.val (.ref x), .val (.ref y), .unset] [.int 1])) := c1.trans (by
      refine acmpNo X0.here hexec rfl (hb hbytes d2) rfl rfl rfl (by simp [acmp, hxy]) ?_
      refine iconstV X0.here hexec rfl 1 (hb hbytes d5) (by decide) ?_
      exact Steps.refl _)
    subst hxy
    have ec : cd = cd' := by
      obtain ⟨D, fd, a1, a2, a3⟩ := hx.2.2.1
      obtain ⟨D', fd', b1, b2, b3⟩ := hy.2.2.1
      cases a1.symm.trans b1
      obtain ⟨q1, q2, q3, q4⟩ := a2.1
      obtain ⟨r1, r2, r3, r4⟩ := b2.1
      cases q4.symm.trans r4
      cases a3.symm.trans b3; rfl
    have et : t = t' := by
      obtain ⟨D, fd, a1, a2, a3⟩ := hx.2.1
      obtain ⟨D', fd', b1, b2, b3⟩ := hy.2.1
      cases a1.symm.trans b1
      obtain ⟨q1, q2, q3, q4⟩ := a2.1
      obtain ⟨r1, r2, r3, r4⟩ := b2.1
      cases q4.symm.trans r4
      cases a3.symm.trans b3; rfl
    subst ec et
    have ev : V = V' := by cases hx.2.2.2.1.1.symm.trans hy.2.2.2.1.1; rfl
    subst ev
    have hs : SameT n f k g := (Cod.eqv hx.2.2.2.2.1 hy.2.2.2.2.1 hx.2.2.2.2.2 hy.2.2.2.2.2).mp ⟨rfl, fun _ _ => rfl⟩
    exact ⟨s₁, some (.int 1), _, _, _, X0, rfl, rfl, rfl, (fun h => by cases h), ⟨1, rfl, hh0, Or.inl ⟨rfl, hs⟩⟩, fun fs hl => c2.trans (X0.ireturnOut hexec hret rfl (Or.inr (Or.inl rfl)) (hb hbytes d6) hl)⟩
  · have c2 : Steps p.tables e below (s₁.setTop (entryFrame m #[.ref x, .ref y] 3)) (s₁.setTop (mkF m 8 #[.val (.ref x), .val (.ref y), .unset] [.ref y])) := c1.trans (by
      refine acmpYes X0.here hexec rfl (pc0 := 2) rfl (hb hbytes d2) rfl rfl rfl (by simp [acmp, hxy]) (by decide) rfl ?_
      refine XS.aloadN X0.here hexec rfl (hb hbytes d7) rfl rfl ?_
      exact Steps.refl _)
    obtain ⟨T3, X3, q3, st3⟩ := cinst X0 hexec hown (wk W (.classLink "java/lang/String" 10 "java/lang/String")) (hy.mv X0.warmed.alike hh0).1 (g := (mkF m 8 #[.val (.ref x), .val (.ref y), .unset] [.ref y])) rfl (rest := []) rfl (hb hbytes d8)
    have hh3 := q3.trans hh0
    have c4 : Steps p.tables e below (s₁.setTop (entryFrame m #[.ref x, .ref y] 3)) (T3.setTop (mkF m 15 #[.val (.ref x), .val (.ref y), .unset] [.ref y])) := (c2.trans (st3 _ (Steps.refl _))).trans (by
      refine XS.ifNo X3.here hexec rfl (hb hbytes d11) rfl (i0_eq_f (by decide)) ?_
      refine XS.aloadN X3.here hexec rfl (hb hbytes d14) rfl rfl ?_
      exact Steps.refl _)
    obtain ⟨T5, X5, q5, st5⟩ := cself X3 hexec hown (wk W (.classLink "java/lang/String" 10 "java/lang/String")) (hy.mv X3.warmed.alike hh3).1 (g := (mkF m 15 #[.val (.ref x), .val (.ref y), .unset] [.ref y])) rfl (rest := []) rfl (hb hbytes d15)
    have hh5 := q5.trans hh3
    have c6 : Steps p.tables e below (s₁.setTop (entryFrame m #[.ref x, .ref y] 3)) (T5.setTop (mkF m 19 #[.val (.ref x), .val (.ref y), .val (.ref y)] [])) := (c4.trans (st5 _ (Steps.refl _))).trans (by
      refine XS.astoreN X5.here hexec rfl (hb hbytes d18) rfl rfl rfl ?_
      exact Steps.refl _)
    obtain ⟨T7, X7, q7, st7⟩ := X5.sget hexec hown (wk W (.fieldLink "java/lang/String" 38 "java/lang/String" "COMPACT_STRINGS" "Z")) s1 (fun _ _ h => by rw [hh5]; exact h) (g := (mkF m 19 #[.val (.ref x), .val (.ref y), .val (.ref y)] [])) rfl (hb hbytes d19)
    have hh7 := q7.trans hh5
    have c8 : Steps p.tables e below (s₁.setTop (entryFrame m #[.ref x, .ref y] 3)) (T7.setTop (mkF m 26 #[.val (.ref x), .val (.ref y), .val (.ref y)] [.ref x])) := (c6.trans (st7 _ (Steps.refl _))).trans (by
      refine XS.ifNo X7.here hexec rfl (hb hbytes d22) rfl (i0_eq_f hz) ?_
      refine XS.aloadN X7.here hexec rfl (hb hbytes d25) rfl rfl ?_
      exact Steps.refl _)
    obtain ⟨T9, X9, q9, st9⟩ := X7.hget hexec hown (wk W (.fieldLink "java/lang/String" 15 "java/lang/String" "coder" "B")) (hx.mv X7.warmed.alike hh7).2.2.1 (g := (mkF m 26 #[.val (.ref x), .val (.ref y), .val (.ref y)] [.ref x])) rfl (rest := []) rfl (hb hbytes d26)
    have hh9 := q9.trans hh7
    have c10 : Steps p.tables e below (s₁.setTop (entryFrame m #[.ref x, .ref y] 3)) (T9.setTop (mkF m 30 #[.val (.ref x), .val (.ref y), .val (.ref y)] [.ref y, .int cd])) := (c8.trans (st9 _ (Steps.refl _))).trans (by
      refine XS.aloadN X9.here hexec rfl (hb hbytes d29) rfl rfl ?_
      exact Steps.refl _)
    obtain ⟨T11, X11, q11, st11⟩ := X9.hget hexec hown (wk W (.fieldLink "java/lang/String" 15 "java/lang/String" "coder" "B")) (hy.mv X9.warmed.alike hh9).2.2.1 (g := (mkF m 30 #[.val (.ref x), .val (.ref y), .val (.ref y)] [.ref y, .int cd])) rfl (rest := [.int cd]) rfl (hb hbytes d30)
    have hh11 := q11.trans hh9
    have c12 : Steps p.tables e below (s₁.setTop (entryFrame m #[.ref x, .ref y] 3)) (T11.setTop (mkF m 33 #[.val (.ref x), .val (.ref y), .val (.ref y)] [.int cd', .int cd])) := c10.trans (st11 _ (Steps.refl _))
    by_cases hcd : cd = cd'
    · subst hcd
      have c13 : Steps p.tables e below (s₁.setTop (entryFrame m #[.ref x, .ref y] 3)) (T11.setTop (mkF m 37 #[.val (.ref x), .val (.ref y), .val (.ref y)] [.ref x])) := c12.trans (by
        refine XS.icmpNo X11.here hexec rfl (hb hbytes d33) rfl (ii_ne_f rfl) ?_
        refine XS.aloadN X11.here hexec rfl (hb hbytes d36) rfl rfl ?_
        exact Steps.refl _)
      obtain ⟨T14, X14, q14, st14⟩ := X11.hget hexec hown (wk W (.fieldLink "java/lang/String" 9 "java/lang/String" "value" "[B")) (hx.mv X11.warmed.alike hh11).2.1 (g := (mkF m 37 #[.val (.ref x), .val (.ref y), .val (.ref y)] [.ref x])) rfl (rest := []) rfl (hb hbytes d37)
      have hh14 := q14.trans hh11
      have c15 : Steps p.tables e below (s₁.setTop (entryFrame m #[.ref x, .ref y] 3)) (T14.setTop (mkF m 41 #[.val (.ref x), .val (.ref y), .val (.ref y)] [.ref y, .ref t])) := (c13.trans (st14 _ (Steps.refl _))).trans (by
        refine XS.aloadN X14.here hexec rfl (hb hbytes d40) rfl rfl ?_
        exact Steps.refl _)
      obtain ⟨T16, X16, q16, st16⟩ := X14.hget hexec hown (wk W (.fieldLink "java/lang/String" 9 "java/lang/String" "value" "[B")) (hy.mv X14.warmed.alike hh14).2.1 (g := (mkF m 41 #[.val (.ref x), .val (.ref y), .val (.ref y)] [.ref y, .ref t])) rfl (rest := [.ref t]) rfl (hb hbytes d41)
      have hh16 := q16.trans hh14
      have c17 : Steps p.tables e below (s₁.setTop (entryFrame m #[.ref x, .ref y] 3)) (T16.setTop (mkF m 44 #[.val (.ref x), .val (.ref y), .val (.ref y)] [.ref t', .ref t])) := c15.trans (st16 _ (Steps.refl _))
      obtain ⟨v18, T18, X18, E18, g18⟩ := X16.callS hexec (LEq.law l t V t' V') hown (wks W (staticW "java/lang/String" 541 LEq.yN)) (wk W LEq.tab) (W := 0) (Nat.le_of_ble_eq_true rfl) (Nat.le_of_ble_eq_true rfl) (Nat.le_refl _) (Nat.le_refl _) (g := (mkF m 44 #[.val (.ref x), .val (.ref y), .val (.ref y)] [.ref t', .ref t])) rfl (by rw [hml]; rfl) c17 (argsL := [.ref t, .ref t']) (rest := []) rfl rfl (by show 2 * 0 + 0 ≤ _; decide) (hb hbytes d44) (⟨rfl, hx.2.2.2.1.mv X16.warmed.alike hh16, hx.2.2.2.2.1.ty, hy.2.2.2.1.mv X16.warmed.alike hh16, hy.2.2.2.2.1.ty⟩)
      obtain ⟨v, rfl, q18, hv⟩ := E18
      have iff := Cod.eqv hx.2.2.2.2.1 hy.2.2.2.2.1 hx.2.2.2.2.2 hy.2.2.2.2.2
      rcases hv with ⟨rfl, he⟩ | ⟨rfl, he⟩
      · have c19 : Steps p.tables e below (s₁.setTop (entryFrame m #[.ref x, .ref y] 3)) (T18.setTop (mkF m 55 #[.val (.ref x), .val (.ref y), .val (.ref y)] [.int 1])) := Steps.trans g18 (by
          refine XS.ifNo X18.here hexec rfl (hb hbytes d47) rfl (i0_eq_f (by decide)) ?_
          refine iconstV X18.here hexec rfl 1 (hb hbytes d50) (by decide) ?_
          refine XS.goto X18.here hexec rfl (pc0 := 51) rfl (hb hbytes d51) (by decide) rfl ?_
          exact Steps.refl _)
        exact ⟨T18, some (.int 1), _, _, _, X18, rfl, rfl, rfl, (fun h => by cases h), ⟨1, rfl, q18.trans hh16, Or.inl ⟨rfl, iff.mp he⟩⟩, fun fs hl => c19.trans (X18.ireturnOut hexec hret rfl (Or.inr (Or.inl rfl)) (hb hbytes d55) hl)⟩
      · have c19 : Steps p.tables e below (s₁.setTop (entryFrame m #[.ref x, .ref y] 3)) (T18.setTop (mkF m 55 #[.val (.ref x), .val (.ref y), .val (.ref y)] [.int 0])) := Steps.trans g18 (by
          refine XS.ifYes X18.here hexec rfl (pc0 := 47) rfl (hb hbytes d47) rfl (i0_eq_t rfl) (by decide) rfl ?_
          refine iconstV X18.here hexec rfl 0 (hb hbytes d54) (by decide) ?_
          exact Steps.refl _)
        exact ⟨T18, some (.int 0), _, _, _, X18, rfl, rfl, rfl, (fun h => by cases h), ⟨0, rfl, q18.trans hh16, Or.inr ⟨rfl, fun q => he (iff.mpr q)⟩⟩, fun fs hl => c19.trans (X18.ireturnOut hexec hret rfl (Or.inr (Or.inl rfl)) (hb hbytes d55) hl)⟩
    · have c13 : Steps p.tables e below (s₁.setTop (entryFrame m #[.ref x, .ref y] 3)) (T11.setTop (mkF m 55 #[.val (.ref x), .val (.ref y), .val (.ref y)] [.int 0])) := c12.trans (by
        refine XS.icmpYes X11.here hexec rfl (pc0 := 33) rfl (hb hbytes d33) rfl (ii_ne_t hcd) (by decide) rfl ?_
        refine iconstV X11.here hexec rfl 0 (hb hbytes d54) (by decide) ?_
        exact Steps.refl _)
      exact ⟨T11, some (.int 0), _, _, _, X11, rfl, rfl, rfl, (fun h => by cases h), ⟨0, rfl, hh11, Or.inr ⟨rfl, Cod.dif hx.2.2.2.2.1 hy.2.2.2.2.1 hcd⟩⟩, fun fs hl => c13.trans (X11.ireturnOut hexec hret rfl (Or.inr (Or.inl rfl)) (hb hbytes d55) hl)⟩
theorem pays {l : Launch} {R : Room} {p : Program} {e : Env} {below : List Frame} {s : State} {sargs : Array Value} {len W : Nat} (x t : Addr) (V : Cell) (cd : Int32) (n : Nat) (f : Nat → Int32) (y t' : Addr) (V' : Cell) (cd' : Int32) (k : Nat) (g : Nat → Int32) (z : Int32) (htab : tab.before sargs s = true) (hfr : 2 ≤ R.frames) (hlo : W + 28 ≤ R.locals) :
    Back l R p e below s sargs yN len W (fun A₁ a₁ => A₁.cells + 0 ≤ R.cells ∧ A₁.slots + 0 ≤ R.slots ∧ P x t V cd n f y t' V' cd' k g z a₁ A₁.U) (fun A₁ _ v₁ B₁ => Says01 (SameT n f k g) v₁ A₁.U B₁.U ∧ B₁.locs = A₁.locs ++ [] ∧ B₁.cells = A₁.cells + 0 ∧ B₁.slots = A₁.slots + 0) :=
  (law l x t V cd n f y t' V' cd' k g z).pays htab hfr (by omega)
end SEq
end StrChars
namespace StrChars.Road
open Jvm Sem ClassFile Op Lib Jvm.Stand Jvm.Free Jvm.Free.XT
open Jvm.Lib.Cold (StaticIs)
/-- the words of String.equals(Object) -/
abbrev wordsEq : List Jvm.Cond := [.code SEq.yN SEq.yB 3 (some .boolean), .initialized ST, .classLink ST 10 ST, .fieldLink ST 38 ST "COMPACT_STRINGS" "Z", .fieldLink ST 15 ST "coder" "B", .fieldLink ST 9 ST "value" "[B", .methodLink ST 541 LEq.yN, .static LEq.yN, .code LEq.yN LEq.yB 3 (some .boolean), .initialized "java/lang/StringLatin1"]
theorem tabEq_of {a : Array Value} {s : State} (h : ∀ w ∈ wordsEq, w.before a s = true) : SEq.tab.before a s = true := by
  have hl : LEq.tab.before a s = true := unparts (wk h (.code LEq.yN LEq.yB 3 (some .boolean))) (wks h (.initialized LEq.yN.cls :: LEq.site))
  have q := consq hl h
  exact unparts (wk q (.code SEq.yN SEq.yB 3 (some .boolean))) (wks q (.initialized SEq.yN.cls :: SEq.site))
theorem movedEq {Z s : State} {a0 args : Array Value} (hZ : Z.Warmed39 s.vm) (hw : ∀ d ∈ wordsEq, d.before a0 Z = true) : ∀ d ∈ wordsEq, d.before args s = true := fun d hd => by
  have t : ∀ d ∈ wordsEq, (d.onTables && d.keepsFace) = true := by decide +kernel
  exact RoadKit.mv hZ (hw d hd) (t d hd)
/-- the road's facts of a String, as the laws ask it -/
theorem txt_of {Z U : State} {a0 : Array Value} {kI : Nat} (wi : (Jvm.Cond.instantiable ST kI).before a0 Z = true) (al : Z.vm.Alike U.vm) {x t : Addr} {kb : ClassId} {cs : List Int32} {cd N2 : Int32} {vs : List Value} (E : RoadKit.Exa Z U.heap x ST) (V : RoadKit.Fld Z U.heap x ST "value" "[B" (.ref t)) (C : RoadKit.Fld Z U.heap x ST "coder" "B" (.int cd)) (K : RoadKit.Arv Z U.heap t kb .byte N2 vs (.int 0)) (hc : CodA cs cd N2 vs) (hb : ∀ c ∈ cs, ¬ c < 0 ∧ ¬ (65535 : Int32) < c) (l2 : cs.length ≤ 4000) :
    ∃ A, Txt x t A cd cs.length (fun j => cs.getD j 0) U := by
  obtain ⟨A, K1, K2, K3, K4, K5, K6⟩ := K
  have hcod := hc.cod (by omega) K3 K5
  obtain ⟨D, fV, fC, hB, F1, F2, g1, g2, -, -⟩ := strObj wi al E V C
  exact ⟨A, ⟨_, hB.2.2.1, D, hB.1, rfl, by cases q : D.vm <;> first | rfl | exact absurd q (hB.2.1.2 _)⟩, Has.of hB F1 g1, Has.of hB F2 g2, ⟨K1.1, State.isArrayOf_alike al K1.2.1, K1.2.2, by rcases hcod with ⟨-, q, -⟩ | ⟨-, q, -⟩ <;> omega⟩, hcod, fun j hj => by
    have e : cs.getD j 0 = cs[j] := by simp [List.getD_eq_getElem?_getD, hj]
    show ¬ cs.getD j 0 < 0 ∧ ¬ 65535 < cs.getD j 0
    rw [e]; exact hb _ (List.getElem_mem _)⟩
theorem same_list (cs ds : List Int32) : SameT cs.length (fun j => cs.getD j 0) ds.length (fun j => ds.getD j 0) ↔ cs = ds := by
  constructor
  · rintro ⟨e, q⟩
    refine List.ext_getElem e fun j h1 h2 => ?_
    have := q j h1
    simpa [List.getD_eq_getElem?_getD, h1, h2] using this
  · rintro rfl
    exact ⟨rfl, fun _ _ => rfl⟩
/-- **equals(Object) OF TWO SUCH STRINGS**: 1 just where the chars are the same -/
theorem eqW {p : Program} {l : Launch} {e : Env} {R : Room} {s : State} {args : Array Value} {below : List Frame} {len W : Nat} {Z : State} {a0 : Array Value} {h : Heap} (hZ : Z.Warmed39 s.vm) (hw : ∀ d ∈ wordsEq, d.before a0 Z = true) {kI : Nat} (wi : (Jvm.Cond.instantiable ST kI).before a0 Z = true)
    {x t : Addr} {kb : ClassId} {cs : List Int32} {cd N2 : Int32} {vs : List Value} (E : RoadKit.Exa Z h x ST) (V : RoadKit.Fld Z h x ST "value" "[B" (.ref t)) (C : RoadKit.Fld Z h x ST "coder" "B" (.int cd)) (K : RoadKit.Arv Z h t kb .byte N2 vs (.int 0)) (hc : CodA cs cd N2 vs) (hb : ∀ c ∈ cs, ¬ c < 0 ∧ ¬ (65535 : Int32) < c) (l2 : cs.length ≤ 4000)
    {y t' : Addr} {kb' : ClassId} {ds : List Int32} {cd' N2' : Int32} {vs' : List Value} (E' : RoadKit.Exa Z h y ST) (V' : RoadKit.Fld Z h y ST "value" "[B" (.ref t')) (C' : RoadKit.Fld Z h y ST "coder" "B" (.int cd')) (K' : RoadKit.Arv Z h t' kb' .byte N2' vs' (.int 0)) (hc' : CodA ds cd' N2' vs') (hb' : ∀ c ∈ ds, ¬ c < 0 ∧ ¬ (65535 : Int32) < c) (l2' : ds.length ≤ 4000)
    {z : Int32} (S : RoadKit.Sta Z h ST "COMPACT_STRINGS" "Z" (.int z)) (hz : ¬ z = 0) (hfr : 2 ≤ R.frames) (hlo : W + 28 ≤ R.locals) :
    Back l R p e below s args (⟨"java/lang/String", "equals", "(Ljava/lang/Object;)Z"⟩ : MethodName) len W (fun P a => a = #[.ref x, .ref y] ∧ P.U.heap = h ∧ P.cells + 0 ≤ R.cells ∧ P.slots + 0 ≤ R.slots)
      (fun P _ v B => ∃ L, (((v = some (.int 1) ∧ cs = ds) ∨ (v = some (.int 0) ∧ ¬ cs = ds)) ∧ L = [] ∧ B.U.heap = h) ∧ B.locs = P.locs ++ L ∧ B.cells = P.cells + 0 ∧ B.slots = P.slots + 0) := by
  intro m meth c P g ig mk a X hg hsize hdg hW hn hp'
  obtain ⟨rfl, rfl, r1, r2⟩ := hp'
  have al : Z.vm.Alike P.U.vm := hZ.alike.trans X.warmed.alike
  obtain ⟨A, hx⟩ := txt_of wi al E V C K hc hb l2
  obtain ⟨A', hy⟩ := txt_of wi al E' V' C' K' hc' hb' l2'
  obtain ⟨v, B, X', ⟨⟨w, hv, hh, hq⟩, hl, hk, hs⟩, st⟩ := SEq.pays x t A cd cs.length (fun j => cs.getD j 0) y t' A' cd' ds.length (fun j => ds.getD j 0) z (tabEq_of (movedEq hZ hw)) hfr hlo m meth c P g ig mk _ X hg hsize hdg hW hn ⟨r1, r2, rfl, hx, hy, sta_is al S, hz⟩
  refine ⟨v, B, X', ⟨[], ⟨?_, rfl, hh⟩, hl, hk, hs⟩, st⟩
  rcases hq with ⟨rfl, q⟩ | ⟨rfl, q⟩
  · exact Or.inl ⟨hv, (same_list cs ds).mp q⟩
  · exact Or.inr ⟨hv, fun e => q ((same_list cs ds).mpr e)⟩
end StrChars.Road
namespace StrChars
open Jvm Sem ClassFile Op Lib Jvm.Stand Jvm.Free.XT Jvm.Free.ALB Jvm.Free.JM Jvm.Free
open Jvm.Lib.Cold (StaticIs)
namespace ChN
def yN : MethodName := ⟨"java/lang/String", "charAt", "(I)C"⟩
abbrev yB : ByteArray := jdk_42_method_56_code
theorem d0 : decode yB 0 = .ok (.aload_n 0, 1) := by decide +kernel
theorem d1 : decode yB 1 = .ok (.invokevirtual 492, 3) := by decide +kernel
theorem d4 : decode yB 4 = .ok (.ifCond (.eq) 12, 3) := by decide +kernel
theorem d7 : decode yB 7 = .ok (.aload_n 0, 1) := by decide +kernel
theorem d8 : decode yB 8 = .ok (.getfield 9, 3) := by decide +kernel
theorem d11 : decode yB 11 = .ok (.iload_n 1, 1) := by decide +kernel
theorem d12 : decode yB 12 = .ok (.invokestatic 495, 3) := by decide +kernel
theorem d15 : decode yB 15 = .ok (.ireturn, 1) := by decide +kernel
def site : List Cond := [.fieldLink "java/lang/String" 9 "java/lang/String" "value" "[B", IsL.tab, LChA.tab] ++ virtW "java/lang/String" 492 "java/lang/String" IsL.yN IsL.yN ++ staticW "java/lang/String" 495 LChA.yN
def tab : Cond := tabOf yN yB 2 (some .char) site
def P (x t : Addr) (V : Cell) (n : Nat) (f : Nat → Int32) (z : Int32) (fm : Value) (i : Nat) (args : Array Value) (s : State) : Prop := args = #[.ref x, .int (Int32.ofNat i)] ∧ Txt x t V 0 n f s ∧ i < n ∧ StaticIs s "java/lang/String" "COMPACT_STRINGS" "Z" (.int z) ∧ ¬ z = 0 ∧ StaticIs s "jdk/internal/util/Preconditions" "SIOOBE_FORMATTER" "Ljava/util/function/BiFunction;" fm ∧ fm.isRef = true
def E (f : Nat → Int32) (i : Nat) (r : Option Value) (s u : State) : Prop := XT.PureE (some (.int (f i))) r s u
/-- charAt(i) of a Latin-1 String of n chars, i < n: f i -/
theorem law (l : Launch) (x t : Addr) (V : Cell) (n : Nat) (f : Nat → Int32) (z : Int32) (fm : Value) (i : Nat) : Law l yN 2 1 3 40 yB 2 (some .char) site (P x t V n f z fm i) (E f i) [] 0 0 := by
  refine Law.of_walk (plainFor_of_name (by decide +kernel)) (by decide +kernel) (by decide +kernel) (by decide) (fun _ _ h => by rw [h.1]; rfl) (fun _ U U' hal hh h => ⟨h.1, h.2.1.mv hal hh, h.2.2.1, h.2.2.2.1.there hal hh, h.2.2.2.2.1, h.2.2.2.2.2.1.there hal hh, h.2.2.2.2.2.2⟩) (fun r U U' V V' h1 hal h2 h => XT.PureE.mv r U U' V V' h1 hal h2 h) ?_
  intro p e s m args below meth c s₁ X0 hexec hbytes hml hret hlk hnm hown hh0 W hP
  obtain ⟨rfl, hx, hi, s1, hz, s3, rf⟩ := hP
  have v31 := hx.2.2.2.1.2.2.2
  have hr := hx.2.2.2.2.2 i hi
  have hx0 := hx.mv X0.warmed.alike hh0
  have c1 : Steps p.tables e below (s₁.setTop (entryFrame m #[.ref x, .int (Int32.ofNat i)] 2)) (s₁.setTop (mkF m 1 #[.val (.ref x), .val (.int (Int32.ofNat i))] [.ref x])) := Steps.trans (entry rfl) (by
    show Steps p.tables e below (s₁.setTop (mkF m 0 #[.val (.ref x), .val (.int (Int32.ofNat i))] [])) _
    refine XS.aloadN X0.here hexec rfl (hb hbytes d0) rfl rfl ?_
    exact Steps.refl _)
  obtain ⟨v2, T2, X2, E2, g2⟩ := X0.callV hexec (IsL.law l x 0 z) hown (wks W (virtW "java/lang/String" 492 "java/lang/String" IsL.yN IsL.yN)) rfl (by decide) (wk W IsL.tab) (W := 0) (Nat.le_of_ble_eq_true rfl) (Nat.le_of_ble_eq_true rfl) (Nat.le_refl _) (Nat.le_refl _) (hx0.1.fc X0.warmed.alike) hx0.1.is (g := (mkF m 1 #[.val (.ref x), .val (.int (Int32.ofNat i))] [.ref x])) rfl (by rw [hml]; rfl) c1 (argsL := []) (rest := []) rfl rfl (by show 2 * 0 + 0 ≤ _; decide) (hb hbytes d1) (⟨rfl, hx0.2.2.1, hx.2.2.2.2.1.cd, s1.there X0.warmed.alike hh0, hz⟩)
  obtain ⟨rfl, q2⟩ := E2
  have hh2 := q2.trans hh0
  have hx2 := hx.mv X2.warmed.alike hh2
  obtain ⟨-, k1, k2⟩ | ⟨k0, -⟩ := hx.2.2.2.2.1
  · have c3 : Steps p.tables e below (s₁.setTop (entryFrame m #[.ref x, .int (Int32.ofNat i)] 2)) (T2.setTop (mkF m 8 #[.val (.ref x), .val (.int (Int32.ofNat i))] [.ref x])) := Steps.trans g2 (by
      refine XS.ifNo X2.here hexec rfl (hb hbytes d4) rfl (i0_eq_f (by decide)) ?_
      refine XS.aloadN X2.here hexec rfl (hb hbytes d7) rfl rfl ?_
      exact Steps.refl _)
    obtain ⟨T4, X4, q4, st4⟩ := X2.hget hexec hown (wk W (.fieldLink "java/lang/String" 9 "java/lang/String" "value" "[B")) hx2.2.1 (g := (mkF m 8 #[.val (.ref x), .val (.int (Int32.ofNat i))] [.ref x])) rfl (rest := []) rfl (hb hbytes d8)
    have hh4 := q4.trans hh2
    have c5 : Steps p.tables e below (s₁.setTop (entryFrame m #[.ref x, .int (Int32.ofNat i)] 2)) (T4.setTop (mkF m 12 #[.val (.ref x), .val (.int (Int32.ofNat i))] [.int (Int32.ofNat i), .ref t])) := (c3.trans (st4 _ (Steps.refl _))).trans (by
      refine XS.iloadN X4.here hexec rfl (hb hbytes d11) rfl ?_
      exact Steps.refl _)
    obtain ⟨v6, T6, X6, E6, g6⟩ := X4.callS hexec (LChA.law l t V i (lo8 (f i)) fm) hown (wks W (staticW "java/lang/String" 495 LChA.yN)) (wk W LChA.tab) (W := 0) (Nat.le_of_ble_eq_true rfl) (Nat.le_of_ble_eq_true rfl) (Nat.le_refl _) (Nat.le_refl _) (g := (mkF m 12 #[.val (.ref x), .val (.int (Int32.ofNat i))] [.int (Int32.ofNat i), .ref t])) rfl (by rw [hml]; rfl) c5 (argsL := [.ref t, .int (Int32.ofNat i)]) (rest := []) rfl rfl (by show 2 * 0 + 0 ≤ _; decide) (hb hbytes d12) (⟨rfl, hx.2.2.2.1.mv X4.warmed.alike hh4, (k2 i hi).1, s3.there X4.warmed.alike hh4, rf⟩)
    obtain ⟨rfl, q6⟩ := E6
    rw [chr8_lo8 hr.1 (k2 i hi).2] at g6
    exact ⟨T6, some (.int (f i)), _, _, _, X6, rfl, rfl, rfl, (fun h => by cases h), ⟨rfl, q6.trans hh4⟩, fun fs hl => Steps.trans g6 (X6.ireturnOut hexec hret (narrow_ch hr.1 hr.2) (Or.inr (Or.inr (Or.inr (Or.inl rfl)))) (hb hbytes d15) hl)⟩
  · exact absurd k0 (by decide)
theorem pays {l : Launch} {R : Room} {p : Program} {e : Env} {below : List Frame} {s : State} {sargs : Array Value} {len W : Nat} (x t : Addr) (V : Cell) (n : Nat) (f : Nat → Int32) (z : Int32) (fm : Value) (i : Nat) (htab : tab.before sargs s = true) (hfr : 4 ≤ R.frames) (hlo : W + 53 ≤ R.locals) :
    Back l R p e below s sargs yN len W (fun A₁ a₁ => A₁.cells + 0 ≤ R.cells ∧ A₁.slots + 0 ≤ R.slots ∧ P x t V n f z fm i a₁ A₁.U) (fun A₁ _ v₁ B₁ => E f i v₁ A₁.U B₁.U ∧ B₁.locs = A₁.locs ++ [] ∧ B₁.cells = A₁.cells + 0 ∧ B₁.slots = A₁.slots + 0) :=
  (law l x t V n f z fm i).pays htab hfr (by omega)
end ChN
end StrChars
namespace StrChars.Road
open Jvm Sem ClassFile Op Lib Jvm.Stand Jvm.Free Jvm.Free.XT
open Jvm.Lib.Cold (StaticIs)
/-- the words of String.charAt(int), the Latin-1 road alone -/
abbrev wordsChN : List Jvm.Cond := [.code ChN.yN ChN.yB 2 (some .char), .initialized ST, .fieldLink ST 9 ST "value" "[B", .fieldLink ST 38 ST "COMPACT_STRINGS" "Z", .fieldLink ST 15 ST "coder" "B", .code IsL.yN IsL.yB 1 (some .boolean), .methodLink ST 492 IsL.yN, .declares IsL.yN, .selects ST IsL.yN IsL.yN, .instanceMethod IsL.yN,
  .methodLink ST 495 LChA.yN, .static LChA.yN, .code LChA.yN LChA.yB 2 (some .char), .initialized "java/lang/StringLatin1", .methodLink "java/lang/StringLatin1" 9 JO.Str_checkIndex.yN, .static JO.Str_checkIndex.yN, .code JO.Str_checkIndex.yN JO.Str_checkIndex.yB 2 none,
  .fieldLink ST 1053 "jdk/internal/util/Preconditions" "SIOOBE_FORMATTER" "Ljava/util/function/BiFunction;", .methodLink ST 1059 JC.PreCheck.yN, .static JC.PreCheck.yN, .code JC.PreCheck.yN JC.PreCheck.yB 3 (some .int), .initialized "jdk/internal/util/Preconditions"]
theorem tabChN_of {a : Array Value} {s : State} (h : ∀ w ∈ wordsChN, w.before a s = true) : ChN.tab.before a s = true := by
  have hp : JC.PreCheck.tab.before a s = true := unparts (wk h (.code JC.PreCheck.yN JC.PreCheck.yB 3 (some .int))) (wks h (.initialized JC.PreCheck.yN.cls :: JC.PreCheck.site))
  have qk := consq hp h
  have hk : JO.Str_checkIndex.tab.before a s = true := unparts (wk qk (.code JO.Str_checkIndex.yN JO.Str_checkIndex.yB 2 none)) (wks qk (.initialized JO.Str_checkIndex.yN.cls :: JO.Str_checkIndex.site))
  have ql := consq hk h
  have hl : LChA.tab.before a s = true := unparts (wk ql (.code LChA.yN LChA.yB 2 (some .char))) (wks ql (.initialized LChA.yN.cls :: LChA.site))
  have hi : IsL.tab.before a s = true := unparts (wk h (.code IsL.yN IsL.yB 1 (some .boolean))) (wks h (.initialized IsL.yN.cls :: IsL.site))
  have q := consq hi (consq hl h)
  exact unparts (wk q (.code ChN.yN ChN.yB 2 (some .char))) (wks q (.initialized ChN.yN.cls :: ChN.site))
theorem movedChN {Z s : State} {a0 args : Array Value} (hZ : Z.Warmed39 s.vm) (hw : ∀ d ∈ wordsChN, d.before a0 Z = true) : ∀ d ∈ wordsChN, d.before args s = true := fun d hd => by
  have t : ∀ d ∈ wordsChN, (d.onTables && d.keepsFace) = true := by decide +kernel
  exact RoadKit.mv hZ (hw d hd) (t d hd)
/-- **charAt(i) OF A LATIN-1 STRING**, i < n: the char -/
theorem chN {p : Program} {l : Launch} {e : Env} {R : Room} {s : State} {args : Array Value} {below : List Frame} {len W : Nat} {Z : State} {a0 : Array Value} {h : Heap} (hZ : Z.Warmed39 s.vm) (hw : ∀ d ∈ wordsChN, d.before a0 Z = true) {kI : Nat} (wi : (Jvm.Cond.instantiable ST kI).before a0 Z = true)
    {x t : Addr} {kb : ClassId} {cs : List Int32} {N2 z : Int32} {vs : List Value} {fm : Value} {i : Nat} {j : Int32} (E : RoadKit.Exa Z h x ST) (V : RoadKit.Fld Z h x ST "value" "[B" (.ref t)) (C : RoadKit.Fld Z h x ST "coder" "B" (.int 0)) (K : RoadKit.Arv Z h t kb .byte N2 vs (.int 0)) (hc : CodA cs 0 N2 vs) (hb : ∀ c ∈ cs, ¬ c < 0 ∧ ¬ (65535 : Int32) < c)
    (S : RoadKit.Sta Z h ST "COMPACT_STRINGS" "Z" (.int z)) (hz : ¬ z = 0) (F : RoadKit.Sta Z h "jdk/internal/util/Preconditions" "SIOOBE_FORMATTER" "Ljava/util/function/BiFunction;" fm) (rf : fm.isRef = true) (l2 : cs.length ≤ 4000) (hi : i < cs.length) (hj : j = Int32.ofNat i) (hfr : 4 ≤ R.frames) (hlo : W + 53 ≤ R.locals) :
    Back l R p e below s args (⟨"java/lang/String", "charAt", "(I)C"⟩ : MethodName) len W (fun P a => a = #[.ref x, .int j] ∧ P.U.heap = h ∧ P.cells + 0 ≤ R.cells ∧ P.slots + 0 ≤ R.slots)
      (fun P _ v B => ∃ L, (v = some (.int (cs.getD i 0)) ∧ L = [] ∧ B.U.heap = h) ∧ B.locs = P.locs ++ L ∧ B.cells = P.cells + 0 ∧ B.slots = P.slots + 0) := by
  subst hj
  intro m meth c P g ig mk a X hg hsize hdg hW hn hp'
  obtain ⟨rfl, rfl, r1, r2⟩ := hp'
  have al : Z.vm.Alike P.U.vm := hZ.alike.trans X.warmed.alike
  obtain ⟨A, hx⟩ := txt_of wi al E V C K hc hb l2
  obtain ⟨v, B, X', ⟨⟨hv, hh⟩, hl, hk, hs⟩, st⟩ := ChN.pays x t A cs.length (fun j => cs.getD j 0) z fm i (tabChN_of (movedChN hZ hw)) hfr hlo m meth c P g ig mk _ X hg hsize hdg hW hn ⟨r1, r2, rfl, hx, hi, sta_is al S, hz, sta_is al F, rf⟩
  exact ⟨v, B, X', ⟨[], ⟨hv, rfl, hh⟩, hl, hk, hs⟩, st⟩
/-- what backV says of its String, as the contracts of this text ask it: cs's low bytes, coder 0 -/
theorem codOf {cs : List Int32} {n : Nat} (hn : cs.length = n) (hb : ∀ c ∈ cs, ¬ 255 < c) : CodA cs 0 (Int32.ofNat n) ((cs.map lo8).map Value.int) := Or.inl ⟨rfl, by rw [hn], by simp [List.map_map, Function.comp_def], hb⟩
end StrChars.Road
end Jvm.Pilot.@@N@@
namespace Jvm.Pilot.@@N@@
open Jvm Jvm.ClassFile Sem Op Lib Jvm.Free Jvm.Stand Jvm.LawKit Jvm.RoadKit Bundle Jvm.Pilot.@@N@@.Jvm.D
def QP (w : Option Value) (h0 : Heap) (n0 : Nat) (v : Option Value) (h : Heap) (L : List Loc) : Prop := v = w ∧ Fr n0 L ∧ h = h0
section YS
variable {p : Program} {l : Launch} {e : Env} {R : Room} {s : State} {args : Array Value} {meth : Method} {locs : List Loc} {cells slots : Nat} {bytes : ByteArray} {below : List Frame} {T target : State} {m : MethodId} {c : Code} {pc : Nat} {Ls : Array Slot} {S : List Value}
theorem y_iload (X : Stand p l e R s m args below meth c T locs cells slots) (hx : p.tables.exec = Jvm.exec) (hby : c.code = bytes) {k : Nat} {v : Int32} (hd : decode bytes pc = .ok (.iload k, 2)) (hl : Ls[k]? = some (.val (.int v))) (hr : Steps p.tables e below (T.setTop (mkF m (pc + 2) Ls (.int v :: S))) target) : Steps p.tables e below (T.setTop (mkF m pc Ls S)) target := XS.iload (g := mkF m pc Ls S) X.here hx rfl (hb hby hd) hl hr
theorem y_iloadN (X : Stand p l e R s m args below meth c T locs cells slots) (hx : p.tables.exec = Jvm.exec) (hby : c.code = bytes) {k : Fin 4} {v : Int32} (hd : decode bytes pc = .ok (.iload_n k, 1)) (hl : Ls[k.val]? = some (.val (.int v))) (hr : Steps p.tables e below (T.setTop (mkF m (pc + 1) Ls (.int v :: S))) target) : Steps p.tables e below (T.setTop (mkF m pc Ls S)) target := XS.iloadN (g := mkF m pc Ls S) X.here hx rfl (hb hby hd) hl hr
theorem y_lload (X : Stand p l e R s m args below meth c T locs cells slots) (hx : p.tables.exec = Jvm.exec) (hby : c.code = bytes) {k : Nat} {v : Int64} (hd : decode bytes pc = .ok (.lload k, 2)) (hl : Ls[k]? = some (.val (.long v))) (hr : Steps p.tables e below (T.setTop (mkF m (pc + 2) Ls (.long v :: S))) target) : Steps p.tables e below (T.setTop (mkF m pc Ls S)) target := XS.lload (g := mkF m pc Ls S) X.here hx rfl (hb hby hd) hl hr
theorem y_lloadN (X : Stand p l e R s m args below meth c T locs cells slots) (hx : p.tables.exec = Jvm.exec) (hby : c.code = bytes) {k : Fin 4} {v : Int64} (hd : decode bytes pc = .ok (.lload_n k, 1)) (hl : Ls[k.val]? = some (.val (.long v))) (hr : Steps p.tables e below (T.setTop (mkF m (pc + 1) Ls (.long v :: S))) target) : Steps p.tables e below (T.setTop (mkF m pc Ls S)) target := XS.lloadN (g := mkF m pc Ls S) X.here hx rfl (hb hby hd) hl hr
theorem y_aload (X : Stand p l e R s m args below meth c T locs cells slots) (hx : p.tables.exec = Jvm.exec) (hby : c.code = bytes) {k : Nat} {v : Value} (hd : decode bytes pc = .ok (.aload k, 2)) (hl : Ls[k]? = some (.val v)) (hv : v.isRef = true) (hr : Steps p.tables e below (T.setTop (mkF m (pc + 2) Ls (v :: S))) target) : Steps p.tables e below (T.setTop (mkF m pc Ls S)) target := XS.aload (g := mkF m pc Ls S) X.here hx rfl (hb hby hd) hl hv hr
theorem y_aloadN (X : Stand p l e R s m args below meth c T locs cells slots) (hx : p.tables.exec = Jvm.exec) (hby : c.code = bytes) {k : Fin 4} {v : Value} (hd : decode bytes pc = .ok (.aload_n k, 1)) (hl : Ls[k.val]? = some (.val v)) (hv : v.isRef = true) (hr : Steps p.tables e below (T.setTop (mkF m (pc + 1) Ls (v :: S))) target) : Steps p.tables e below (T.setTop (mkF m pc Ls S)) target := XS.aloadN (g := mkF m pc Ls S) X.here hx rfl (hb hby hd) hl hv hr
theorem y_istore (X : Stand p l e R s m args below meth c T locs cells slots) (hx : p.tables.exec = Jvm.exec) (hby : c.code = bytes) {k : Nat} {x : Int32} {l' : Array Slot} (hd : decode bytes pc = .ok (.istore k, 2)) (hl : storeLocals Ls k (.int x) = some l') (hr : Steps p.tables e below (T.setTop (mkF m (pc + 2) l' S)) target) : Steps p.tables e below (T.setTop (mkF m pc Ls (.int x :: S))) target := XS.istore (g := mkF m pc Ls (.int x :: S)) X.here hx rfl (hb hby hd) rfl hl hr
theorem y_istoreN (X : Stand p l e R s m args below meth c T locs cells slots) (hx : p.tables.exec = Jvm.exec) (hby : c.code = bytes) {k : Fin 4} {x : Int32} {l' : Array Slot} (hd : decode bytes pc = .ok (.istore_n k, 1)) (hl : storeLocals Ls k.val (.int x) = some l') (hr : Steps p.tables e below (T.setTop (mkF m (pc + 1) l' S)) target) : Steps p.tables e below (T.setTop (mkF m pc Ls (.int x :: S))) target := XS.istoreN (g := mkF m pc Ls (.int x :: S)) X.here hx rfl (hb hby hd) rfl hl hr
theorem y_lstore (X : Stand p l e R s m args below meth c T locs cells slots) (hx : p.tables.exec = Jvm.exec) (hby : c.code = bytes) {k : Nat} {x : Int64} {l' : Array Slot} (hd : decode bytes pc = .ok (.lstore k, 2)) (hl : storeLocals Ls k (.long x) = some l') (hr : Steps p.tables e below (T.setTop (mkF m (pc + 2) l' S)) target) : Steps p.tables e below (T.setTop (mkF m pc Ls (.long x :: S))) target := XS.lstore (g := mkF m pc Ls (.long x :: S)) X.here hx rfl (hb hby hd) rfl hl hr
theorem y_lstoreN (X : Stand p l e R s m args below meth c T locs cells slots) (hx : p.tables.exec = Jvm.exec) (hby : c.code = bytes) {k : Fin 4} {x : Int64} {l' : Array Slot} (hd : decode bytes pc = .ok (.lstore_n k, 1)) (hl : storeLocals Ls k.val (.long x) = some l') (hr : Steps p.tables e below (T.setTop (mkF m (pc + 1) l' S)) target) : Steps p.tables e below (T.setTop (mkF m pc Ls (.long x :: S))) target := XS.lstoreN (g := mkF m pc Ls (.long x :: S)) X.here hx rfl (hb hby hd) rfl hl hr
theorem y_astore (X : Stand p l e R s m args below meth c T locs cells slots) (hx : p.tables.exec = Jvm.exec) (hby : c.code = bytes) {k : Nat} {x : Value} {l' : Array Slot} (hd : decode bytes pc = .ok (.astore k, 2)) (hv : x.isRef = true) (hl : storeLocals Ls k x = some l') (hr : Steps p.tables e below (T.setTop (mkF m (pc + 2) l' S)) target) : Steps p.tables e below (T.setTop (mkF m pc Ls (x :: S))) target := XS.astore (g := mkF m pc Ls (x :: S)) X.here hx rfl (hb hby hd) rfl hv hl hr
theorem y_astoreN (X : Stand p l e R s m args below meth c T locs cells slots) (hx : p.tables.exec = Jvm.exec) (hby : c.code = bytes) {k : Fin 4} {x : Value} {l' : Array Slot} (hd : decode bytes pc = .ok (.astore_n k, 1)) (hv : x.isRef = true) (hl : storeLocals Ls k.val x = some l') (hr : Steps p.tables e below (T.setTop (mkF m (pc + 1) l' S)) target) : Steps p.tables e below (T.setTop (mkF m pc Ls (x :: S))) target := XS.astoreN (g := mkF m pc Ls (x :: S)) X.here hx rfl (hb hby hd) rfl hv hl hr
theorem y_iconst (X : Stand p l e R s m args below meth c T locs cells slots) (hx : p.tables.exec = Jvm.exec) (hby : c.code = bytes) {i : Int} {v : Int32} (hd : decode bytes pc = .ok (.iconst i, 1)) (hv : Int32.ofInt i = v) (hr : Steps p.tables e below (T.setTop (mkF m (pc + 1) Ls (.int v :: S))) target) : Steps p.tables e below (T.setTop (mkF m pc Ls S)) target := XS.iconst (g := mkF m pc Ls S) X.here hx rfl (hb hby hd) (by subst hv; exact hr)
theorem y_bipush (X : Stand p l e R s m args below meth c T locs cells slots) (hx : p.tables.exec = Jvm.exec) (hby : c.code = bytes) {i : Int} {v : Int32} (hd : decode bytes pc = .ok (.bipush i, 2)) (hv : (Int8.ofInt i).toInt32 = v) (hr : Steps p.tables e below (T.setTop (mkF m (pc + 2) Ls (.int v :: S))) target) : Steps p.tables e below (T.setTop (mkF m pc Ls S)) target := XS.bipush (g := mkF m pc Ls S) X.here hx rfl (hb hby hd) (by subst hv; exact hr)
theorem y_sipush (X : Stand p l e R s m args below meth c T locs cells slots) (hx : p.tables.exec = Jvm.exec) (hby : c.code = bytes) {i : Int} {v : Int32} (hd : decode bytes pc = .ok (.sipush i, 3)) (hv : (Int16.ofInt i).toInt32 = v) (hr : Steps p.tables e below (T.setTop (mkF m (pc + 3) Ls (.int v :: S))) target) : Steps p.tables e below (T.setTop (mkF m pc Ls S)) target := XS.sipush (g := mkF m pc Ls S) X.here hx rfl (hb hby hd) (by subst hv; exact hr)
theorem y_lconst (X : Stand p l e R s m args below meth c T locs cells slots) (hx : p.tables.exec = Jvm.exec) (hby : c.code = bytes) {k : Fin 2} {v : Int64} (hd : decode bytes pc = .ok (.lconst k, 1)) (hv : Int64.ofNat k = v) (hr : Steps p.tables e below (T.setTop (mkF m (pc + 1) Ls (.long v :: S))) target) : Steps p.tables e below (T.setTop (mkF m pc Ls S)) target := XS.lconst (g := mkF m pc Ls S) X.here hx rfl (hb hby hd) (by subst hv; exact hr)
theorem y_aconstNull (X : Stand p l e R s m args below meth c T locs cells slots) (hx : p.tables.exec = Jvm.exec) (hby : c.code = bytes)  (hd : decode bytes pc = .ok (.aconst_null, 1)) (hr : Steps p.tables e below (T.setTop (mkF m (pc + 1) Ls (.null :: S))) target) : Steps p.tables e below (T.setTop (mkF m pc Ls S)) target := XS.aconstNull (g := mkF m pc Ls S) X.here hx rfl (hb hby hd) hr
theorem y_iadd (X : Stand p l e R s m args below meth c T locs cells slots) (hx : p.tables.exec = Jvm.exec) (hby : c.code = bytes) {x y : Int32} (hd : decode bytes pc = .ok (.iadd, 1)) (hr : Steps p.tables e below (T.setTop (mkF m (pc + 1) Ls (.int (x + y) :: S))) target) : Steps p.tables e below (T.setTop (mkF m pc Ls (.int y :: .int x :: S))) target := XS.iadd (g := mkF m pc Ls (.int y :: .int x :: S)) X.here hx rfl (hb hby hd) rfl hr
theorem y_isub (X : Stand p l e R s m args below meth c T locs cells slots) (hx : p.tables.exec = Jvm.exec) (hby : c.code = bytes) {x y : Int32} (hd : decode bytes pc = .ok (.isub, 1)) (hr : Steps p.tables e below (T.setTop (mkF m (pc + 1) Ls (.int (x - y) :: S))) target) : Steps p.tables e below (T.setTop (mkF m pc Ls (.int y :: .int x :: S))) target := XS.isub (g := mkF m pc Ls (.int y :: .int x :: S)) X.here hx rfl (hb hby hd) rfl hr
theorem y_imul (X : Stand p l e R s m args below meth c T locs cells slots) (hx : p.tables.exec = Jvm.exec) (hby : c.code = bytes) {x y : Int32} (hd : decode bytes pc = .ok (.imul, 1)) (hr : Steps p.tables e below (T.setTop (mkF m (pc + 1) Ls (.int (x * y) :: S))) target) : Steps p.tables e below (T.setTop (mkF m pc Ls (.int y :: .int x :: S))) target := XS.imul (g := mkF m pc Ls (.int y :: .int x :: S)) X.here hx rfl (hb hby hd) rfl hr
theorem y_iand (X : Stand p l e R s m args below meth c T locs cells slots) (hx : p.tables.exec = Jvm.exec) (hby : c.code = bytes) {x y : Int32} (hd : decode bytes pc = .ok (.iand, 1)) (hr : Steps p.tables e below (T.setTop (mkF m (pc + 1) Ls (.int (x &&& y) :: S))) target) : Steps p.tables e below (T.setTop (mkF m pc Ls (.int y :: .int x :: S))) target := XS.iand (g := mkF m pc Ls (.int y :: .int x :: S)) X.here hx rfl (hb hby hd) rfl hr
theorem y_ior (X : Stand p l e R s m args below meth c T locs cells slots) (hx : p.tables.exec = Jvm.exec) (hby : c.code = bytes) {x y : Int32} (hd : decode bytes pc = .ok (.ior, 1)) (hr : Steps p.tables e below (T.setTop (mkF m (pc + 1) Ls (.int (x ||| y) :: S))) target) : Steps p.tables e below (T.setTop (mkF m pc Ls (.int y :: .int x :: S))) target := XS.ior (g := mkF m pc Ls (.int y :: .int x :: S)) X.here hx rfl (hb hby hd) rfl hr
theorem y_ixor (X : Stand p l e R s m args below meth c T locs cells slots) (hx : p.tables.exec = Jvm.exec) (hby : c.code = bytes) {x y : Int32} (hd : decode bytes pc = .ok (.ixor, 1)) (hr : Steps p.tables e below (T.setTop (mkF m (pc + 1) Ls (.int (x ^^^ y) :: S))) target) : Steps p.tables e below (T.setTop (mkF m pc Ls (.int y :: .int x :: S))) target := XS.ixor (g := mkF m pc Ls (.int y :: .int x :: S)) X.here hx rfl (hb hby hd) rfl hr
theorem y_ishl (X : Stand p l e R s m args below meth c T locs cells slots) (hx : p.tables.exec = Jvm.exec) (hby : c.code = bytes) {x y : Int32} (hd : decode bytes pc = .ok (.ishl, 1)) (hr : Steps p.tables e below (T.setTop (mkF m (pc + 1) Ls (.int (x <<< (y &&& 31)) :: S))) target) : Steps p.tables e below (T.setTop (mkF m pc Ls (.int y :: .int x :: S))) target := XS.ishl (g := mkF m pc Ls (.int y :: .int x :: S)) X.here hx rfl (hb hby hd) rfl hr
theorem y_ishr (X : Stand p l e R s m args below meth c T locs cells slots) (hx : p.tables.exec = Jvm.exec) (hby : c.code = bytes) {x y : Int32} (hd : decode bytes pc = .ok (.ishr, 1)) (hr : Steps p.tables e below (T.setTop (mkF m (pc + 1) Ls (.int (x >>> (y &&& 31)) :: S))) target) : Steps p.tables e below (T.setTop (mkF m pc Ls (.int y :: .int x :: S))) target := XS.ishr (g := mkF m pc Ls (.int y :: .int x :: S)) X.here hx rfl (hb hby hd) rfl hr
theorem y_iushr (X : Stand p l e R s m args below meth c T locs cells slots) (hx : p.tables.exec = Jvm.exec) (hby : c.code = bytes) {x y : Int32} (hd : decode bytes pc = .ok (.iushr, 1)) (hr : Steps p.tables e below (T.setTop (mkF m (pc + 1) Ls (.int ((x.toUInt32 >>> (y &&& 31).toUInt32).toInt32) :: S))) target) : Steps p.tables e below (T.setTop (mkF m pc Ls (.int y :: .int x :: S))) target := XS.iushr (g := mkF m pc Ls (.int y :: .int x :: S)) X.here hx rfl (hb hby hd) rfl hr
theorem y_ladd (X : Stand p l e R s m args below meth c T locs cells slots) (hx : p.tables.exec = Jvm.exec) (hby : c.code = bytes) {x y : Int64} (hd : decode bytes pc = .ok (.ladd, 1)) (hr : Steps p.tables e below (T.setTop (mkF m (pc + 1) Ls (.long (x + y) :: S))) target) : Steps p.tables e below (T.setTop (mkF m pc Ls (.long y :: .long x :: S))) target := XS.ladd (g := mkF m pc Ls (.long y :: .long x :: S)) X.here hx rfl (hb hby hd) rfl hr
theorem y_lsub (X : Stand p l e R s m args below meth c T locs cells slots) (hx : p.tables.exec = Jvm.exec) (hby : c.code = bytes) {x y : Int64} (hd : decode bytes pc = .ok (.lsub, 1)) (hr : Steps p.tables e below (T.setTop (mkF m (pc + 1) Ls (.long (x - y) :: S))) target) : Steps p.tables e below (T.setTop (mkF m pc Ls (.long y :: .long x :: S))) target := XS.lsub (g := mkF m pc Ls (.long y :: .long x :: S)) X.here hx rfl (hb hby hd) rfl hr
theorem y_lmul (X : Stand p l e R s m args below meth c T locs cells slots) (hx : p.tables.exec = Jvm.exec) (hby : c.code = bytes) {x y : Int64} (hd : decode bytes pc = .ok (.lmul, 1)) (hr : Steps p.tables e below (T.setTop (mkF m (pc + 1) Ls (.long (x * y) :: S))) target) : Steps p.tables e below (T.setTop (mkF m pc Ls (.long y :: .long x :: S))) target := XS.lmul (g := mkF m pc Ls (.long y :: .long x :: S)) X.here hx rfl (hb hby hd) rfl hr
theorem y_land (X : Stand p l e R s m args below meth c T locs cells slots) (hx : p.tables.exec = Jvm.exec) (hby : c.code = bytes) {x y : Int64} (hd : decode bytes pc = .ok (.land, 1)) (hr : Steps p.tables e below (T.setTop (mkF m (pc + 1) Ls (.long (x &&& y) :: S))) target) : Steps p.tables e below (T.setTop (mkF m pc Ls (.long y :: .long x :: S))) target := XS.land (g := mkF m pc Ls (.long y :: .long x :: S)) X.here hx rfl (hb hby hd) rfl hr
theorem y_lor (X : Stand p l e R s m args below meth c T locs cells slots) (hx : p.tables.exec = Jvm.exec) (hby : c.code = bytes) {x y : Int64} (hd : decode bytes pc = .ok (.lor, 1)) (hr : Steps p.tables e below (T.setTop (mkF m (pc + 1) Ls (.long (x ||| y) :: S))) target) : Steps p.tables e below (T.setTop (mkF m pc Ls (.long y :: .long x :: S))) target := XS.lor (g := mkF m pc Ls (.long y :: .long x :: S)) X.here hx rfl (hb hby hd) rfl hr
theorem y_lxor (X : Stand p l e R s m args below meth c T locs cells slots) (hx : p.tables.exec = Jvm.exec) (hby : c.code = bytes) {x y : Int64} (hd : decode bytes pc = .ok (.lxor, 1)) (hr : Steps p.tables e below (T.setTop (mkF m (pc + 1) Ls (.long (x ^^^ y) :: S))) target) : Steps p.tables e below (T.setTop (mkF m pc Ls (.long y :: .long x :: S))) target := XS.lxor (g := mkF m pc Ls (.long y :: .long x :: S)) X.here hx rfl (hb hby hd) rfl hr
theorem y_ldiv (X : Stand p l e R s m args below meth c T locs cells slots) (hx : p.tables.exec = Jvm.exec) (hby : c.code = bytes) {x y : Int64} (hd : decode bytes pc = .ok (.ldiv, 1)) (hy : y ≠ 0) (hr : Steps p.tables e below (T.setTop (mkF m (pc + 1) Ls (.long (x / y) :: S))) target) : Steps p.tables e below (T.setTop (mkF m pc Ls (.long y :: .long x :: S))) target := XS.ldiv (g := mkF m pc Ls (.long y :: .long x :: S)) X.here hx rfl (hb hby hd) rfl hy hr
theorem y_lrem (X : Stand p l e R s m args below meth c T locs cells slots) (hx : p.tables.exec = Jvm.exec) (hby : c.code = bytes) {x y : Int64} (hd : decode bytes pc = .ok (.lrem, 1)) (hy : y ≠ 0) (hr : Steps p.tables e below (T.setTop (mkF m (pc + 1) Ls (.long (x - (x / y) * y) :: S))) target) : Steps p.tables e below (T.setTop (mkF m pc Ls (.long y :: .long x :: S))) target := XS.lrem (g := mkF m pc Ls (.long y :: .long x :: S)) X.here hx rfl (hb hby hd) rfl hy hr
theorem y_idiv (X : Stand p l e R s m args below meth c T locs cells slots) (hx : p.tables.exec = Jvm.exec) (hby : c.code = bytes) {x y : Int32} (hd : decode bytes pc = .ok (.idiv, 1)) (hy : y ≠ 0) (hr : Steps p.tables e below (T.setTop (mkF m (pc + 1) Ls (.int (x / y) :: S))) target) : Steps p.tables e below (T.setTop (mkF m pc Ls (.int y :: .int x :: S))) target := XS.idiv (g := mkF m pc Ls (.int y :: .int x :: S)) X.here hx rfl (hb hby hd) rfl hy hr
theorem y_ineg (X : Stand p l e R s m args below meth c T locs cells slots) (hx : p.tables.exec = Jvm.exec) (hby : c.code = bytes) {x : Int32} (hd : decode bytes pc = .ok (.ineg, 1)) (hr : Steps p.tables e below (T.setTop (mkF m (pc + 1) Ls (.int (-x) :: S))) target) : Steps p.tables e below (T.setTop (mkF m pc Ls (.int x :: S))) target := XS.ineg (g := mkF m pc Ls (.int x :: S)) X.here hx rfl (hb hby hd) rfl hr
theorem y_i2l (X : Stand p l e R s m args below meth c T locs cells slots) (hx : p.tables.exec = Jvm.exec) (hby : c.code = bytes) {x : Int32} (hd : decode bytes pc = .ok (.i2l, 1)) (hr : Steps p.tables e below (T.setTop (mkF m (pc + 1) Ls (.long (x.toInt64) :: S))) target) : Steps p.tables e below (T.setTop (mkF m pc Ls (.int x :: S))) target := XS.i2l (g := mkF m pc Ls (.int x :: S)) X.here hx rfl (hb hby hd) rfl hr
theorem y_l2i (X : Stand p l e R s m args below meth c T locs cells slots) (hx : p.tables.exec = Jvm.exec) (hby : c.code = bytes) {x : Int64} (hd : decode bytes pc = .ok (.l2i, 1)) (hr : Steps p.tables e below (T.setTop (mkF m (pc + 1) Ls (.int (x.toInt32) :: S))) target) : Steps p.tables e below (T.setTop (mkF m pc Ls (.long x :: S))) target := XS.l2i (g := mkF m pc Ls (.long x :: S)) X.here hx rfl (hb hby hd) rfl hr
theorem y_i2b (X : Stand p l e R s m args below meth c T locs cells slots) (hx : p.tables.exec = Jvm.exec) (hby : c.code = bytes) {x : Int32} (hd : decode bytes pc = .ok (.i2b, 1)) (hr : Steps p.tables e below (T.setTop (mkF m (pc + 1) Ls (.int (x.toInt8.toInt32) :: S))) target) : Steps p.tables e below (T.setTop (mkF m pc Ls (.int x :: S))) target := XS.i2b (g := mkF m pc Ls (.int x :: S)) X.here hx rfl (hb hby hd) rfl hr
theorem y_i2c (X : Stand p l e R s m args below meth c T locs cells slots) (hx : p.tables.exec = Jvm.exec) (hby : c.code = bytes) {x : Int32} (hd : decode bytes pc = .ok (.i2c, 1)) (hr : Steps p.tables e below (T.setTop (mkF m (pc + 1) Ls (.int (x.toUInt32.toUInt16.toUInt32.toInt32) :: S))) target) : Steps p.tables e below (T.setTop (mkF m pc Ls (.int x :: S))) target := XS.i2c (g := mkF m pc Ls (.int x :: S)) X.here hx rfl (hb hby hd) rfl hr
theorem y_i2s (X : Stand p l e R s m args below meth c T locs cells slots) (hx : p.tables.exec = Jvm.exec) (hby : c.code = bytes) {x : Int32} (hd : decode bytes pc = .ok (.i2s, 1)) (hr : Steps p.tables e below (T.setTop (mkF m (pc + 1) Ls (.int (x.toInt16.toInt32) :: S))) target) : Steps p.tables e below (T.setTop (mkF m pc Ls (.int x :: S))) target := XS.i2s (g := mkF m pc Ls (.int x :: S)) X.here hx rfl (hb hby hd) rfl hr
theorem y_lcmp (X : Stand p l e R s m args below meth c T locs cells slots) (hx : p.tables.exec = Jvm.exec) (hby : c.code = bytes) {x y : Int64} (hd : decode bytes pc = .ok (.lcmp, 1)) (hr : Steps p.tables e below (T.setTop (mkF m (pc + 1) Ls (.int (lcmpW x y) :: S))) target) : Steps p.tables e below (T.setTop (mkF m pc Ls (.long y :: .long x :: S))) target := XS.lcmp (g := mkF m pc Ls (.long y :: .long x :: S)) X.here hx rfl (hb hby hd) rfl hr
theorem y_iinc (X : Stand p l e R s m args below meth c T locs cells slots) (hx : p.tables.exec = Jvm.exec) (hby : c.code = bytes) {k : Nat} {d : Int} {x : Int32} {l' : Array Slot} (hd : decode bytes pc = .ok (.iinc k d, 3)) (hl : Ls[k]? = some (.val (.int x))) (hl' : storeLocals Ls k (.int (x + Int32.ofInt d)) = some l') (hr : Steps p.tables e below (T.setTop (mkF m (pc + 3) l' S)) target) : Steps p.tables e below (T.setTop (mkF m pc Ls S)) target := XS.iinc (g := mkF m pc Ls S) X.here hx rfl (hb hby hd) hl hl' hr
theorem y_dup (X : Stand p l e R s m args below meth c T locs cells slots) (hx : p.tables.exec = Jvm.exec) (hby : c.code = bytes) {x : Value} (hd : decode bytes pc = .ok (.dup, 1)) (hc : x.category = 1) (hr : Steps p.tables e below (T.setTop (mkF m (pc + 1) Ls (x :: x :: S))) target) : Steps p.tables e below (T.setTop (mkF m pc Ls (x :: S))) target := XS.dup (g := mkF m pc Ls (x :: S)) X.here hx rfl (hb hby hd) rfl hc hr
theorem y_pop (X : Stand p l e R s m args below meth c T locs cells slots) (hx : p.tables.exec = Jvm.exec) (hby : c.code = bytes) {x : Value} (hd : decode bytes pc = .ok (.pop, 1)) (hc : x.category = 1) (hr : Steps p.tables e below (T.setTop (mkF m (pc + 1) Ls S)) target) : Steps p.tables e below (T.setTop (mkF m pc Ls (x :: S))) target := XS.pop (g := mkF m pc Ls (x :: S)) X.here hx rfl (hb hby hd) rfl hc hr
theorem y_dupX1 (X : Stand p l e R s m args below meth c T locs cells slots) (hx : p.tables.exec = Jvm.exec) (hby : c.code = bytes) {x y : Value} (hd : decode bytes pc = .ok (.dup_x1, 1)) (hc : x.category = 1) (hc' : y.category = 1) (hr : Steps p.tables e below (T.setTop (mkF m (pc + 1) Ls (x :: y :: x :: S))) target) : Steps p.tables e below (T.setTop (mkF m pc Ls (x :: y :: S))) target := XS.dupX1 (g := mkF m pc Ls (x :: y :: S)) X.here hx rfl (hb hby hd) rfl hc hc' hr
theorem y_goto (X : Stand p l e R s m args below meth c T locs cells slots) (hx : p.tables.exec = Jvm.exec) (hby : c.code = bytes)  {o : Int} {pc' : Nat} (hd : decode bytes pc = .ok (.goto o, 3))  (ho : 0 ≤ (pc : Int) + o) (hp : ((pc : Int) + o).toNat = pc') (hr : Steps p.tables e below (T.setTop (mkF m pc' Ls S)) target) : Steps p.tables e below (T.setTop (mkF m pc Ls S)) target := XS.goto (g := mkF m pc Ls S) X.here hx rfl rfl (hb hby hd)  ho hp hr
theorem y_ifYes (X : Stand p l e R s m args below meth c T locs cells slots) (hx : p.tables.exec = Jvm.exec) (hby : c.code = bytes) {cd : ClassFile.Cond} {x : Int32} {o : Int} {pc' : Nat} (hd : decode bytes pc = .ok (.ifCond cd o, 3)) (hc : ifCond.holds cd x = true) (ho : 0 ≤ (pc : Int) + o) (hp : ((pc : Int) + o).toNat = pc') (hr : Steps p.tables e below (T.setTop (mkF m pc' Ls S)) target) : Steps p.tables e below (T.setTop (mkF m pc Ls (.int x :: S))) target := XS.ifYes (g := mkF m pc Ls (.int x :: S)) X.here hx rfl rfl (hb hby hd) rfl hc ho hp hr
theorem y_icmpYes (X : Stand p l e R s m args below meth c T locs cells slots) (hx : p.tables.exec = Jvm.exec) (hby : c.code = bytes) {cd : ClassFile.Cond} {x y : Int32} {o : Int} {pc' : Nat} (hd : decode bytes pc = .ok (.if_icmp cd o, 3)) (hc : if_icmp.holds cd x y = true) (ho : 0 ≤ (pc : Int) + o) (hp : ((pc : Int) + o).toNat = pc') (hr : Steps p.tables e below (T.setTop (mkF m pc' Ls S)) target) : Steps p.tables e below (T.setTop (mkF m pc Ls (.int y :: .int x :: S))) target := XS.icmpYes (g := mkF m pc Ls (.int y :: .int x :: S)) X.here hx rfl rfl (hb hby hd) rfl hc ho hp hr
theorem y_ifnullYes (X : Stand p l e R s m args below meth c T locs cells slots) (hx : p.tables.exec = Jvm.exec) (hby : c.code = bytes)  {o : Int} {pc' : Nat} (hd : decode bytes pc = .ok (.ifnull o, 3))  (ho : 0 ≤ (pc : Int) + o) (hp : ((pc : Int) + o).toNat = pc') (hr : Steps p.tables e below (T.setTop (mkF m pc' Ls S)) target) : Steps p.tables e below (T.setTop (mkF m pc Ls (.null :: S))) target := XS.ifnullYes (g := mkF m pc Ls (.null :: S)) X.here hx rfl rfl (hb hby hd) rfl ho hp hr
theorem y_ifnonnullYes (X : Stand p l e R s m args below meth c T locs cells slots) (hx : p.tables.exec = Jvm.exec) (hby : c.code = bytes) {b : Addr} {o : Int} {pc' : Nat} (hd : decode bytes pc = .ok (.ifnonnull o, 3))  (ho : 0 ≤ (pc : Int) + o) (hp : ((pc : Int) + o).toNat = pc') (hr : Steps p.tables e below (T.setTop (mkF m pc' Ls S)) target) : Steps p.tables e below (T.setTop (mkF m pc Ls (.ref b :: S))) target := XS.ifnonnullYes (g := mkF m pc Ls (.ref b :: S)) X.here hx rfl rfl (hb hby hd) rfl ho hp hr
theorem y_ifNo (X : Stand p l e R s m args below meth c T locs cells slots) (hx : p.tables.exec = Jvm.exec) (hby : c.code = bytes) {cd : ClassFile.Cond} {o : Int} {x : Int32} (hd : decode bytes pc = .ok (.ifCond cd o, 3)) (hc : ifCond.holds cd x = false) (hr : Steps p.tables e below (T.setTop (mkF m (pc + 3) Ls S)) target) : Steps p.tables e below (T.setTop (mkF m pc Ls (.int x :: S))) target := XS.ifNo (g := mkF m pc Ls (.int x :: S)) X.here hx rfl (hb hby hd) rfl hc hr
theorem y_icmpNo (X : Stand p l e R s m args below meth c T locs cells slots) (hx : p.tables.exec = Jvm.exec) (hby : c.code = bytes) {cd : ClassFile.Cond} {o : Int} {x y : Int32} (hd : decode bytes pc = .ok (.if_icmp cd o, 3)) (hc : if_icmp.holds cd x y = false) (hr : Steps p.tables e below (T.setTop (mkF m (pc + 3) Ls S)) target) : Steps p.tables e below (T.setTop (mkF m pc Ls (.int y :: .int x :: S))) target := XS.icmpNo (g := mkF m pc Ls (.int y :: .int x :: S)) X.here hx rfl (hb hby hd) rfl hc hr
theorem y_ifnullNo (X : Stand p l e R s m args below meth c T locs cells slots) (hx : p.tables.exec = Jvm.exec) (hby : c.code = bytes) {o : Int} {b : Addr} (hd : decode bytes pc = .ok (.ifnull o, 3)) (hr : Steps p.tables e below (T.setTop (mkF m (pc + 3) Ls S)) target) : Steps p.tables e below (T.setTop (mkF m pc Ls (.ref b :: S))) target := XS.ifnullNo (g := mkF m pc Ls (.ref b :: S)) X.here hx rfl (hb hby hd) rfl hr
theorem y_ifnonnullNo (X : Stand p l e R s m args below meth c T locs cells slots) (hx : p.tables.exec = Jvm.exec) (hby : c.code = bytes) {o : Int} (hd : decode bytes pc = .ok (.ifnonnull o, 3)) (hr : Steps p.tables e below (T.setTop (mkF m (pc + 3) Ls S)) target) : Steps p.tables e below (T.setTop (mkF m pc Ls (.null :: S))) target := XS.ifnonnullNo (g := mkF m pc Ls (.null :: S)) X.here hx rfl (hb hby hd) rfl hr
end YS
theorem ww {Z : State} {a0 : Array Value} (hw : ∀ d ∈ tables_1, d.before a0 Z = true) (i : Nat) {d : Jvm.Cond} (h : tables_1[i]? = some d) : d.before a0 Z = true := hw _ (List.mem_of_getElem? h)
abbrev HW (a0 : Array Value) (Z : State) : Prop := ∀ d ∈ tables_1, d.before a0 Z = true
abbrev GO (p : Program) (e : Env) (below : List Frame) (A B : State) : Prop := ∀ t, Steps p.tables e below A t → Steps p.tables e below B t
abbrev MF (l : Launch) (y : MethodName) (bytes : ByteArray) (maxL : Nat) (ret : Option FieldType) (ws : List Jvm.Cond) (rm : Room) (as' : Array Value) (Z : State) (h0 : Heap) (Q : Option Value → Heap → List Loc → Prop) : Prop := MetFree l y (head1 (Jvm.Cond.code y bytes maxL ret :: ws) rm) (fun a U => a = as' ∧ Z.Warmed39 U.vm ∧ U.heap = h0) (fun _ _ _ _ _ => True) (fun _ U o U' => ∃ v L, o = .returned v ∧ Q v U'.heap L ∧ FrameEnd U o U' L rm.cells rm.slots)
abbrev MFW (l : Launch) (y : MethodName) (bytes : ByteArray) (maxL : Nat) (ret : Option FieldType) (ws : List Jvm.Cond) (rm : Room) (as' : Array Value) (Z : State) (h0 : Heap) (Q : Option Value → Heap → List Loc → Prop) : Prop := MetFree l y (head1 (Jvm.Cond.code y bytes maxL ret :: ws) rm) (fun a U => a = as' ∧ Z.Warmed39 U.vm ∧ U.heap = h0) (fun _ _ _ _ _ => True) (fun _ U o U' => ∃ v L, o = .returned v ∧ Q v U'.heap L ∧ ReturnedEndW U o U' L rm.cells rm.slots)
def QL (w : Option Value) (n0 : Nat) (v : Option Value) (h : Heap) (L : List Loc) : Prop := v = w ∧ Fr n0 L
theorem own_stakeep {Z : State} {h h' : Heap} {C n d : String} {v : Value} {ws : List Addr} (F : Sta Z h C n d v) (K : Keep h h' ws) (q : ∀ x ∈ ws, ∀ cell : Cell, h[x]? = some cell → cell.vm.isStatics = false) : Sta Z h' C n d v := by
  obtain ⟨cf, i, k, f, st, cell, h1, h2, h3, h4, h5, h6, h7⟩ := F
  exact ⟨cf, i, k, f, st, cell, h1, h2, h3, h4, K.2.1 _ _ h5 (fun hm => by rw [q _ hm _ h5] at h6; cases h6), h6, h7⟩
theorem own_eqi {args : Array Value} {first s : State} {o : Option Outcome} {idx : List Nat} {t : Term} {k : Int32} (h : (Jvm.Cond.eq t (.int k)).value args first o s idx = some true) : t.eval args first o idx s = some (.int k) := by
  simp only [Cond.value, Term.eval] at h
  cases ht : t.eval args first o idx s with
  | none => simp [ht] at h
  | some x => cases x <;> simp [ht] at h ⊢ <;> exact h
def C1 : List Int32 := [109, 111, 110, 105, 116, 111, 114, 105, 110, 103]
def C2 : List Int32 := [97, 98, 117, 115, 101, 82, 101, 112, 111, 114, 116, 115]
def C3 : List Int32 := [109, 111, 110, 105, 116, 111, 114, 105, 110]
abbrev RG (c : Int32) : Prop := ¬ c < 0 ∧ ¬ (255 : Int32) < c
def RGs (cs : List Int32) : Prop := ∀ c ∈ cs, ¬ c < 0 ∧ ¬ (255 : Int32) < c
theorem own_rc1 : RGs C1 := by unfold RGs; decide
theorem own_rc2 : RGs C2 := by unfold RGs; decide
theorem own_rc3 : RGs C3 := by unfold RGs; decide
theorem own_up {cs : List Int32} (h : RGs cs) : ∀ c ∈ cs, ¬ c < 0 ∧ ¬ (65535 : Int32) < c := fun c hc => ⟨(h c hc).1, fun q => (h c hc).2 (by rw [Int32.lt_iff_toInt_lt] at q ⊢; have e1 : (65535 : Int32).toInt = 65535 := rfl; have e2 : (255 : Int32).toInt = 255 := rfl; omega)⟩
def n16 (x : Int32) : Int32 := x.toUInt32.toUInt16.toUInt32.toInt32
theorem own_nat {c : Int32} (h : RG c) : ∃ k, k < 256 ∧ c = Int32.ofNat k := by
  obtain ⟨h1, h2⟩ := h
  have e0 : (0 : Int32).toInt = 0 := by decide
  have e1 : (255 : Int32).toInt = 255 := by decide
  rw [Int32.lt_iff_toInt_lt] at h1 h2
  refine ⟨c.toInt.toNat, by omega, ?_⟩
  apply Int32.toInt_inj.mp
  have : (Int32.ofNat c.toInt.toNat).toInt = (c.toInt.toNat : Int) := Int32.toInt_ofNat_of_lt (by omega)
  omega
theorem own_n16 {c : Int32} (h : RG c) : n16 c = c := by
  obtain ⟨k, hk, rfl⟩ := own_nat h
  exact (by decide +kernel : ∀ k, k < 256 → n16 (Int32.ofNat k) = Int32.ofNat k) k hk
theorem own_char (y : Int32) : RG ((y &&& (255 : Int32)).toUInt32.toUInt16.toUInt32.toInt32) := by
  rw [i2c_mask]
  have h : (y &&& 255).toInt = y.toInt % (2 ^ 8 : Nat) := c_mask y _ 8 (by decide) (by decide)
  have e0 : (0 : Int32).toInt = 0 := by decide
  have e1 : (255 : Int32).toInt = 255 := by decide
  unfold RG
  rw [Int32.lt_iff_toInt_lt, Int32.lt_iff_toInt_lt]
  omega
theorem own_char2 (y : Int32) : RG (((y &&& (255 : Int32)).toUInt32.toUInt16.toUInt32.toInt32).toUInt32.toUInt16.toUInt32.toInt32) := by
  have := own_n16 (own_char y)
  unfold n16 at this
  rw [this]
  exact own_char y
def atv (cs : List Int32) (j : Nat) (i p c : Int32) : Int32 := if i = p then nar .char c else if i < Int32.ofNat cs.length then nar .char (cs.getD j 0) else nar .char c
def chv (cs : List Int32) (p c : Int32) (j : Nat) : Int32 := (atv cs j (Int32.ofNat j) p c).toUInt32.toUInt16.toUInt32.toInt32
def mkl (cs : List Int32) (p c : Int32) (n : Nat) : List Int32 := (List.range n).map (chv cs p c)
theorem own_mklen (cs : List Int32) (p c : Int32) (n : Nat) : (mkl cs p c n).length = n := by simp [mkl]
theorem own_getD {cs : List Int32} (h : RGs cs) (j : Nat) : RG (cs.getD j 0) := by
  rw [List.getD_eq_getElem?_getD]
  cases e : cs[j]? with
  | none => exact (by decide : RG 0)
  | some v => exact h v (List.mem_of_getElem? e)
theorem own_chv {cs : List Int32} {p c : Int32} (h : RGs cs) (hc : RG c) (j : Nat) : chv cs p c j = if Int32.ofNat j = p then c else if Int32.ofNat j < Int32.ofNat cs.length then cs.getD j 0 else c := by
  have e1 : nar .char c = c := own_n16 hc
  have e2 : nar .char (cs.getD j 0) = cs.getD j 0 := own_n16 (own_getD h j)
  have e3 : ∀ z, RG z → z.toUInt32.toUInt16.toUInt32.toInt32 = z := fun z hz => own_n16 hz
  unfold chv atv
  rw [e1, e2]
  split
  · exact e3 _ hc
  · split
    · exact e3 _ (own_getD h j)
    · exact e3 _ hc
theorem own_mkr {cs : List Int32} {p c : Int32} (h : RGs cs) (hc : RG c) (n : Nat) : RGs (mkl cs p c n) := by
  intro z hz
  obtain ⟨j, -, rfl⟩ := List.mem_map.mp hz
  rw [own_chv h hc]
  split
  · exact hc
  · split
    · exact own_getD h j
    · exact hc
theorem own_ofl {i n : Nat} (hi : i ≤ 4000) (hn : n ≤ 4000) (h : Int32.ofNat i < Int32.ofNat n) : i < n := by
  rw [Int32.lt_iff_toInt_lt, Int32.toInt_ofNat_of_lt (by omega), Int32.toInt_ofNat_of_lt (by omega)] at h
  omega
theorem own_ltof {i n : Nat} (hn : n ≤ 4000) (h : i < n) : Int32.ofNat i < Int32.ofNat n := by
  rw [Int32.lt_iff_toInt_lt, Int32.toInt_ofNat_of_lt (by omega), Int32.toInt_ofNat_of_lt (by omega)]
  omega
theorem own_mkget {cs : List Int32} {p c : Int32} (h : RGs cs) (hc : RG c) (hl : cs.length ≤ 4000) {j : Nat} (hj : j < cs.length) : chv cs p c j = if Int32.ofNat j = p then c else cs.getD j 0 := by
  rw [own_chv h hc, if_pos (own_ltof hl hj)]
theorem own_mkeq {cs : List Int32} {p c : Int32} {n : Nat} (h : RGs cs) (hc : RG c) (hl : cs.length = n) (hn : n ≤ 4000) (q : ∀ j, j < n → Int32.ofNat j = p → c = cs.getD j 0) : cs = mkl cs p c n := by
  subst hl
  apply List.ext_getElem
  · rw [own_mklen]
  · intro j h1 h2
    simp only [mkl, List.getElem_map, List.getElem_range]
    have e : cs.getD j 0 = cs[j] := by simp [List.getD_eq_getElem?_getD, h1]
    rw [own_mkget h hc hn h1]
    split
    · rename_i e1; rw [q j h1 e1, e]
    · rw [e]
theorem own_mkne {cs : List Int32} {p c : Int32} {n j : Nat} (h : RGs cs) (hc : RG c) (hl : cs.length = n) (hn : n ≤ 4000) (hj : j < n) (hp : p = Int32.ofNat j) (q : ¬ c = cs.getD j 0) : ¬ cs = mkl cs p c n := by
  subst hl
  intro e
  have e2 : cs.getD j 0 = chv cs p c j := by
    have this : cs.getD j 0 = (mkl cs p c cs.length).getD j 0 := congrArg (fun l => l.getD j 0) e
    exact this.trans (by simp [mkl, hj])
  rw [own_mkget h hc hn hj, if_pos hp.symm] at e2
  exact q e2.symm
theorem own_mkl {cs ds : List Int32} {p c : Int32} {n : Nat} (h : ds.length ≠ n) : ¬ ds = mkl cs p c n := fun e => h (by rw [e, own_mklen])
theorem own_p (y : Int32) : ∃ k, k < 16 ∧ (y &&& 15) = Int32.ofNat k := by
  have h : (y &&& 15).toInt = y.toInt % (2 ^ 4 : Nat) := c_mask y _ 4 (by decide) (by decide)
  refine ⟨(y &&& 15).toInt.toNat, by omega, ?_⟩
  apply Int32.toInt_inj.mp
  rw [Int32.toInt_ofNat_of_lt (by omega)]
  omega
theorem own_pj (y : Int32) : (y &&& 15) = Int32.ofNat (y &&& 15).toNatClampNeg := by
  obtain ⟨k, hk, e⟩ := own_p y
  rw [e]
  exact (by decide : ∀ k, k < 16 → Int32.ofNat k = Int32.ofNat (Int32.ofNat k).toNatClampNeg) k hk
theorem own_pl {y : Int32} {n : Nat} (hn : n ≤ 4000) (h : (y &&& 15) < Int32.ofNat n) : (y &&& 15).toNatClampNeg < n := by
  have e := own_pj y
  have : (y &&& 15).toNatClampNeg ≤ 4000 := by
    obtain ⟨k, hk, e⟩ := own_p y
    rw [e]
    exact (by decide : ∀ k, k < 16 → (Int32.ofNat k).toNatClampNeg ≤ 4000) k hk
  rw [e] at h
  exact own_ofl this hn h
theorem own_ge {y : Int32} {n : Nat} {cs : List Int32} {c : Int32} (hn : n ≤ 4000) (h : ¬ (y &&& 15) < Int32.ofNat n) : ∀ j, j < n → Int32.ofNat j = (y &&& 15) → c = cs.getD j 0 := fun j hj e => absurd (e ▸ own_ltof hn hj) h
theorem own_at {y : Int32} {n : Nat} {cs : List Int32} {c : Int32} (hn : n ≤ 16) (h : c = cs.getD (y &&& 15).toNatClampNeg 0) : ∀ j, j < n → Int32.ofNat j = (y &&& 15) → c = cs.getD j 0 := fun j hj e => by
  rw [← e, (by decide : ∀ j, j < 16 → (Int32.ofNat j).toNatClampNeg = j) j (by omega)] at h
  exact h
theorem own_E1 {p c : Int32} (hc : RG c) : ¬ C1 = mkl C2 p c 10 := by
  intro e
  have g : ∀ j, j < 10 → C1.getD j 0 = if Int32.ofNat j = p then c else C2.getD j 0 := fun j hj => by
    have e2 : C1.getD j 0 = chv C2 p c j := by
      have this : C1.getD j 0 = (mkl C2 p c 10).getD j 0 := congrArg (fun l => l.getD j 0) e
      exact this.trans (by simp [mkl, hj])
    rw [e2, own_mkget own_rc2 hc (by decide) (Nat.lt_trans hj (by decide))]
  have g0 := g 0 (by decide)
  have g1 := g 1 (by decide)
  by_cases q : Int32.ofNat 0 = p
  · rw [if_neg (fun z => absurd (q.trans z.symm) (by decide))] at g1
    exact absurd g1 (by decide)
  · rw [if_neg q] at g0
    exact absurd g0 (by decide)
def eqv (cs ds : List Int32) : Int32 := if cs = ds then 1 else 0
theorem own_eqv {cs ds : List Int32} {v : Option Value} (h : (v = some (.int 1) ∧ cs = ds) ∨ (v = some (.int 0) ∧ ¬ cs = ds)) : v = some (.int (eqv cs ds)) := by
  rcases h with ⟨rfl, h⟩ | ⟨rfl, h⟩
  · rw [eqv, if_pos h]
  · rw [eqv, if_neg h]
theorem own_eqy {cs ds : List Int32} (h : ¬ eqv cs ds = 0) : cs = ds := by
  by_cases q : cs = ds
  · exact q
  · exact absurd (if_neg q) h
theorem own_eqn {cs ds : List Int32} (h : eqv cs ds = 0) : ¬ cs = ds := fun q => by
  rw [eqv, if_pos q] at h
  exact absurd h (by decide)
def RV (cs : List Int32) (wM wA : Addr) (w : Value) : Prop := (C1 = cs ∧ w = .ref wM) ∨ (¬ C1 = cs ∧ C2 = cs ∧ w = .ref wA) ∨ (¬ C1 = cs ∧ ¬ C2 = cs ∧ w = .null)
theorem own_rvM {cs : List Int32} {wM wA : Addr} {w : Value} (h : RV cs wM wA w) (q : C1 = cs) : w = .ref wM := by
  rcases h with ⟨-, h⟩ | ⟨h, -⟩ | ⟨h, -⟩
  · exact h
  · exact absurd q h
  · exact absurd q h
theorem own_rvA {cs : List Int32} {wM wA : Addr} {w : Value} (h : RV cs wM wA w) (q1 : ¬ C1 = cs) (q : C2 = cs) : w = .ref wA := by
  rcases h with ⟨h, -⟩ | ⟨-, -, h⟩ | ⟨-, h, -⟩
  · exact absurd h q1
  · exact h
  · exact absurd q h
theorem own_rvN {cs : List Int32} {wM wA : Addr} {w : Value} (h : RV cs wM wA w) (q1 : ¬ C1 = cs) (q : ¬ C2 = cs) : w = .null := by
  rcases h with ⟨h, -⟩ | ⟨-, h, -⟩ | ⟨-, -, h⟩
  · exact absurd h q1
  · exact absurd h q
  · exact h
theorem own_cod {cs : List Int32} {n : Nat} (hn : cs.length = n) (h : RGs cs) : StrChars.Road.CodA cs 0 (Int32.ofNat n) ((cs.map StrChars.lo8).map Value.int) := StrChars.Road.codOf hn (fun c hc => (h c hc).2)
def QK (Z : State) (b : Addr) (fs : Heap → Prop) (h0 : Heap) (n0 : Nat) (v : Option Value) (h : Heap) (L : List Loc) : Prop := v = none ∧ Fr n0 L ∧ Keep h0 h [b] ∧ fs h
def QM (Z : State) (cs : List Int32) (N : Int32) (h0 : Heap) (n0 : Nat) (v : Option Value) (h : Heap) (L : List Loc) : Prop := ∃ x t k, v = some (.ref x) ∧ Fr n0 L ∧ Keep h0 h [] ∧ h0.size ≤ x ∧ h0.size ≤ t ∧ Exa Z h x "java/lang/String" ∧ Fld Z h x "java/lang/String" "coder" "B" (.int 0) ∧ Fld Z h x "java/lang/String" "value" "[B" (.ref t) ∧ Arv Z h t k .byte N ((cs.map StrChars.lo8).map Value.int) (.int 0)
def QA (A : Heap → Addr → Prop) (h0 : Heap) (n0 : Nat) (v : Option Value) (h : Heap) (L : List Loc) : Prop := ∃ x, v = some (.ref x) ∧ Fr n0 L ∧ Keep h0 h [] ∧ h0.size ≤ x ∧ A h x
def QF (Z : State) (R : Value → Prop) (h0 : Heap) (n0 : Nat) (v : Option Value) (h : Heap) (L : List Loc) : Prop := ∃ o w, v = some (.ref o) ∧ Fr n0 L ∧ Keep h0 h [] ∧ Exa Z h o "java/util/Optional" ∧ Fld Z h o "java/util/Optional" "value" "Ljava/lang/Object;" w ∧ R w
theorem own_lo (p : Int32) : p.toInt8.toInt32.toInt8.toInt32 = p.toInt8.toInt32 := by simp
abbrev MFC (l : Launch) (y : MethodName) (bytes : ByteArray) (maxL : Nat) (ret : Option FieldType) (ws : List Jvm.Cond) (rm : Room) (as' : Array Value) (Z : State) (h0 : Heap) (Q : Option Value → Heap → List Loc → Prop) : Prop := MetFree l y (head1 (Jvm.Cond.code y bytes maxL ret :: ws) rm) (fun a U => a = as' ∧ Z.Warmed39 U.vm ∧ U.heap = h0 ∧ CHv Z consts_1 U.vm h0) (fun _ _ _ _ _ => True) (fun _ U o U' => ∃ v L, o = .returned v ∧ Q v U'.heap L ∧ ReturnedEndW U o U' L rm.cells rm.slots)
theorem d2_0 : decode method_2_code 0 = .ok (.iload_n 1, 1) := by decide +kernel
theorem d2_1 : decode method_2_code 1 = .ok (.iload_n 2, 1) := by decide +kernel
theorem d2_2 : decode method_2_code 2 = .ok (.if_icmp .ne 5, 3) := by decide +kernel
theorem d2_5 : decode method_2_code 5 = .ok (.iload_n 3, 1) := by decide +kernel
theorem d2_6 : decode method_2_code 6 = .ok (.ireturn, 1) := by decide +kernel
theorem d2_7 : decode method_2_code 7 = .ok (.iload_n 1, 1) := by decide +kernel
theorem d2_8 : decode method_2_code 8 = .ok (.aload_n 0, 1) := by decide +kernel
theorem d2_9 : decode method_2_code 9 = .ok (.invokevirtual 7, 3) := by decide +kernel
theorem pd_0 : parseMethodDescriptor "()I" = some ⟨[], some .int⟩ := by decide +kernel
abbrev mn0 : MethodName := ⟨"java/lang/String", "length", "()I"⟩
theorem d2_12 : decode method_2_code 12 = .ok (.if_icmp .ge 9, 3) := by decide +kernel
theorem d2_15 : decode method_2_code 15 = .ok (.aload_n 0, 1) := by decide +kernel
theorem d2_16 : decode method_2_code 16 = .ok (.iload_n 1, 1) := by decide +kernel
theorem d2_17 : decode method_2_code 17 = .ok (.invokevirtual 13, 3) := by decide +kernel
theorem pd_1 : parseMethodDescriptor "(I)C" = some ⟨[.int], some .char⟩ := by decide +kernel
abbrev mn1 : MethodName := ⟨"java/lang/String", "charAt", "(I)C"⟩
theorem d2_20 : decode method_2_code 20 = .ok (.ireturn, 1) := by decide +kernel
theorem d2_21 : decode method_2_code 21 = .ok (.iload_n 3, 1) := by decide +kernel
theorem d2_22 : decode method_2_code 22 = .ok (.ireturn, 1) := by decide +kernel
abbrev mn2 : MethodName := ⟨"com/example/assay/assay/config/RoleFromJsonNamePinLaw", "at", "(Ljava/lang/String;IIC)C"⟩
theorem pn_2 : plainName "com/example/assay/assay/config/RoleFromJsonNamePinLaw" = true := by first | (simp [plainName, overriddenIn]; done) | decide +kernel
theorem ef_2 (m : MethodId) (x0 : Addr) (x1 : Int32) (x2 : Int32) (x3 : Int32) : entryFrame m #[(.ref x0), (.int x1), (.int x2), (.int x3)] 4 = mkF m 0 #[.val (.ref x0), .val (.int x1), .val (.int x2), .val (.int x3)] [] := by first | (simp [entryFrame, mkF, argsToLocals, Value.category]; done) | rfl
def f2 (a1 : Addr) (p2 p3 p4 : Int32) (t1 : Addr) (k1 : ClassId) (N1 : Int32) (vs1 : List Value) (cs1 : List Int32) (j : Nat) (w_COMPACT_STRINGS : Int32) (fm : Value) : Int32 := (if p2 = p3 then (nar .char p4) else (if p2 < (Int32.ofNat cs1.length) then (nar .char (cs1.getD j 0)) else (nar .char p4)))
set_option maxRecDepth 65536 in
set_option maxHeartbeats 40000000 in
theorem rm2 (l : Launch) (Z : State) (a0 : Array Value) (hw : HW a0 Z) (ws : List Jvm.Cond) (a1 : Addr) (p2 p3 p4 : Int32) (t1 : Addr) (k1 : ClassId) (N1 : Int32) (vs1 : List Value) (cs1 : List Int32) (j : Nat) (w_COMPACT_STRINGS : Int32) (fm : Value) (h0 : Heap) (n0 : Nat) (Z0 : n0 ≤ h0.size) (S_COMPACT_STRINGS : Sta Z h0 "java/lang/String" "COMPACT_STRINGS" "Z" (.int w_COMPACT_STRINGS)) (hz : ¬ w_COMPACT_STRINGS = 0) (S_SIOOBE_FORMATTER : Sta Z h0 "jdk/internal/util/Preconditions" "SIOOBE_FORMATTER" "Ljava/util/function/BiFunction;" fm) (rf : fm.isRef = true) (hcd : StrChars.Road.CodA cs1 0 N1 vs1) (hr : RGs cs1) (hl : cs1.length ≤ 4000) (hj : p2 = Int32.ofNat j) (hj4 : j ≤ 4000) (E_a1 : Exa Z h0 a1 "java/lang/String") (F_coder_a1 : Fld Z h0 a1 "java/lang/String" "coder" "B" (.int (0 : Int32))) (F_value_a1 : Fld Z h0 a1 "java/lang/String" "value" "[B" (.ref t1)) (V_t1 : Arv Z h0 t1 k1 .byte N1 vs1 (.int (0 : Int32))) :
    MF l mn2 method_2_code 4 (some .char) ws ({ frames := 4, cells := 0, slots := 0, locals := 53 } : Room) #[(.ref a1), (.int p2), (.int p3), (.int p4)] Z h0 (QP (some (.int (f2 a1 p2 p3 p4 t1 k1 N1 vs1 cs1 j w_COMPACT_STRINGS fm))) h0 n0) := by
  refine MetFree.of_bodySF (plainFor_of_name pn_2) hisR ?_
  intro p e s m args below meth c s₁ Bd hml0 hP hK
  obtain ⟨rfl, hZ, hh⟩ := hP
  have hx := Bd.exec
  have hby := Bd.bytes
  have hml : c.maxLocals = 4 := hml0
  have hown : s.vm.findClass "com/example/assay/assay/config/RoleFromJsonNamePinLaw" = some m.cls := findClass_of_methodNamed Bd.named
  have hnm := (name_of_methodNamed Bd.named Bd.method).1
  have X0 : Stand p l e ({ frames := 4, cells := 0, slots := 0, locals := 53 } : Room) s m #[(.ref a1), (.int p2), (.int p3), (.int p4)] below meth c s₁ [] 0 0 := Stand.of_body Bd
  have e0 : s₁.heap = h0 := by rw [← hh, Bd.state]; rfl
  have N0 := Fr.nil n0
  have pre0 : GO p e below (s₁.setTop (mkF m 0 #[.val (.ref a1), .val (.int p2), .val (.int p3), .val (.int p4)] [])) (s₁.setTop (entryFrame m #[(.ref a1), (.int p2), (.int p3), (.int p4)] 4)) := fun t k => castTop (ef_2 m a1 p2 p3 p4) k
  have hln : ∀ d ∈ StrChars.Road.wordsLen, d.before a0 Z = true := fun d hd => hw d ((by decide +kernel : ∀ d ∈ StrChars.Road.wordsLen, d ∈ tables_1) d hd)
  have hch : ∀ d ∈ StrChars.Road.wordsChN, d.before a0 Z = true := fun d hd => hw d ((by decide +kernel : ∀ d ∈ StrChars.Road.wordsChN, d ∈ tables_1) d hd)
  have pre2 : GO p e below (s₁.setTop (mkF m 2 #[.val (.ref a1), .val (.int p2), .val (.int p3), .val (.int p4)] [(.int p3), (.int p2)])) (s₁.setTop (entryFrame m #[(.ref a1), (.int p2), (.int p3), (.int p4)] 4)) := fun t k => by
    refine pre0 _ ?_
    refine y_iloadN X0 hx hby d2_0 rfl ?_
    refine y_iloadN X0 hx hby d2_1 rfl ?_
    exact k
  by_cases hc1 : p2 = p3
  · obtain ⟨fs, hr, hrun, hended, hW, hsame⟩ := X0.leave (v := some (.int (nar .char p4))) (fun h => by rw [Bd.returns] at h; cases h)
    refine ⟨_, _, pre2 _ ?_, hrun, hended, _, _, rfl, ?_, ⟨_, rfl⟩, hW, hsame.mono (by decide) (by decide)⟩
    · refine y_icmpNo X0 hx hby d2_2 (teq hc1).2 ?_
      refine y_iloadN X0 hx hby d2_5 rfl ?_
      exact retN X0 hx (t := .char) Bd.returns (by simp) (hb hby d2_6) hr
    · show QP _ h0 n0 _ s₁.heap _
      rw [e0, show f2 a1 p2 p3 p4 t1 k1 N1 vs1 cs1 j w_COMPACT_STRINGS fm = (nar .char p4) from by unfold f2; rw [if_pos hc1]]
      exact ⟨rfl, N0, rfl⟩
  · obtain ⟨cq3, kq3, q3a, q3b, q3c⟩ := isOf hZ e0 E_a1
    obtain ⟨_, _, ⟨T3, L3, k3, n3⟩, -, X3, ⟨Lc3, hQ3, l3, y3, z3⟩, st3⟩ := X0.virtualBack hx (y := mn0) (z := mn0) hown (mvT hZ (ww hw 18 rfl)) (mvT hZ (ww hw 19 rfl)) (notFace_of_selects (args := #[]) (mvT hZ (ww hw 21 rfl))) (mvT hZ (ww hw 21 rfl)) (mvT hZ (ww hw 20 rfl)) (by decide) (StrChars.Road.lenW (W := 1) hZ hln (kI := 4) (ww hw 2 rfl) E_a1 F_value_a1 F_coder_a1 V_t1 hcd (own_up hr) S_COMPACT_STRINGS hz hl (by decide) (by decide)) q3a q3c (g := (mkF m 9 #[.val (.ref a1), .val (.int p2), .val (.int p3), .val (.int p4)] [(.ref a1), (.int p2)])) rfl (by rw [hml]; rfl) (Steps.refl _) (argsL := []) (rest := [(.int p2)]) (lenOf pd_0 rfl) rfl (by show 2 * 0 + _ ≤ _; exact Nat.le_of_eq rfl) (hb hby d2_9) (fun _ _ => ⟨rfl, e0, (by decide : 0 + 0 ≤ _), (by decide : 0 + 0 ≤ _)⟩)
    dsimp only [Pt.U, Pt.locs, Pt.cells, Pt.slots] at X3 l3 y3 z3 st3 hQ3
    rw [l3, y3, z3] at X3
    obtain ⟨rfl, rfl, e3⟩ := hQ3
    have N3q := Fr.nil n0
    have N3 := Fr.app N0 N3q
    have pre5 : GO p e below (T3.setTop (mkF m 12 #[.val (.ref a1), .val (.int p2), .val (.int p3), .val (.int p4)] [(.int (Int32.ofNat cs1.length)), (.int p2)])) (s₁.setTop (entryFrame m #[(.ref a1), (.int p2), (.int p3), (.int p4)] 4)) := fun t k => by
      refine pre2 _ ?_
      refine y_icmpYes X0 hx hby (pc' := 7) d2_2 (feq hc1).2 (by decide) (by decide) ?_
      refine y_iloadN X0 hx hby d2_7 rfl ?_
      refine y_aloadN X0 hx hby d2_8 rfl rfl ?_
      refine st3.trans ?_
      show Steps p.tables e below (T3.setTop (mkF m 12 #[.val (.ref a1), .val (.int p2), .val (.int p3), .val (.int p4)] [(.int (Int32.ofNat cs1.length)), (.int p2)])) _
      exact k
    by_cases hc4 : p2 < (Int32.ofNat cs1.length)
    · obtain ⟨cq6, kq6, q6a, q6b, q6c⟩ := isOf hZ e3 E_a1
      obtain ⟨_, _, ⟨T6, L6, k6, n6⟩, -, X6, ⟨Lc6, hQ6, l6, y6, z6⟩, st6⟩ := X3.virtualBack hx (y := mn1) (z := mn1) hown (mvT hZ (ww hw 31 rfl)) (mvT hZ (ww hw 32 rfl)) (notFace_of_selects (args := #[]) (mvT hZ (ww hw 34 rfl))) (mvT hZ (ww hw 34 rfl)) (mvT hZ (ww hw 33 rfl)) (by decide) (StrChars.Road.chN (W := 0) hZ hch (kI := 4) (ww hw 2 rfl) E_a1 F_value_a1 F_coder_a1 V_t1 hcd (own_up hr) S_COMPACT_STRINGS hz S_SIOOBE_FORMATTER rf hl (i := j) (own_ofl hj4 hl (hj ▸ hc4)) (j := p2) hj (by decide) (by decide)) q6a q6c (g := (mkF m 17 #[.val (.ref a1), .val (.int p2), .val (.int p3), .val (.int p4)] [(.int p2), (.ref a1)])) rfl (by rw [hml]; rfl) (Steps.refl _) (argsL := [(.int p2)]) (rest := []) (lenOf pd_1 rfl) rfl (by show 2 * 0 + _ ≤ _; exact Nat.le_of_eq rfl) (hb hby d2_17) (fun _ _ => ⟨rfl, e3, (by decide : 0 + 0 ≤ _), (by decide : 0 + 0 ≤ _)⟩)
      dsimp only [Pt.U, Pt.locs, Pt.cells, Pt.slots] at X6 l6 y6 z6 st6 hQ6
      rw [l6, y6, z6] at X6
      obtain ⟨rfl, rfl, e6⟩ := hQ6
      have N6q := Fr.nil n0
      have N6 := Fr.app N3 N6q
      obtain ⟨fs, hr, hrun, hended, hW, hsame⟩ := X6.leave (v := some (.int (nar .char (cs1.getD j 0)))) (fun h => by rw [Bd.returns] at h; cases h)
      refine ⟨_, _, pre5 _ ?_, hrun, hended, _, _, rfl, ?_, ⟨_, rfl⟩, hW, hsame.mono (by decide) (by decide)⟩
      · refine y_icmpNo X3 hx hby d2_12 (tlt hc4).2.1 ?_
        refine y_aloadN X3 hx hby d2_15 rfl rfl ?_
        refine y_iloadN X3 hx hby d2_16 rfl ?_
        refine st6.trans ?_
        show Steps p.tables e below (T6.setTop (mkF m 20 #[.val (.ref a1), .val (.int p2), .val (.int p3), .val (.int p4)] [(.int (cs1.getD j 0))])) _
        exact retN X6 hx (t := .char) Bd.returns (by simp) (hb hby d2_20) hr
      · show QP _ h0 n0 _ T6.heap _
        rw [e6, show f2 a1 p2 p3 p4 t1 k1 N1 vs1 cs1 j w_COMPACT_STRINGS fm = (nar .char (cs1.getD j 0)) from by unfold f2; rw [if_neg hc1, if_pos hc4]]
        exact ⟨rfl, N6, rfl⟩
    · obtain ⟨fs, hr, hrun, hended, hW, hsame⟩ := X3.leave (v := some (.int (nar .char p4))) (fun h => by rw [Bd.returns] at h; cases h)
      refine ⟨_, _, pre5 _ ?_, hrun, hended, _, _, rfl, ?_, ⟨_, rfl⟩, hW, hsame.mono (by decide) (by decide)⟩
      · refine y_icmpYes X3 hx hby (pc' := 21) d2_12 (flt hc4).2.1 (by decide) (by decide) ?_
        refine y_iloadN X3 hx hby d2_21 rfl ?_
        exact retN X3 hx (t := .char) Bd.returns (by simp) (hb hby d2_22) hr
      · show QP _ h0 n0 _ T3.heap _
        rw [e3, show f2 a1 p2 p3 p4 t1 k1 N1 vs1 cs1 j w_COMPACT_STRINGS fm = (nar .char p4) from by unfold f2; rw [if_neg hc1, if_neg hc4]]
        exact ⟨rfl, N3, rfl⟩
theorem d1_0 : decode method_3_code 0 = .ok (.iload_n 3, 1) := by decide +kernel
theorem d1_1 : decode method_3_code 1 = .ok (.bipush 10, 2) := by decide +kernel
theorem d1_3 : decode method_3_code 3 = .ok (.if_icmp .ne 123, 3) := by decide +kernel
theorem d1_6 : decode method_3_code 6 = .ok (.new 8, 3) := by decide +kernel
theorem d1_9 : decode method_3_code 9 = .ok (.dup, 1) := by decide +kernel
theorem d1_10 : decode method_3_code 10 = .ok (.bipush 10, 2) := by decide +kernel
theorem d1_12 : decode method_3_code 12 = .ok (.newarray .char, 2) := by decide +kernel
theorem d1_14 : decode method_3_code 14 = .ok (.dup, 1) := by decide +kernel
theorem d1_15 : decode method_3_code 15 = .ok (.iconst 0, 1) := by decide +kernel
theorem d1_16 : decode method_3_code 16 = .ok (.aload_n 0, 1) := by decide +kernel
theorem d1_17 : decode method_3_code 17 = .ok (.iconst 0, 1) := by decide +kernel
theorem d1_18 : decode method_3_code 18 = .ok (.iload_n 1, 1) := by decide +kernel
theorem d1_19 : decode method_3_code 19 = .ok (.iload_n 2, 1) := by decide +kernel
theorem d1_20 : decode method_3_code 20 = .ok (.invokestatic 17, 3) := by decide +kernel
theorem pd_2 : parseMethodDescriptor "(Ljava/lang/String;IIC)C" = some ⟨[(.object "java/lang/String"), .int, .int, .char], some .char⟩ := by decide +kernel
theorem d1_23 : decode method_3_code 23 = .ok (.castore, 1) := by decide +kernel
theorem d1_24 : decode method_3_code 24 = .ok (.dup, 1) := by decide +kernel
theorem d1_25 : decode method_3_code 25 = .ok (.iconst 1, 1) := by decide +kernel
theorem d1_26 : decode method_3_code 26 = .ok (.aload_n 0, 1) := by decide +kernel
theorem d1_27 : decode method_3_code 27 = .ok (.iconst 1, 1) := by decide +kernel
theorem d1_28 : decode method_3_code 28 = .ok (.iload_n 1, 1) := by decide +kernel
theorem d1_29 : decode method_3_code 29 = .ok (.iload_n 2, 1) := by decide +kernel
theorem d1_30 : decode method_3_code 30 = .ok (.invokestatic 17, 3) := by decide +kernel
theorem d1_33 : decode method_3_code 33 = .ok (.castore, 1) := by decide +kernel
theorem d1_34 : decode method_3_code 34 = .ok (.dup, 1) := by decide +kernel
theorem d1_35 : decode method_3_code 35 = .ok (.iconst 2, 1) := by decide +kernel
theorem d1_36 : decode method_3_code 36 = .ok (.aload_n 0, 1) := by decide +kernel
theorem d1_37 : decode method_3_code 37 = .ok (.iconst 2, 1) := by decide +kernel
theorem d1_38 : decode method_3_code 38 = .ok (.iload_n 1, 1) := by decide +kernel
theorem d1_39 : decode method_3_code 39 = .ok (.iload_n 2, 1) := by decide +kernel
theorem d1_40 : decode method_3_code 40 = .ok (.invokestatic 17, 3) := by decide +kernel
theorem d1_43 : decode method_3_code 43 = .ok (.castore, 1) := by decide +kernel
theorem d1_44 : decode method_3_code 44 = .ok (.dup, 1) := by decide +kernel
theorem d1_45 : decode method_3_code 45 = .ok (.iconst 3, 1) := by decide +kernel
theorem d1_46 : decode method_3_code 46 = .ok (.aload_n 0, 1) := by decide +kernel
theorem d1_47 : decode method_3_code 47 = .ok (.iconst 3, 1) := by decide +kernel
theorem d1_48 : decode method_3_code 48 = .ok (.iload_n 1, 1) := by decide +kernel
theorem d1_49 : decode method_3_code 49 = .ok (.iload_n 2, 1) := by decide +kernel
theorem d1_50 : decode method_3_code 50 = .ok (.invokestatic 17, 3) := by decide +kernel
theorem d1_53 : decode method_3_code 53 = .ok (.castore, 1) := by decide +kernel
theorem d1_54 : decode method_3_code 54 = .ok (.dup, 1) := by decide +kernel
theorem d1_55 : decode method_3_code 55 = .ok (.iconst 4, 1) := by decide +kernel
theorem d1_56 : decode method_3_code 56 = .ok (.aload_n 0, 1) := by decide +kernel
theorem d1_57 : decode method_3_code 57 = .ok (.iconst 4, 1) := by decide +kernel
theorem d1_58 : decode method_3_code 58 = .ok (.iload_n 1, 1) := by decide +kernel
theorem d1_59 : decode method_3_code 59 = .ok (.iload_n 2, 1) := by decide +kernel
theorem d1_60 : decode method_3_code 60 = .ok (.invokestatic 17, 3) := by decide +kernel
theorem d1_63 : decode method_3_code 63 = .ok (.castore, 1) := by decide +kernel
theorem d1_64 : decode method_3_code 64 = .ok (.dup, 1) := by decide +kernel
theorem d1_65 : decode method_3_code 65 = .ok (.iconst 5, 1) := by decide +kernel
theorem d1_66 : decode method_3_code 66 = .ok (.aload_n 0, 1) := by decide +kernel
theorem d1_67 : decode method_3_code 67 = .ok (.iconst 5, 1) := by decide +kernel
theorem d1_68 : decode method_3_code 68 = .ok (.iload_n 1, 1) := by decide +kernel
theorem d1_69 : decode method_3_code 69 = .ok (.iload_n 2, 1) := by decide +kernel
theorem d1_70 : decode method_3_code 70 = .ok (.invokestatic 17, 3) := by decide +kernel
theorem d1_73 : decode method_3_code 73 = .ok (.castore, 1) := by decide +kernel
theorem d1_74 : decode method_3_code 74 = .ok (.dup, 1) := by decide +kernel
theorem d1_75 : decode method_3_code 75 = .ok (.bipush 6, 2) := by decide +kernel
theorem d1_77 : decode method_3_code 77 = .ok (.aload_n 0, 1) := by decide +kernel
theorem d1_78 : decode method_3_code 78 = .ok (.bipush 6, 2) := by decide +kernel
theorem d1_80 : decode method_3_code 80 = .ok (.iload_n 1, 1) := by decide +kernel
theorem d1_81 : decode method_3_code 81 = .ok (.iload_n 2, 1) := by decide +kernel
theorem d1_82 : decode method_3_code 82 = .ok (.invokestatic 17, 3) := by decide +kernel
theorem d1_85 : decode method_3_code 85 = .ok (.castore, 1) := by decide +kernel
theorem d1_86 : decode method_3_code 86 = .ok (.dup, 1) := by decide +kernel
theorem d1_87 : decode method_3_code 87 = .ok (.bipush 7, 2) := by decide +kernel
theorem d1_89 : decode method_3_code 89 = .ok (.aload_n 0, 1) := by decide +kernel
theorem d1_90 : decode method_3_code 90 = .ok (.bipush 7, 2) := by decide +kernel
theorem d1_92 : decode method_3_code 92 = .ok (.iload_n 1, 1) := by decide +kernel
theorem d1_93 : decode method_3_code 93 = .ok (.iload_n 2, 1) := by decide +kernel
theorem d1_94 : decode method_3_code 94 = .ok (.invokestatic 17, 3) := by decide +kernel
theorem d1_97 : decode method_3_code 97 = .ok (.castore, 1) := by decide +kernel
theorem d1_98 : decode method_3_code 98 = .ok (.dup, 1) := by decide +kernel
theorem d1_99 : decode method_3_code 99 = .ok (.bipush 8, 2) := by decide +kernel
theorem d1_101 : decode method_3_code 101 = .ok (.aload_n 0, 1) := by decide +kernel
theorem d1_102 : decode method_3_code 102 = .ok (.bipush 8, 2) := by decide +kernel
theorem d1_104 : decode method_3_code 104 = .ok (.iload_n 1, 1) := by decide +kernel
theorem d1_105 : decode method_3_code 105 = .ok (.iload_n 2, 1) := by decide +kernel
theorem d1_106 : decode method_3_code 106 = .ok (.invokestatic 17, 3) := by decide +kernel
theorem d1_109 : decode method_3_code 109 = .ok (.castore, 1) := by decide +kernel
theorem d1_110 : decode method_3_code 110 = .ok (.dup, 1) := by decide +kernel
theorem d1_111 : decode method_3_code 111 = .ok (.bipush 9, 2) := by decide +kernel
theorem d1_113 : decode method_3_code 113 = .ok (.aload_n 0, 1) := by decide +kernel
theorem d1_114 : decode method_3_code 114 = .ok (.bipush 9, 2) := by decide +kernel
theorem d1_116 : decode method_3_code 116 = .ok (.iload_n 1, 1) := by decide +kernel
theorem d1_117 : decode method_3_code 117 = .ok (.iload_n 2, 1) := by decide +kernel
theorem d1_118 : decode method_3_code 118 = .ok (.invokestatic 17, 3) := by decide +kernel
theorem d1_121 : decode method_3_code 121 = .ok (.castore, 1) := by decide +kernel
theorem d1_122 : decode method_3_code 122 = .ok (.invokespecial 23, 3) := by decide +kernel
theorem pd_3 : parseMethodDescriptor "([C)V" = some ⟨[(.array .char)], none⟩ := by decide +kernel
abbrev mn3 : MethodName := ⟨"java/lang/String", "<init>", "([C)V"⟩
theorem d1_125 : decode method_3_code 125 = .ok (.areturn, 1) := by decide +kernel
abbrev mn4 : MethodName := ⟨"com/example/assay/assay/config/RoleFromJsonNamePinLaw", "mk", "(Ljava/lang/String;ICI)Ljava/lang/String;"⟩
theorem ef_1 (m : MethodId) (x0 : Addr) (x1 : Int32) (x2 : Int32) (x3 : Int32) : entryFrame m #[(.ref x0), (.int x1), (.int x2), (.int x3)] 4 = mkF m 0 #[.val (.ref x0), .val (.int x1), .val (.int x2), .val (.int x3)] [] := by first | (simp [entryFrame, mkF, argsToLocals, Value.category]; done) | rfl
set_option maxRecDepth 65536 in
set_option maxHeartbeats 40000000 in
theorem rm1_10 (l : Launch) (Z : State) (a0 : Array Value) (hw : HW a0 Z) (ws : List Jvm.Cond) (a1 : Addr) (p2 p3 : Int32) (t1 : Addr) (k1 : ClassId) (N1 : Int32) (vs1 : List Value) (cs1 : List Int32) (w_COMPACT_STRINGS : Int32) (fm : Value) (h0 : Heap) (n0 : Nat) (Z0 : n0 ≤ h0.size) (S_COMPACT_STRINGS : Sta Z h0 "java/lang/String" "COMPACT_STRINGS" "Z" (.int w_COMPACT_STRINGS)) (hz : ¬ w_COMPACT_STRINGS = 0) (S_SIOOBE_FORMATTER : Sta Z h0 "jdk/internal/util/Preconditions" "SIOOBE_FORMATTER" "Ljava/util/function/BiFunction;" fm) (rf : fm.isRef = true) (hcd : StrChars.Road.CodA cs1 0 N1 vs1) (hr : RGs cs1) (hl : cs1.length ≤ 4000) (hc : RG p3) (E_a1 : Exa Z h0 a1 "java/lang/String") (F_coder_a1 : Fld Z h0 a1 "java/lang/String" "coder" "B" (.int (0 : Int32))) (F_value_a1 : Fld Z h0 a1 "java/lang/String" "value" "[B" (.ref t1)) (V_t1 : Arv Z h0 t1 k1 .byte N1 vs1 (.int (0 : Int32))) :
    MF l mn4 method_3_code 4 (some (.object "java/lang/String")) ws ({ frames := 5, cells := 3, slots := 24, locals := 73 } : Room) #[(.ref a1), (.int p2), (.int p3), (.int (10 : Int32))] Z h0 (QM Z (mkl cs1 p2 p3 10) (10 : Int32) h0 n0) := by
  refine MetFree.of_bodySF (plainFor_of_name pn_2) hisR ?_
  intro p e s m args below meth c s₁ Bd hml0 hP hK
  obtain ⟨rfl, hZ, hh⟩ := hP
  have hx := Bd.exec
  have hby := Bd.bytes
  have hml : c.maxLocals = 4 := hml0
  have hown : s.vm.findClass "com/example/assay/assay/config/RoleFromJsonNamePinLaw" = some m.cls := findClass_of_methodNamed Bd.named
  have hnm := (name_of_methodNamed Bd.named Bd.method).1
  have X0 : Stand p l e ({ frames := 5, cells := 3, slots := 24, locals := 73 } : Room) s m #[(.ref a1), (.int p2), (.int p3), (.int (10 : Int32))] below meth c s₁ [] 0 0 := Stand.of_body Bd
  have e0 : s₁.heap = h0 := by rw [← hh, Bd.state]; rfl
  have N0 := Fr.nil n0
  have pre0 : GO p e below (s₁.setTop (mkF m 0 #[.val (.ref a1), .val (.int p2), .val (.int p3), .val (.int (10 : Int32))] [])) (s₁.setTop (entryFrame m #[(.ref a1), (.int p2), (.int p3), (.int (10 : Int32))] 4)) := fun t k => castTop (ef_1 m a1 p2 p3 (10 : Int32)) k
  have KK := Keep.refl h0 []
  have hws : ∀ d ∈ StrChars.Road.words, d.before a0 Z = true := fun d hd => hw d ((by decide +kernel : ∀ d ∈ StrChars.Road.words, d ∈ tables_1) d hd)
  obtain ⟨T7, h7, X7, e7, E7, A7, D7, -, st7⟩ := newO X0 hx hZ hown (ww hw 13 rfl) (ww hw 2 rfl) (ww hw 1 rfl) e0 (g := (mkF m 6 #[.val (.ref a1), .val (.int p2), .val (.int p3), .val (.int (10 : Int32))] [])) rfl (hb hby d1_6) (by decide) (by decide)
  obtain ⟨b7, g7⟩ : ∃ z, z = h0.size := ⟨_, rfl⟩
  rw [← g7] at A7 D7 st7
  have g_b7 : n0 ≤ b7 := Nat.le_trans Z0 (Nat.le_of_eq g7.symm)
  have sz_b7 : h0.size ≤ b7 := Nat.le_trans KK.1 (Nat.le_of_eq g7.symm)
  have ne_a1_b7 : a1 ≠ b7 := Nat.ne_of_lt (Nat.lt_of_lt_of_le E_a1.lt (Nat.le_of_eq g7.symm))
  have ne_t1_b7 : t1 ≠ b7 := Nat.ne_of_lt (Nat.lt_of_lt_of_le V_t1.lt (Nat.le_of_eq g7.symm))
  replace E_a1 := E_a1.ext E7
  replace F_coder_a1 := F_coder_a1.ext E7
  replace F_value_a1 := F_value_a1.ext E7
  replace V_t1 := V_t1.ext E7
  replace S_COMPACT_STRINGS := S_COMPACT_STRINGS.ext E7
  replace S_SIOOBE_FORMATTER := S_SIOOBE_FORMATTER.ext E7
  replace Z0 := Nat.le_trans Z0 E7.1
  replace KK := KK.ext E7
  have E_b7 := A7
  have F_value_b7 : Fld Z h7 b7 "java/lang/String" "value" "[B" .null := D7 (Or.inr (ww hw 4 rfl)) (ty := (.array .byte)) (by decide)
  have F_coder_b7 : Fld Z h7 b7 "java/lang/String" "coder" "B" (.int (0 : Int32)) := D7 (Or.inr (ww hw 5 rfl)) (ty := .byte) (by decide)
  obtain ⟨T8, h8, k8, X8, e8, E8, A8, st8⟩ := newP X7 hx hZ (ww hw 14 rfl) e7 (g := (mkF m 12 #[.val (.ref a1), .val (.int p2), .val (.int p3), .val (.int (10 : Int32))] [(.int (10 : Int32)), (.ref b7), (.ref b7)])) rfl (hb hby d1_12) rfl (by decide) (cap := 10) (by decide) (by decide) (by decide) (by decide)
  obtain ⟨b8, g8⟩ : ∃ z, z = h7.size := ⟨_, rfl⟩
  rw [← g8] at A8 st8
  have g_b8 : n0 ≤ b8 := Nat.le_trans Z0 (Nat.le_of_eq g8.symm)
  have sz_b8 : h0.size ≤ b8 := Nat.le_trans KK.1 (Nat.le_of_eq g8.symm)
  have ne_a1_b8 : a1 ≠ b8 := Nat.ne_of_lt (Nat.lt_of_lt_of_le E_a1.lt (Nat.le_of_eq g8.symm))
  have ne_t1_b8 : t1 ≠ b8 := Nat.ne_of_lt (Nat.lt_of_lt_of_le V_t1.lt (Nat.le_of_eq g8.symm))
  have ne_b7_b8 : b7 ≠ b8 := Nat.ne_of_lt (Nat.lt_of_lt_of_le E_b7.lt (Nat.le_of_eq g8.symm))
  replace E_a1 := E_a1.ext E8
  replace F_coder_a1 := F_coder_a1.ext E8
  replace F_value_a1 := F_value_a1.ext E8
  replace V_t1 := V_t1.ext E8
  replace S_COMPACT_STRINGS := S_COMPACT_STRINGS.ext E8
  replace S_SIOOBE_FORMATTER := S_SIOOBE_FORMATTER.ext E8
  replace E_b7 := E_b7.ext E8
  replace F_value_b7 := F_value_b7.ext E8
  replace F_coder_b7 := F_coder_b7.ext E8
  replace Z0 := Nat.le_trans Z0 E8.1
  replace KK := KK.ext E8
  have V_b8 : Arv Z h8 b8 k8 .char (10 : Int32) [(.int (0 : Int32)), (.int (0 : Int32)), (.int (0 : Int32)), (.int (0 : Int32)), (.int (0 : Int32)), (.int (0 : Int32)), (.int (0 : Int32)), (.int (0 : Int32)), (.int (0 : Int32)), (.int (0 : Int32))] (.int (0 : Int32)) := (Arv.new A8 (by decide)).pad (pad_rep [] (.int (0 : Int32)) 10)
  obtain ⟨_, _, ⟨T9, L9, k9, n9⟩, -, X9, ⟨Lc9, hQ9, l9, y9, z9⟩, st9⟩ := Jvm.LawKit.callS X8 hx (y := mn2) hown (mvT hZ (ww hw 15 rfl)) (mvT hZ (ww hw 16 rfl)) (mvT hZ (ww hw 11 rfl)) (mvT hZ (ww hw 17 rfl)) (by decide) (backOf (W := 5) (rm2 l Z a0 hw [] a1 (0 : Int32) p2 p3 t1 k1 N1 vs1 cs1 0 w_COMPACT_STRINGS fm h8 n0 Z0 S_COMPACT_STRINGS hz S_SIOOBE_FORMATTER rf hcd hr hl rfl (by decide) E_a1 F_coder_a1 F_value_a1 V_t1) hZ (ww hw 17 rfl) (ww hw 11 rfl) (by decide) (by decide)) (g := (mkF m 20 #[.val (.ref a1), .val (.int p2), .val (.int p3), .val (.int (10 : Int32))] [(.int p3), (.int p2), (.int (0 : Int32)), (.ref a1), (.int (0 : Int32)), (.ref b8), (.ref b8), (.ref b7), (.ref b7)])) rfl (by rw [hml]; rfl) (argsL := [(.ref a1), (.int (0 : Int32)), (.int p2), (.int p3)]) (rest := [(.int (0 : Int32)), (.ref b8), (.ref b8), (.ref b7), (.ref b7)]) (lenOf pd_2 rfl) rfl (by show 2 * 0 + _ ≤ _; exact Nat.le_of_eq rfl) (hb hby d1_20) (fun _ _ => ⟨rfl, e8, (by decide : 2 + 0 ≤ _), (by decide : 14 + 0 ≤ _)⟩)
  dsimp only [Pt.U, Pt.locs, Pt.cells, Pt.slots] at X9 l9 y9 z9 st9 hQ9
  rw [l9, y9, z9] at X9
  obtain ⟨rfl, N9q, e9⟩ := hQ9
  have q9 : f2 a1 (0 : Int32) p2 p3 t1 k1 N1 vs1 cs1 0 w_COMPACT_STRINGS fm = (atv cs1 0 (0 : Int32) p2 p3) := rfl
  rw [q9] at st9
  have N9 := Fr.app N0 N9q
  obtain ⟨cl10, Ar10, q10, Sz10, Nn10, Hh10, Gg10⟩ := V_b8
  have hin10 : ¬ ((0 : Int32) < 0 ∨ cl10.slots.size ≤ ((0 : Int32)).toNatClampNeg) := inb_of Sz10 ⟨by decide, by decide⟩
  obtain ⟨T11, h11, X11, e11, W11, st11⟩ := stC X9 hx hZ e9 Ar10 (j := (0 : Int32)) hin10 (g := (mkF m 23 #[.val (.ref a1), .val (.int p2), .val (.int p3), .val (.int (10 : Int32))] [(.int (atv cs1 0 (0 : Int32) p2 p3)), (.int (0 : Int32)), (.ref b8), (.ref b8), (.ref b7), (.ref b7)])) rfl rfl (hb hby d1_23)
  replace E_a1 := E_a1.wr W11
  replace F_coder_a1 := F_coder_a1.other W11 (Or.inl ne_a1_b8)
  replace F_value_a1 := F_value_a1.other W11 (Or.inl ne_a1_b8)
  replace V_t1 := V_t1.other W11 ne_t1_b8
  replace S_COMPACT_STRINGS := S_COMPACT_STRINGS.wr W11
  replace S_SIOOBE_FORMATTER := S_SIOOBE_FORMATTER.wr W11
  replace E_b7 := E_b7.wr W11
  replace F_value_b7 := F_value_b7.other W11 (Or.inl ne_b7_b8)
  replace F_coder_b7 := F_coder_b7.other W11 (Or.inl ne_b7_b8)
  replace Z0 := Nat.le_trans Z0 (Keep.of_wr W11).1
  replace KK := KK.wr W11 (Or.inr sz_b8)
  have V_b8 : Arv Z h11 b8 k8 .char (10 : Int32) [(.int ((atv cs1 0 (0 : Int32) p2 p3).toUInt32.toUInt16.toUInt32.toInt32)), (.int (0 : Int32)), (.int (0 : Int32)), (.int (0 : Int32)), (.int (0 : Int32)), (.int (0 : Int32)), (.int (0 : Int32)), (.int (0 : Int32)), (.int (0 : Int32)), (.int (0 : Int32))] (.int (0 : Int32)) := Arv.set Ar10 q10 Sz10 Nn10 Hh10 Gg10 (fits_nar_char _) W11 0 rfl (Nat.le_of_ble_eq_true rfl)
  have N11 := Fr.snoc X11 N9 g_b8
  obtain ⟨_, _, ⟨T12, L12, k12, n12⟩, -, X12, ⟨Lc12, hQ12, l12, y12, z12⟩, st12⟩ := Jvm.LawKit.callS X11 hx (y := mn2) hown (mvT hZ (ww hw 15 rfl)) (mvT hZ (ww hw 16 rfl)) (mvT hZ (ww hw 11 rfl)) (mvT hZ (ww hw 17 rfl)) (by decide) (backOf (W := 5) (rm2 l Z a0 hw [] a1 (1 : Int32) p2 p3 t1 k1 N1 vs1 cs1 1 w_COMPACT_STRINGS fm h11 n0 Z0 S_COMPACT_STRINGS hz S_SIOOBE_FORMATTER rf hcd hr hl rfl (by decide) E_a1 F_coder_a1 F_value_a1 V_t1) hZ (ww hw 17 rfl) (ww hw 11 rfl) (by decide) (by decide)) (g := (mkF m 30 #[.val (.ref a1), .val (.int p2), .val (.int p3), .val (.int (10 : Int32))] [(.int p3), (.int p2), (.int (1 : Int32)), (.ref a1), (.int (1 : Int32)), (.ref b8), (.ref b8), (.ref b7), (.ref b7)])) rfl (by rw [hml]; rfl) (argsL := [(.ref a1), (.int (1 : Int32)), (.int p2), (.int p3)]) (rest := [(.int (1 : Int32)), (.ref b8), (.ref b8), (.ref b7), (.ref b7)]) (lenOf pd_2 rfl) rfl (by show 2 * 0 + _ ≤ _; exact Nat.le_of_eq rfl) (hb hby d1_30) (fun _ _ => ⟨rfl, e11, (by decide : 2 + 0 ≤ _), (by decide : 14 + 0 ≤ _)⟩)
  dsimp only [Pt.U, Pt.locs, Pt.cells, Pt.slots] at X12 l12 y12 z12 st12 hQ12
  rw [l12, y12, z12] at X12
  obtain ⟨rfl, N12q, e12⟩ := hQ12
  have q12 : f2 a1 (1 : Int32) p2 p3 t1 k1 N1 vs1 cs1 1 w_COMPACT_STRINGS fm = (atv cs1 1 (1 : Int32) p2 p3) := rfl
  rw [q12] at st12
  have N12 := Fr.app N11 N12q
  obtain ⟨cl13, Ar13, q13, Sz13, Nn13, Hh13, Gg13⟩ := V_b8
  have hin13 : ¬ ((1 : Int32) < 0 ∨ cl13.slots.size ≤ ((1 : Int32)).toNatClampNeg) := inb_of Sz13 ⟨by decide, by decide⟩
  obtain ⟨T14, h14, X14, e14, W14, st14⟩ := stC X12 hx hZ e12 Ar13 (j := (1 : Int32)) hin13 (g := (mkF m 33 #[.val (.ref a1), .val (.int p2), .val (.int p3), .val (.int (10 : Int32))] [(.int (atv cs1 1 (1 : Int32) p2 p3)), (.int (1 : Int32)), (.ref b8), (.ref b8), (.ref b7), (.ref b7)])) rfl rfl (hb hby d1_33)
  replace E_a1 := E_a1.wr W14
  replace F_coder_a1 := F_coder_a1.other W14 (Or.inl ne_a1_b8)
  replace F_value_a1 := F_value_a1.other W14 (Or.inl ne_a1_b8)
  replace V_t1 := V_t1.other W14 ne_t1_b8
  replace S_COMPACT_STRINGS := S_COMPACT_STRINGS.wr W14
  replace S_SIOOBE_FORMATTER := S_SIOOBE_FORMATTER.wr W14
  replace E_b7 := E_b7.wr W14
  replace F_value_b7 := F_value_b7.other W14 (Or.inl ne_b7_b8)
  replace F_coder_b7 := F_coder_b7.other W14 (Or.inl ne_b7_b8)
  replace Z0 := Nat.le_trans Z0 (Keep.of_wr W14).1
  replace KK := KK.wr W14 (Or.inr sz_b8)
  have V_b8 : Arv Z h14 b8 k8 .char (10 : Int32) [(.int ((atv cs1 0 (0 : Int32) p2 p3).toUInt32.toUInt16.toUInt32.toInt32)), (.int ((atv cs1 1 (1 : Int32) p2 p3).toUInt32.toUInt16.toUInt32.toInt32)), (.int (0 : Int32)), (.int (0 : Int32)), (.int (0 : Int32)), (.int (0 : Int32)), (.int (0 : Int32)), (.int (0 : Int32)), (.int (0 : Int32)), (.int (0 : Int32))] (.int (0 : Int32)) := Arv.set Ar13 q13 Sz13 Nn13 Hh13 Gg13 (fits_nar_char _) W14 1 rfl (Nat.le_of_ble_eq_true rfl)
  have N14 := Fr.snoc X14 N12 g_b8
  obtain ⟨_, _, ⟨T15, L15, k15, n15⟩, -, X15, ⟨Lc15, hQ15, l15, y15, z15⟩, st15⟩ := Jvm.LawKit.callS X14 hx (y := mn2) hown (mvT hZ (ww hw 15 rfl)) (mvT hZ (ww hw 16 rfl)) (mvT hZ (ww hw 11 rfl)) (mvT hZ (ww hw 17 rfl)) (by decide) (backOf (W := 5) (rm2 l Z a0 hw [] a1 (2 : Int32) p2 p3 t1 k1 N1 vs1 cs1 2 w_COMPACT_STRINGS fm h14 n0 Z0 S_COMPACT_STRINGS hz S_SIOOBE_FORMATTER rf hcd hr hl rfl (by decide) E_a1 F_coder_a1 F_value_a1 V_t1) hZ (ww hw 17 rfl) (ww hw 11 rfl) (by decide) (by decide)) (g := (mkF m 40 #[.val (.ref a1), .val (.int p2), .val (.int p3), .val (.int (10 : Int32))] [(.int p3), (.int p2), (.int (2 : Int32)), (.ref a1), (.int (2 : Int32)), (.ref b8), (.ref b8), (.ref b7), (.ref b7)])) rfl (by rw [hml]; rfl) (argsL := [(.ref a1), (.int (2 : Int32)), (.int p2), (.int p3)]) (rest := [(.int (2 : Int32)), (.ref b8), (.ref b8), (.ref b7), (.ref b7)]) (lenOf pd_2 rfl) rfl (by show 2 * 0 + _ ≤ _; exact Nat.le_of_eq rfl) (hb hby d1_40) (fun _ _ => ⟨rfl, e14, (by decide : 2 + 0 ≤ _), (by decide : 14 + 0 ≤ _)⟩)
  dsimp only [Pt.U, Pt.locs, Pt.cells, Pt.slots] at X15 l15 y15 z15 st15 hQ15
  rw [l15, y15, z15] at X15
  obtain ⟨rfl, N15q, e15⟩ := hQ15
  have q15 : f2 a1 (2 : Int32) p2 p3 t1 k1 N1 vs1 cs1 2 w_COMPACT_STRINGS fm = (atv cs1 2 (2 : Int32) p2 p3) := rfl
  rw [q15] at st15
  have N15 := Fr.app N14 N15q
  obtain ⟨cl16, Ar16, q16, Sz16, Nn16, Hh16, Gg16⟩ := V_b8
  have hin16 : ¬ ((2 : Int32) < 0 ∨ cl16.slots.size ≤ ((2 : Int32)).toNatClampNeg) := inb_of Sz16 ⟨by decide, by decide⟩
  obtain ⟨T17, h17, X17, e17, W17, st17⟩ := stC X15 hx hZ e15 Ar16 (j := (2 : Int32)) hin16 (g := (mkF m 43 #[.val (.ref a1), .val (.int p2), .val (.int p3), .val (.int (10 : Int32))] [(.int (atv cs1 2 (2 : Int32) p2 p3)), (.int (2 : Int32)), (.ref b8), (.ref b8), (.ref b7), (.ref b7)])) rfl rfl (hb hby d1_43)
  replace E_a1 := E_a1.wr W17
  replace F_coder_a1 := F_coder_a1.other W17 (Or.inl ne_a1_b8)
  replace F_value_a1 := F_value_a1.other W17 (Or.inl ne_a1_b8)
  replace V_t1 := V_t1.other W17 ne_t1_b8
  replace S_COMPACT_STRINGS := S_COMPACT_STRINGS.wr W17
  replace S_SIOOBE_FORMATTER := S_SIOOBE_FORMATTER.wr W17
  replace E_b7 := E_b7.wr W17
  replace F_value_b7 := F_value_b7.other W17 (Or.inl ne_b7_b8)
  replace F_coder_b7 := F_coder_b7.other W17 (Or.inl ne_b7_b8)
  replace Z0 := Nat.le_trans Z0 (Keep.of_wr W17).1
  replace KK := KK.wr W17 (Or.inr sz_b8)
  have V_b8 : Arv Z h17 b8 k8 .char (10 : Int32) [(.int ((atv cs1 0 (0 : Int32) p2 p3).toUInt32.toUInt16.toUInt32.toInt32)), (.int ((atv cs1 1 (1 : Int32) p2 p3).toUInt32.toUInt16.toUInt32.toInt32)), (.int ((atv cs1 2 (2 : Int32) p2 p3).toUInt32.toUInt16.toUInt32.toInt32)), (.int (0 : Int32)), (.int (0 : Int32)), (.int (0 : Int32)), (.int (0 : Int32)), (.int (0 : Int32)), (.int (0 : Int32)), (.int (0 : Int32))] (.int (0 : Int32)) := Arv.set Ar16 q16 Sz16 Nn16 Hh16 Gg16 (fits_nar_char _) W17 2 rfl (Nat.le_of_ble_eq_true rfl)
  have N17 := Fr.snoc X17 N15 g_b8
  obtain ⟨_, _, ⟨T18, L18, k18, n18⟩, -, X18, ⟨Lc18, hQ18, l18, y18, z18⟩, st18⟩ := Jvm.LawKit.callS X17 hx (y := mn2) hown (mvT hZ (ww hw 15 rfl)) (mvT hZ (ww hw 16 rfl)) (mvT hZ (ww hw 11 rfl)) (mvT hZ (ww hw 17 rfl)) (by decide) (backOf (W := 5) (rm2 l Z a0 hw [] a1 (3 : Int32) p2 p3 t1 k1 N1 vs1 cs1 3 w_COMPACT_STRINGS fm h17 n0 Z0 S_COMPACT_STRINGS hz S_SIOOBE_FORMATTER rf hcd hr hl rfl (by decide) E_a1 F_coder_a1 F_value_a1 V_t1) hZ (ww hw 17 rfl) (ww hw 11 rfl) (by decide) (by decide)) (g := (mkF m 50 #[.val (.ref a1), .val (.int p2), .val (.int p3), .val (.int (10 : Int32))] [(.int p3), (.int p2), (.int (3 : Int32)), (.ref a1), (.int (3 : Int32)), (.ref b8), (.ref b8), (.ref b7), (.ref b7)])) rfl (by rw [hml]; rfl) (argsL := [(.ref a1), (.int (3 : Int32)), (.int p2), (.int p3)]) (rest := [(.int (3 : Int32)), (.ref b8), (.ref b8), (.ref b7), (.ref b7)]) (lenOf pd_2 rfl) rfl (by show 2 * 0 + _ ≤ _; exact Nat.le_of_eq rfl) (hb hby d1_50) (fun _ _ => ⟨rfl, e17, (by decide : 2 + 0 ≤ _), (by decide : 14 + 0 ≤ _)⟩)
  dsimp only [Pt.U, Pt.locs, Pt.cells, Pt.slots] at X18 l18 y18 z18 st18 hQ18
  rw [l18, y18, z18] at X18
  obtain ⟨rfl, N18q, e18⟩ := hQ18
  have q18 : f2 a1 (3 : Int32) p2 p3 t1 k1 N1 vs1 cs1 3 w_COMPACT_STRINGS fm = (atv cs1 3 (3 : Int32) p2 p3) := rfl
  rw [q18] at st18
  have N18 := Fr.app N17 N18q
  obtain ⟨cl19, Ar19, q19, Sz19, Nn19, Hh19, Gg19⟩ := V_b8
  have hin19 : ¬ ((3 : Int32) < 0 ∨ cl19.slots.size ≤ ((3 : Int32)).toNatClampNeg) := inb_of Sz19 ⟨by decide, by decide⟩
  obtain ⟨T20, h20, X20, e20, W20, st20⟩ := stC X18 hx hZ e18 Ar19 (j := (3 : Int32)) hin19 (g := (mkF m 53 #[.val (.ref a1), .val (.int p2), .val (.int p3), .val (.int (10 : Int32))] [(.int (atv cs1 3 (3 : Int32) p2 p3)), (.int (3 : Int32)), (.ref b8), (.ref b8), (.ref b7), (.ref b7)])) rfl rfl (hb hby d1_53)
  replace E_a1 := E_a1.wr W20
  replace F_coder_a1 := F_coder_a1.other W20 (Or.inl ne_a1_b8)
  replace F_value_a1 := F_value_a1.other W20 (Or.inl ne_a1_b8)
  replace V_t1 := V_t1.other W20 ne_t1_b8
  replace S_COMPACT_STRINGS := S_COMPACT_STRINGS.wr W20
  replace S_SIOOBE_FORMATTER := S_SIOOBE_FORMATTER.wr W20
  replace E_b7 := E_b7.wr W20
  replace F_value_b7 := F_value_b7.other W20 (Or.inl ne_b7_b8)
  replace F_coder_b7 := F_coder_b7.other W20 (Or.inl ne_b7_b8)
  replace Z0 := Nat.le_trans Z0 (Keep.of_wr W20).1
  replace KK := KK.wr W20 (Or.inr sz_b8)
  have V_b8 : Arv Z h20 b8 k8 .char (10 : Int32) [(.int ((atv cs1 0 (0 : Int32) p2 p3).toUInt32.toUInt16.toUInt32.toInt32)), (.int ((atv cs1 1 (1 : Int32) p2 p3).toUInt32.toUInt16.toUInt32.toInt32)), (.int ((atv cs1 2 (2 : Int32) p2 p3).toUInt32.toUInt16.toUInt32.toInt32)), (.int ((atv cs1 3 (3 : Int32) p2 p3).toUInt32.toUInt16.toUInt32.toInt32)), (.int (0 : Int32)), (.int (0 : Int32)), (.int (0 : Int32)), (.int (0 : Int32)), (.int (0 : Int32)), (.int (0 : Int32))] (.int (0 : Int32)) := Arv.set Ar19 q19 Sz19 Nn19 Hh19 Gg19 (fits_nar_char _) W20 3 rfl (Nat.le_of_ble_eq_true rfl)
  have N20 := Fr.snoc X20 N18 g_b8
  obtain ⟨_, _, ⟨T21, L21, k21, n21⟩, -, X21, ⟨Lc21, hQ21, l21, y21, z21⟩, st21⟩ := Jvm.LawKit.callS X20 hx (y := mn2) hown (mvT hZ (ww hw 15 rfl)) (mvT hZ (ww hw 16 rfl)) (mvT hZ (ww hw 11 rfl)) (mvT hZ (ww hw 17 rfl)) (by decide) (backOf (W := 5) (rm2 l Z a0 hw [] a1 (4 : Int32) p2 p3 t1 k1 N1 vs1 cs1 4 w_COMPACT_STRINGS fm h20 n0 Z0 S_COMPACT_STRINGS hz S_SIOOBE_FORMATTER rf hcd hr hl rfl (by decide) E_a1 F_coder_a1 F_value_a1 V_t1) hZ (ww hw 17 rfl) (ww hw 11 rfl) (by decide) (by decide)) (g := (mkF m 60 #[.val (.ref a1), .val (.int p2), .val (.int p3), .val (.int (10 : Int32))] [(.int p3), (.int p2), (.int (4 : Int32)), (.ref a1), (.int (4 : Int32)), (.ref b8), (.ref b8), (.ref b7), (.ref b7)])) rfl (by rw [hml]; rfl) (argsL := [(.ref a1), (.int (4 : Int32)), (.int p2), (.int p3)]) (rest := [(.int (4 : Int32)), (.ref b8), (.ref b8), (.ref b7), (.ref b7)]) (lenOf pd_2 rfl) rfl (by show 2 * 0 + _ ≤ _; exact Nat.le_of_eq rfl) (hb hby d1_60) (fun _ _ => ⟨rfl, e20, (by decide : 2 + 0 ≤ _), (by decide : 14 + 0 ≤ _)⟩)
  dsimp only [Pt.U, Pt.locs, Pt.cells, Pt.slots] at X21 l21 y21 z21 st21 hQ21
  rw [l21, y21, z21] at X21
  obtain ⟨rfl, N21q, e21⟩ := hQ21
  have q21 : f2 a1 (4 : Int32) p2 p3 t1 k1 N1 vs1 cs1 4 w_COMPACT_STRINGS fm = (atv cs1 4 (4 : Int32) p2 p3) := rfl
  rw [q21] at st21
  have N21 := Fr.app N20 N21q
  obtain ⟨cl22, Ar22, q22, Sz22, Nn22, Hh22, Gg22⟩ := V_b8
  have hin22 : ¬ ((4 : Int32) < 0 ∨ cl22.slots.size ≤ ((4 : Int32)).toNatClampNeg) := inb_of Sz22 ⟨by decide, by decide⟩
  obtain ⟨T23, h23, X23, e23, W23, st23⟩ := stC X21 hx hZ e21 Ar22 (j := (4 : Int32)) hin22 (g := (mkF m 63 #[.val (.ref a1), .val (.int p2), .val (.int p3), .val (.int (10 : Int32))] [(.int (atv cs1 4 (4 : Int32) p2 p3)), (.int (4 : Int32)), (.ref b8), (.ref b8), (.ref b7), (.ref b7)])) rfl rfl (hb hby d1_63)
  replace E_a1 := E_a1.wr W23
  replace F_coder_a1 := F_coder_a1.other W23 (Or.inl ne_a1_b8)
  replace F_value_a1 := F_value_a1.other W23 (Or.inl ne_a1_b8)
  replace V_t1 := V_t1.other W23 ne_t1_b8
  replace S_COMPACT_STRINGS := S_COMPACT_STRINGS.wr W23
  replace S_SIOOBE_FORMATTER := S_SIOOBE_FORMATTER.wr W23
  replace E_b7 := E_b7.wr W23
  replace F_value_b7 := F_value_b7.other W23 (Or.inl ne_b7_b8)
  replace F_coder_b7 := F_coder_b7.other W23 (Or.inl ne_b7_b8)
  replace Z0 := Nat.le_trans Z0 (Keep.of_wr W23).1
  replace KK := KK.wr W23 (Or.inr sz_b8)
  have V_b8 : Arv Z h23 b8 k8 .char (10 : Int32) [(.int ((atv cs1 0 (0 : Int32) p2 p3).toUInt32.toUInt16.toUInt32.toInt32)), (.int ((atv cs1 1 (1 : Int32) p2 p3).toUInt32.toUInt16.toUInt32.toInt32)), (.int ((atv cs1 2 (2 : Int32) p2 p3).toUInt32.toUInt16.toUInt32.toInt32)), (.int ((atv cs1 3 (3 : Int32) p2 p3).toUInt32.toUInt16.toUInt32.toInt32)), (.int ((atv cs1 4 (4 : Int32) p2 p3).toUInt32.toUInt16.toUInt32.toInt32)), (.int (0 : Int32)), (.int (0 : Int32)), (.int (0 : Int32)), (.int (0 : Int32)), (.int (0 : Int32))] (.int (0 : Int32)) := Arv.set Ar22 q22 Sz22 Nn22 Hh22 Gg22 (fits_nar_char _) W23 4 rfl (Nat.le_of_ble_eq_true rfl)
  have N23 := Fr.snoc X23 N21 g_b8
  obtain ⟨_, _, ⟨T24, L24, k24, n24⟩, -, X24, ⟨Lc24, hQ24, l24, y24, z24⟩, st24⟩ := Jvm.LawKit.callS X23 hx (y := mn2) hown (mvT hZ (ww hw 15 rfl)) (mvT hZ (ww hw 16 rfl)) (mvT hZ (ww hw 11 rfl)) (mvT hZ (ww hw 17 rfl)) (by decide) (backOf (W := 5) (rm2 l Z a0 hw [] a1 (5 : Int32) p2 p3 t1 k1 N1 vs1 cs1 5 w_COMPACT_STRINGS fm h23 n0 Z0 S_COMPACT_STRINGS hz S_SIOOBE_FORMATTER rf hcd hr hl rfl (by decide) E_a1 F_coder_a1 F_value_a1 V_t1) hZ (ww hw 17 rfl) (ww hw 11 rfl) (by decide) (by decide)) (g := (mkF m 70 #[.val (.ref a1), .val (.int p2), .val (.int p3), .val (.int (10 : Int32))] [(.int p3), (.int p2), (.int (5 : Int32)), (.ref a1), (.int (5 : Int32)), (.ref b8), (.ref b8), (.ref b7), (.ref b7)])) rfl (by rw [hml]; rfl) (argsL := [(.ref a1), (.int (5 : Int32)), (.int p2), (.int p3)]) (rest := [(.int (5 : Int32)), (.ref b8), (.ref b8), (.ref b7), (.ref b7)]) (lenOf pd_2 rfl) rfl (by show 2 * 0 + _ ≤ _; exact Nat.le_of_eq rfl) (hb hby d1_70) (fun _ _ => ⟨rfl, e23, (by decide : 2 + 0 ≤ _), (by decide : 14 + 0 ≤ _)⟩)
  dsimp only [Pt.U, Pt.locs, Pt.cells, Pt.slots] at X24 l24 y24 z24 st24 hQ24
  rw [l24, y24, z24] at X24
  obtain ⟨rfl, N24q, e24⟩ := hQ24
  have q24 : f2 a1 (5 : Int32) p2 p3 t1 k1 N1 vs1 cs1 5 w_COMPACT_STRINGS fm = (atv cs1 5 (5 : Int32) p2 p3) := rfl
  rw [q24] at st24
  have N24 := Fr.app N23 N24q
  obtain ⟨cl25, Ar25, q25, Sz25, Nn25, Hh25, Gg25⟩ := V_b8
  have hin25 : ¬ ((5 : Int32) < 0 ∨ cl25.slots.size ≤ ((5 : Int32)).toNatClampNeg) := inb_of Sz25 ⟨by decide, by decide⟩
  obtain ⟨T26, h26, X26, e26, W26, st26⟩ := stC X24 hx hZ e24 Ar25 (j := (5 : Int32)) hin25 (g := (mkF m 73 #[.val (.ref a1), .val (.int p2), .val (.int p3), .val (.int (10 : Int32))] [(.int (atv cs1 5 (5 : Int32) p2 p3)), (.int (5 : Int32)), (.ref b8), (.ref b8), (.ref b7), (.ref b7)])) rfl rfl (hb hby d1_73)
  replace E_a1 := E_a1.wr W26
  replace F_coder_a1 := F_coder_a1.other W26 (Or.inl ne_a1_b8)
  replace F_value_a1 := F_value_a1.other W26 (Or.inl ne_a1_b8)
  replace V_t1 := V_t1.other W26 ne_t1_b8
  replace S_COMPACT_STRINGS := S_COMPACT_STRINGS.wr W26
  replace S_SIOOBE_FORMATTER := S_SIOOBE_FORMATTER.wr W26
  replace E_b7 := E_b7.wr W26
  replace F_value_b7 := F_value_b7.other W26 (Or.inl ne_b7_b8)
  replace F_coder_b7 := F_coder_b7.other W26 (Or.inl ne_b7_b8)
  replace Z0 := Nat.le_trans Z0 (Keep.of_wr W26).1
  replace KK := KK.wr W26 (Or.inr sz_b8)
  have V_b8 : Arv Z h26 b8 k8 .char (10 : Int32) [(.int ((atv cs1 0 (0 : Int32) p2 p3).toUInt32.toUInt16.toUInt32.toInt32)), (.int ((atv cs1 1 (1 : Int32) p2 p3).toUInt32.toUInt16.toUInt32.toInt32)), (.int ((atv cs1 2 (2 : Int32) p2 p3).toUInt32.toUInt16.toUInt32.toInt32)), (.int ((atv cs1 3 (3 : Int32) p2 p3).toUInt32.toUInt16.toUInt32.toInt32)), (.int ((atv cs1 4 (4 : Int32) p2 p3).toUInt32.toUInt16.toUInt32.toInt32)), (.int ((atv cs1 5 (5 : Int32) p2 p3).toUInt32.toUInt16.toUInt32.toInt32)), (.int (0 : Int32)), (.int (0 : Int32)), (.int (0 : Int32)), (.int (0 : Int32))] (.int (0 : Int32)) := Arv.set Ar25 q25 Sz25 Nn25 Hh25 Gg25 (fits_nar_char _) W26 5 rfl (Nat.le_of_ble_eq_true rfl)
  have N26 := Fr.snoc X26 N24 g_b8
  obtain ⟨_, _, ⟨T27, L27, k27, n27⟩, -, X27, ⟨Lc27, hQ27, l27, y27, z27⟩, st27⟩ := Jvm.LawKit.callS X26 hx (y := mn2) hown (mvT hZ (ww hw 15 rfl)) (mvT hZ (ww hw 16 rfl)) (mvT hZ (ww hw 11 rfl)) (mvT hZ (ww hw 17 rfl)) (by decide) (backOf (W := 5) (rm2 l Z a0 hw [] a1 (6 : Int32) p2 p3 t1 k1 N1 vs1 cs1 6 w_COMPACT_STRINGS fm h26 n0 Z0 S_COMPACT_STRINGS hz S_SIOOBE_FORMATTER rf hcd hr hl rfl (by decide) E_a1 F_coder_a1 F_value_a1 V_t1) hZ (ww hw 17 rfl) (ww hw 11 rfl) (by decide) (by decide)) (g := (mkF m 82 #[.val (.ref a1), .val (.int p2), .val (.int p3), .val (.int (10 : Int32))] [(.int p3), (.int p2), (.int (6 : Int32)), (.ref a1), (.int (6 : Int32)), (.ref b8), (.ref b8), (.ref b7), (.ref b7)])) rfl (by rw [hml]; rfl) (argsL := [(.ref a1), (.int (6 : Int32)), (.int p2), (.int p3)]) (rest := [(.int (6 : Int32)), (.ref b8), (.ref b8), (.ref b7), (.ref b7)]) (lenOf pd_2 rfl) rfl (by show 2 * 0 + _ ≤ _; exact Nat.le_of_eq rfl) (hb hby d1_82) (fun _ _ => ⟨rfl, e26, (by decide : 2 + 0 ≤ _), (by decide : 14 + 0 ≤ _)⟩)
  dsimp only [Pt.U, Pt.locs, Pt.cells, Pt.slots] at X27 l27 y27 z27 st27 hQ27
  rw [l27, y27, z27] at X27
  obtain ⟨rfl, N27q, e27⟩ := hQ27
  have q27 : f2 a1 (6 : Int32) p2 p3 t1 k1 N1 vs1 cs1 6 w_COMPACT_STRINGS fm = (atv cs1 6 (6 : Int32) p2 p3) := rfl
  rw [q27] at st27
  have N27 := Fr.app N26 N27q
  obtain ⟨cl28, Ar28, q28, Sz28, Nn28, Hh28, Gg28⟩ := V_b8
  have hin28 : ¬ ((6 : Int32) < 0 ∨ cl28.slots.size ≤ ((6 : Int32)).toNatClampNeg) := inb_of Sz28 ⟨by decide, by decide⟩
  obtain ⟨T29, h29, X29, e29, W29, st29⟩ := stC X27 hx hZ e27 Ar28 (j := (6 : Int32)) hin28 (g := (mkF m 85 #[.val (.ref a1), .val (.int p2), .val (.int p3), .val (.int (10 : Int32))] [(.int (atv cs1 6 (6 : Int32) p2 p3)), (.int (6 : Int32)), (.ref b8), (.ref b8), (.ref b7), (.ref b7)])) rfl rfl (hb hby d1_85)
  replace E_a1 := E_a1.wr W29
  replace F_coder_a1 := F_coder_a1.other W29 (Or.inl ne_a1_b8)
  replace F_value_a1 := F_value_a1.other W29 (Or.inl ne_a1_b8)
  replace V_t1 := V_t1.other W29 ne_t1_b8
  replace S_COMPACT_STRINGS := S_COMPACT_STRINGS.wr W29
  replace S_SIOOBE_FORMATTER := S_SIOOBE_FORMATTER.wr W29
  replace E_b7 := E_b7.wr W29
  replace F_value_b7 := F_value_b7.other W29 (Or.inl ne_b7_b8)
  replace F_coder_b7 := F_coder_b7.other W29 (Or.inl ne_b7_b8)
  replace Z0 := Nat.le_trans Z0 (Keep.of_wr W29).1
  replace KK := KK.wr W29 (Or.inr sz_b8)
  have V_b8 : Arv Z h29 b8 k8 .char (10 : Int32) [(.int ((atv cs1 0 (0 : Int32) p2 p3).toUInt32.toUInt16.toUInt32.toInt32)), (.int ((atv cs1 1 (1 : Int32) p2 p3).toUInt32.toUInt16.toUInt32.toInt32)), (.int ((atv cs1 2 (2 : Int32) p2 p3).toUInt32.toUInt16.toUInt32.toInt32)), (.int ((atv cs1 3 (3 : Int32) p2 p3).toUInt32.toUInt16.toUInt32.toInt32)), (.int ((atv cs1 4 (4 : Int32) p2 p3).toUInt32.toUInt16.toUInt32.toInt32)), (.int ((atv cs1 5 (5 : Int32) p2 p3).toUInt32.toUInt16.toUInt32.toInt32)), (.int ((atv cs1 6 (6 : Int32) p2 p3).toUInt32.toUInt16.toUInt32.toInt32)), (.int (0 : Int32)), (.int (0 : Int32)), (.int (0 : Int32))] (.int (0 : Int32)) := Arv.set Ar28 q28 Sz28 Nn28 Hh28 Gg28 (fits_nar_char _) W29 6 rfl (Nat.le_of_ble_eq_true rfl)
  have N29 := Fr.snoc X29 N27 g_b8
  obtain ⟨_, _, ⟨T30, L30, k30, n30⟩, -, X30, ⟨Lc30, hQ30, l30, y30, z30⟩, st30⟩ := Jvm.LawKit.callS X29 hx (y := mn2) hown (mvT hZ (ww hw 15 rfl)) (mvT hZ (ww hw 16 rfl)) (mvT hZ (ww hw 11 rfl)) (mvT hZ (ww hw 17 rfl)) (by decide) (backOf (W := 5) (rm2 l Z a0 hw [] a1 (7 : Int32) p2 p3 t1 k1 N1 vs1 cs1 7 w_COMPACT_STRINGS fm h29 n0 Z0 S_COMPACT_STRINGS hz S_SIOOBE_FORMATTER rf hcd hr hl rfl (by decide) E_a1 F_coder_a1 F_value_a1 V_t1) hZ (ww hw 17 rfl) (ww hw 11 rfl) (by decide) (by decide)) (g := (mkF m 94 #[.val (.ref a1), .val (.int p2), .val (.int p3), .val (.int (10 : Int32))] [(.int p3), (.int p2), (.int (7 : Int32)), (.ref a1), (.int (7 : Int32)), (.ref b8), (.ref b8), (.ref b7), (.ref b7)])) rfl (by rw [hml]; rfl) (argsL := [(.ref a1), (.int (7 : Int32)), (.int p2), (.int p3)]) (rest := [(.int (7 : Int32)), (.ref b8), (.ref b8), (.ref b7), (.ref b7)]) (lenOf pd_2 rfl) rfl (by show 2 * 0 + _ ≤ _; exact Nat.le_of_eq rfl) (hb hby d1_94) (fun _ _ => ⟨rfl, e29, (by decide : 2 + 0 ≤ _), (by decide : 14 + 0 ≤ _)⟩)
  dsimp only [Pt.U, Pt.locs, Pt.cells, Pt.slots] at X30 l30 y30 z30 st30 hQ30
  rw [l30, y30, z30] at X30
  obtain ⟨rfl, N30q, e30⟩ := hQ30
  have q30 : f2 a1 (7 : Int32) p2 p3 t1 k1 N1 vs1 cs1 7 w_COMPACT_STRINGS fm = (atv cs1 7 (7 : Int32) p2 p3) := rfl
  rw [q30] at st30
  have N30 := Fr.app N29 N30q
  obtain ⟨cl31, Ar31, q31, Sz31, Nn31, Hh31, Gg31⟩ := V_b8
  have hin31 : ¬ ((7 : Int32) < 0 ∨ cl31.slots.size ≤ ((7 : Int32)).toNatClampNeg) := inb_of Sz31 ⟨by decide, by decide⟩
  obtain ⟨T32, h32, X32, e32, W32, st32⟩ := stC X30 hx hZ e30 Ar31 (j := (7 : Int32)) hin31 (g := (mkF m 97 #[.val (.ref a1), .val (.int p2), .val (.int p3), .val (.int (10 : Int32))] [(.int (atv cs1 7 (7 : Int32) p2 p3)), (.int (7 : Int32)), (.ref b8), (.ref b8), (.ref b7), (.ref b7)])) rfl rfl (hb hby d1_97)
  replace E_a1 := E_a1.wr W32
  replace F_coder_a1 := F_coder_a1.other W32 (Or.inl ne_a1_b8)
  replace F_value_a1 := F_value_a1.other W32 (Or.inl ne_a1_b8)
  replace V_t1 := V_t1.other W32 ne_t1_b8
  replace S_COMPACT_STRINGS := S_COMPACT_STRINGS.wr W32
  replace S_SIOOBE_FORMATTER := S_SIOOBE_FORMATTER.wr W32
  replace E_b7 := E_b7.wr W32
  replace F_value_b7 := F_value_b7.other W32 (Or.inl ne_b7_b8)
  replace F_coder_b7 := F_coder_b7.other W32 (Or.inl ne_b7_b8)
  replace Z0 := Nat.le_trans Z0 (Keep.of_wr W32).1
  replace KK := KK.wr W32 (Or.inr sz_b8)
  have V_b8 : Arv Z h32 b8 k8 .char (10 : Int32) [(.int ((atv cs1 0 (0 : Int32) p2 p3).toUInt32.toUInt16.toUInt32.toInt32)), (.int ((atv cs1 1 (1 : Int32) p2 p3).toUInt32.toUInt16.toUInt32.toInt32)), (.int ((atv cs1 2 (2 : Int32) p2 p3).toUInt32.toUInt16.toUInt32.toInt32)), (.int ((atv cs1 3 (3 : Int32) p2 p3).toUInt32.toUInt16.toUInt32.toInt32)), (.int ((atv cs1 4 (4 : Int32) p2 p3).toUInt32.toUInt16.toUInt32.toInt32)), (.int ((atv cs1 5 (5 : Int32) p2 p3).toUInt32.toUInt16.toUInt32.toInt32)), (.int ((atv cs1 6 (6 : Int32) p2 p3).toUInt32.toUInt16.toUInt32.toInt32)), (.int ((atv cs1 7 (7 : Int32) p2 p3).toUInt32.toUInt16.toUInt32.toInt32)), (.int (0 : Int32)), (.int (0 : Int32))] (.int (0 : Int32)) := Arv.set Ar31 q31 Sz31 Nn31 Hh31 Gg31 (fits_nar_char _) W32 7 rfl (Nat.le_of_ble_eq_true rfl)
  have N32 := Fr.snoc X32 N30 g_b8
  obtain ⟨_, _, ⟨T33, L33, k33, n33⟩, -, X33, ⟨Lc33, hQ33, l33, y33, z33⟩, st33⟩ := Jvm.LawKit.callS X32 hx (y := mn2) hown (mvT hZ (ww hw 15 rfl)) (mvT hZ (ww hw 16 rfl)) (mvT hZ (ww hw 11 rfl)) (mvT hZ (ww hw 17 rfl)) (by decide) (backOf (W := 5) (rm2 l Z a0 hw [] a1 (8 : Int32) p2 p3 t1 k1 N1 vs1 cs1 8 w_COMPACT_STRINGS fm h32 n0 Z0 S_COMPACT_STRINGS hz S_SIOOBE_FORMATTER rf hcd hr hl rfl (by decide) E_a1 F_coder_a1 F_value_a1 V_t1) hZ (ww hw 17 rfl) (ww hw 11 rfl) (by decide) (by decide)) (g := (mkF m 106 #[.val (.ref a1), .val (.int p2), .val (.int p3), .val (.int (10 : Int32))] [(.int p3), (.int p2), (.int (8 : Int32)), (.ref a1), (.int (8 : Int32)), (.ref b8), (.ref b8), (.ref b7), (.ref b7)])) rfl (by rw [hml]; rfl) (argsL := [(.ref a1), (.int (8 : Int32)), (.int p2), (.int p3)]) (rest := [(.int (8 : Int32)), (.ref b8), (.ref b8), (.ref b7), (.ref b7)]) (lenOf pd_2 rfl) rfl (by show 2 * 0 + _ ≤ _; exact Nat.le_of_eq rfl) (hb hby d1_106) (fun _ _ => ⟨rfl, e32, (by decide : 2 + 0 ≤ _), (by decide : 14 + 0 ≤ _)⟩)
  dsimp only [Pt.U, Pt.locs, Pt.cells, Pt.slots] at X33 l33 y33 z33 st33 hQ33
  rw [l33, y33, z33] at X33
  obtain ⟨rfl, N33q, e33⟩ := hQ33
  have q33 : f2 a1 (8 : Int32) p2 p3 t1 k1 N1 vs1 cs1 8 w_COMPACT_STRINGS fm = (atv cs1 8 (8 : Int32) p2 p3) := rfl
  rw [q33] at st33
  have N33 := Fr.app N32 N33q
  obtain ⟨cl34, Ar34, q34, Sz34, Nn34, Hh34, Gg34⟩ := V_b8
  have hin34 : ¬ ((8 : Int32) < 0 ∨ cl34.slots.size ≤ ((8 : Int32)).toNatClampNeg) := inb_of Sz34 ⟨by decide, by decide⟩
  obtain ⟨T35, h35, X35, e35, W35, st35⟩ := stC X33 hx hZ e33 Ar34 (j := (8 : Int32)) hin34 (g := (mkF m 109 #[.val (.ref a1), .val (.int p2), .val (.int p3), .val (.int (10 : Int32))] [(.int (atv cs1 8 (8 : Int32) p2 p3)), (.int (8 : Int32)), (.ref b8), (.ref b8), (.ref b7), (.ref b7)])) rfl rfl (hb hby d1_109)
  replace E_a1 := E_a1.wr W35
  replace F_coder_a1 := F_coder_a1.other W35 (Or.inl ne_a1_b8)
  replace F_value_a1 := F_value_a1.other W35 (Or.inl ne_a1_b8)
  replace V_t1 := V_t1.other W35 ne_t1_b8
  replace S_COMPACT_STRINGS := S_COMPACT_STRINGS.wr W35
  replace S_SIOOBE_FORMATTER := S_SIOOBE_FORMATTER.wr W35
  replace E_b7 := E_b7.wr W35
  replace F_value_b7 := F_value_b7.other W35 (Or.inl ne_b7_b8)
  replace F_coder_b7 := F_coder_b7.other W35 (Or.inl ne_b7_b8)
  replace Z0 := Nat.le_trans Z0 (Keep.of_wr W35).1
  replace KK := KK.wr W35 (Or.inr sz_b8)
  have V_b8 : Arv Z h35 b8 k8 .char (10 : Int32) [(.int ((atv cs1 0 (0 : Int32) p2 p3).toUInt32.toUInt16.toUInt32.toInt32)), (.int ((atv cs1 1 (1 : Int32) p2 p3).toUInt32.toUInt16.toUInt32.toInt32)), (.int ((atv cs1 2 (2 : Int32) p2 p3).toUInt32.toUInt16.toUInt32.toInt32)), (.int ((atv cs1 3 (3 : Int32) p2 p3).toUInt32.toUInt16.toUInt32.toInt32)), (.int ((atv cs1 4 (4 : Int32) p2 p3).toUInt32.toUInt16.toUInt32.toInt32)), (.int ((atv cs1 5 (5 : Int32) p2 p3).toUInt32.toUInt16.toUInt32.toInt32)), (.int ((atv cs1 6 (6 : Int32) p2 p3).toUInt32.toUInt16.toUInt32.toInt32)), (.int ((atv cs1 7 (7 : Int32) p2 p3).toUInt32.toUInt16.toUInt32.toInt32)), (.int ((atv cs1 8 (8 : Int32) p2 p3).toUInt32.toUInt16.toUInt32.toInt32)), (.int (0 : Int32))] (.int (0 : Int32)) := Arv.set Ar34 q34 Sz34 Nn34 Hh34 Gg34 (fits_nar_char _) W35 8 rfl (Nat.le_of_ble_eq_true rfl)
  have N35 := Fr.snoc X35 N33 g_b8
  obtain ⟨_, _, ⟨T36, L36, k36, n36⟩, -, X36, ⟨Lc36, hQ36, l36, y36, z36⟩, st36⟩ := Jvm.LawKit.callS X35 hx (y := mn2) hown (mvT hZ (ww hw 15 rfl)) (mvT hZ (ww hw 16 rfl)) (mvT hZ (ww hw 11 rfl)) (mvT hZ (ww hw 17 rfl)) (by decide) (backOf (W := 5) (rm2 l Z a0 hw [] a1 (9 : Int32) p2 p3 t1 k1 N1 vs1 cs1 9 w_COMPACT_STRINGS fm h35 n0 Z0 S_COMPACT_STRINGS hz S_SIOOBE_FORMATTER rf hcd hr hl rfl (by decide) E_a1 F_coder_a1 F_value_a1 V_t1) hZ (ww hw 17 rfl) (ww hw 11 rfl) (by decide) (by decide)) (g := (mkF m 118 #[.val (.ref a1), .val (.int p2), .val (.int p3), .val (.int (10 : Int32))] [(.int p3), (.int p2), (.int (9 : Int32)), (.ref a1), (.int (9 : Int32)), (.ref b8), (.ref b8), (.ref b7), (.ref b7)])) rfl (by rw [hml]; rfl) (argsL := [(.ref a1), (.int (9 : Int32)), (.int p2), (.int p3)]) (rest := [(.int (9 : Int32)), (.ref b8), (.ref b8), (.ref b7), (.ref b7)]) (lenOf pd_2 rfl) rfl (by show 2 * 0 + _ ≤ _; exact Nat.le_of_eq rfl) (hb hby d1_118) (fun _ _ => ⟨rfl, e35, (by decide : 2 + 0 ≤ _), (by decide : 14 + 0 ≤ _)⟩)
  dsimp only [Pt.U, Pt.locs, Pt.cells, Pt.slots] at X36 l36 y36 z36 st36 hQ36
  rw [l36, y36, z36] at X36
  obtain ⟨rfl, N36q, e36⟩ := hQ36
  have q36 : f2 a1 (9 : Int32) p2 p3 t1 k1 N1 vs1 cs1 9 w_COMPACT_STRINGS fm = (atv cs1 9 (9 : Int32) p2 p3) := rfl
  rw [q36] at st36
  have N36 := Fr.app N35 N36q
  obtain ⟨cl37, Ar37, q37, Sz37, Nn37, Hh37, Gg37⟩ := V_b8
  have hin37 : ¬ ((9 : Int32) < 0 ∨ cl37.slots.size ≤ ((9 : Int32)).toNatClampNeg) := inb_of Sz37 ⟨by decide, by decide⟩
  obtain ⟨T38, h38, X38, e38, W38, st38⟩ := stC X36 hx hZ e36 Ar37 (j := (9 : Int32)) hin37 (g := (mkF m 121 #[.val (.ref a1), .val (.int p2), .val (.int p3), .val (.int (10 : Int32))] [(.int (atv cs1 9 (9 : Int32) p2 p3)), (.int (9 : Int32)), (.ref b8), (.ref b8), (.ref b7), (.ref b7)])) rfl rfl (hb hby d1_121)
  replace E_a1 := E_a1.wr W38
  replace F_coder_a1 := F_coder_a1.other W38 (Or.inl ne_a1_b8)
  replace F_value_a1 := F_value_a1.other W38 (Or.inl ne_a1_b8)
  replace V_t1 := V_t1.other W38 ne_t1_b8
  replace S_COMPACT_STRINGS := S_COMPACT_STRINGS.wr W38
  replace S_SIOOBE_FORMATTER := S_SIOOBE_FORMATTER.wr W38
  replace E_b7 := E_b7.wr W38
  replace F_value_b7 := F_value_b7.other W38 (Or.inl ne_b7_b8)
  replace F_coder_b7 := F_coder_b7.other W38 (Or.inl ne_b7_b8)
  replace Z0 := Nat.le_trans Z0 (Keep.of_wr W38).1
  replace KK := KK.wr W38 (Or.inr sz_b8)
  have V_b8 : Arv Z h38 b8 k8 .char (10 : Int32) [(.int ((atv cs1 0 (0 : Int32) p2 p3).toUInt32.toUInt16.toUInt32.toInt32)), (.int ((atv cs1 1 (1 : Int32) p2 p3).toUInt32.toUInt16.toUInt32.toInt32)), (.int ((atv cs1 2 (2 : Int32) p2 p3).toUInt32.toUInt16.toUInt32.toInt32)), (.int ((atv cs1 3 (3 : Int32) p2 p3).toUInt32.toUInt16.toUInt32.toInt32)), (.int ((atv cs1 4 (4 : Int32) p2 p3).toUInt32.toUInt16.toUInt32.toInt32)), (.int ((atv cs1 5 (5 : Int32) p2 p3).toUInt32.toUInt16.toUInt32.toInt32)), (.int ((atv cs1 6 (6 : Int32) p2 p3).toUInt32.toUInt16.toUInt32.toInt32)), (.int ((atv cs1 7 (7 : Int32) p2 p3).toUInt32.toUInt16.toUInt32.toInt32)), (.int ((atv cs1 8 (8 : Int32) p2 p3).toUInt32.toUInt16.toUInt32.toInt32)), (.int ((atv cs1 9 (9 : Int32) p2 p3).toUInt32.toUInt16.toUInt32.toInt32))] (.int (0 : Int32)) := Arv.set Ar37 q37 Sz37 Nn37 Hh37 Gg37 (fits_nar_char _) W38 9 rfl (Nat.le_of_ble_eq_true rfl)
  have N38 := Fr.snoc X38 N36 g_b8
  obtain ⟨_, _, ⟨T39, L39, k39, n39⟩, -, X39, ⟨Lc39, hQ39, l39, y39, z39⟩, st39⟩ := X38.specialBack hx (y := mn3) rfl hown (mvT hZ (ww hw 53 rfl)) (mvT hZ (ww hw 54 rfl)) (mvT hZ (ww hw 55 rfl)) (by decide) (StrChars.Road.backV (W := 1) hZ hws (kI := 4) (ww hw 2 rfl) (cs := (mkl cs1 p2 p3 10)) (bs := (mkl cs1 p2 p3 10).map StrChars.lo8) (n := 10) g_b7 Z0 E_b7 F_value_b7 F_coder_b7 V_b8 S_COMPACT_STRINGS hz (own_mklen cs1 p2 p3 10) rfl (by decide) (by decide) (own_mkr hr hc 10) rfl (by decide) (by decide)) (g := (mkF m 122 #[.val (.ref a1), .val (.int p2), .val (.int p3), .val (.int (10 : Int32))] [(.ref b8), (.ref b7), (.ref b7)])) rfl (by rw [hml]; rfl) (Steps.refl _) (a := b7) (argsL := [(.ref b8)]) (rest := [(.ref b7)]) (lenOf pd_3 rfl) rfl (by show 2 * 0 + _ ≤ _; exact Nat.le_of_eq rfl) (hb hby d1_122) (fun _ _ => ⟨rfl, e38, (by decide : 2 + 1 ≤ _), (by decide : 14 + 10 ≤ _)⟩)
  dsimp only [Pt.U, Pt.locs, Pt.cells, Pt.slots] at X39 l39 y39 z39 st39 hQ39
  rw [l39, y39, z39] at X39
  obtain ⟨h39, e39⟩ : ∃ z, T39.heap = z := ⟨_, rfl⟩
  rw [e39] at hQ39
  obtain ⟨rfl, N39q, K39, G39E, G39C, B39, kb39, -, szn39, -, G39V, G39A⟩ := hQ39
  have g_B39 : n0 ≤ B39 := Nat.le_trans Z0 szn39
  have sz_B39 : h0.size ≤ B39 := Nat.le_trans KK.1 szn39
  have ne_a1_B39 : a1 ≠ B39 := Nat.ne_of_lt (Nat.lt_of_lt_of_le E_a1.lt szn39)
  have ne_t1_B39 : t1 ≠ B39 := Nat.ne_of_lt (Nat.lt_of_lt_of_le V_t1.lt szn39)
  have ne_b7_B39 : b7 ≠ B39 := Nat.ne_of_lt (Nat.lt_of_lt_of_le E_b7.lt szn39)
  have ne_b8_B39 : b8 ≠ B39 := Nat.ne_of_lt (Nat.lt_of_lt_of_le V_b8.lt szn39)
  replace S_COMPACT_STRINGS := own_stakeep S_COMPACT_STRINGS K39 (nsS (Exa.nostat E_b7) ns0)
  replace S_SIOOBE_FORMATTER := own_stakeep S_SIOOBE_FORMATTER K39 (nsS (Exa.nostat E_b7) ns0)
  replace E_a1 := E_a1.keep K39
  replace F_coder_a1 := F_coder_a1.keep K39 (ninS ne_a1_b7 nin0)
  replace F_value_a1 := F_value_a1.keep K39 (ninS ne_a1_b7 nin0)
  replace V_t1 := V_t1.keep K39 (ninS ne_t1_b7 nin0)
  replace E_b7 := E_b7.keep K39
  replace V_b8 := V_b8.keep K39 (ninS (Ne.symm ne_b7_b8) nin0)
  replace Z0 := Nat.le_trans Z0 K39.1
  replace KK := KK.trans K39 (allS (Or.inr sz_b7) all0)
  have F_coder_b7 : Fld Z h39 b7 "java/lang/String" "coder" "B" (.int (0 : Int32)) := G39C
  have F_value_b7 : Fld Z h39 b7 "java/lang/String" "value" "[B" (.ref B39) := G39V
  have V_B39 : Arv Z h39 B39 kb39 .byte (10 : Int32) (((mkl cs1 p2 p3 10).map StrChars.lo8).map Value.int) (.int (0 : Int32)) := G39A
  have N39 := Fr.app N38 N39q
  obtain ⟨fs, hr, hrun, hended, hW, hsame⟩ := X39.leave (v := some (.ref b7)) (fun h => by rw [Bd.returns] at h; cases h)
  refine ⟨_, _, pre0 _ ?_, hrun, hended, _, _, rfl, ?_, ⟨_, rfl⟩, hW, hsame.mono (by decide) (by decide)⟩
  · refine y_iloadN X0 hx hby d1_0 rfl ?_
    refine y_bipush X0 hx hby (v := (10 : Int32)) d1_1 rfl ?_
    refine y_icmpNo X0 hx hby d1_3 (teq rfl).2 ?_
    refine st7 _ ?_
    show Steps p.tables e below (T7.setTop (mkF m 9 #[.val (.ref a1), .val (.int p2), .val (.int p3), .val (.int (10 : Int32))] [(.ref b7)])) _
    refine y_dup X7 hx hby d1_9 rfl ?_
    refine y_bipush X7 hx hby (v := (10 : Int32)) d1_10 rfl ?_
    refine st8 _ ?_
    show Steps p.tables e below (T8.setTop (mkF m 14 #[.val (.ref a1), .val (.int p2), .val (.int p3), .val (.int (10 : Int32))] [(.ref b8), (.ref b7), (.ref b7)])) _
    refine y_dup X8 hx hby d1_14 rfl ?_
    refine y_iconst X8 hx hby (v := (0 : Int32)) d1_15 rfl ?_
    refine y_aloadN X8 hx hby d1_16 rfl rfl ?_
    refine y_iconst X8 hx hby (v := (0 : Int32)) d1_17 rfl ?_
    refine y_iloadN X8 hx hby d1_18 rfl ?_
    refine y_iloadN X8 hx hby d1_19 rfl ?_
    refine st9 _ ?_
    show Steps p.tables e below (T9.setTop (mkF m 23 #[.val (.ref a1), .val (.int p2), .val (.int p3), .val (.int (10 : Int32))] [(.int (atv cs1 0 (0 : Int32) p2 p3)), (.int (0 : Int32)), (.ref b8), (.ref b8), (.ref b7), (.ref b7)])) _
    refine st11 _ ?_
    show Steps p.tables e below (T11.setTop (mkF m 24 #[.val (.ref a1), .val (.int p2), .val (.int p3), .val (.int (10 : Int32))] [(.ref b8), (.ref b7), (.ref b7)])) _
    refine y_dup X11 hx hby d1_24 rfl ?_
    refine y_iconst X11 hx hby (v := (1 : Int32)) d1_25 rfl ?_
    refine y_aloadN X11 hx hby d1_26 rfl rfl ?_
    refine y_iconst X11 hx hby (v := (1 : Int32)) d1_27 rfl ?_
    refine y_iloadN X11 hx hby d1_28 rfl ?_
    refine y_iloadN X11 hx hby d1_29 rfl ?_
    refine st12 _ ?_
    show Steps p.tables e below (T12.setTop (mkF m 33 #[.val (.ref a1), .val (.int p2), .val (.int p3), .val (.int (10 : Int32))] [(.int (atv cs1 1 (1 : Int32) p2 p3)), (.int (1 : Int32)), (.ref b8), (.ref b8), (.ref b7), (.ref b7)])) _
    refine st14 _ ?_
    show Steps p.tables e below (T14.setTop (mkF m 34 #[.val (.ref a1), .val (.int p2), .val (.int p3), .val (.int (10 : Int32))] [(.ref b8), (.ref b7), (.ref b7)])) _
    refine y_dup X14 hx hby d1_34 rfl ?_
    refine y_iconst X14 hx hby (v := (2 : Int32)) d1_35 rfl ?_
    refine y_aloadN X14 hx hby d1_36 rfl rfl ?_
    refine y_iconst X14 hx hby (v := (2 : Int32)) d1_37 rfl ?_
    refine y_iloadN X14 hx hby d1_38 rfl ?_
    refine y_iloadN X14 hx hby d1_39 rfl ?_
    refine st15 _ ?_
    show Steps p.tables e below (T15.setTop (mkF m 43 #[.val (.ref a1), .val (.int p2), .val (.int p3), .val (.int (10 : Int32))] [(.int (atv cs1 2 (2 : Int32) p2 p3)), (.int (2 : Int32)), (.ref b8), (.ref b8), (.ref b7), (.ref b7)])) _
    refine st17 _ ?_
    show Steps p.tables e below (T17.setTop (mkF m 44 #[.val (.ref a1), .val (.int p2), .val (.int p3), .val (.int (10 : Int32))] [(.ref b8), (.ref b7), (.ref b7)])) _
    refine y_dup X17 hx hby d1_44 rfl ?_
    refine y_iconst X17 hx hby (v := (3 : Int32)) d1_45 rfl ?_
    refine y_aloadN X17 hx hby d1_46 rfl rfl ?_
    refine y_iconst X17 hx hby (v := (3 : Int32)) d1_47 rfl ?_
    refine y_iloadN X17 hx hby d1_48 rfl ?_
    refine y_iloadN X17 hx hby d1_49 rfl ?_
    refine st18 _ ?_
    show Steps p.tables e below (T18.setTop (mkF m 53 #[.val (.ref a1), .val (.int p2), .val (.int p3), .val (.int (10 : Int32))] [(.int (atv cs1 3 (3 : Int32) p2 p3)), (.int (3 : Int32)), (.ref b8), (.ref b8), (.ref b7), (.ref b7)])) _
    refine st20 _ ?_
    show Steps p.tables e below (T20.setTop (mkF m 54 #[.val (.ref a1), .val (.int p2), .val (.int p3), .val (.int (10 : Int32))] [(.ref b8), (.ref b7), (.ref b7)])) _
    refine y_dup X20 hx hby d1_54 rfl ?_
    refine y_iconst X20 hx hby (v := (4 : Int32)) d1_55 rfl ?_
    refine y_aloadN X20 hx hby d1_56 rfl rfl ?_
    refine y_iconst X20 hx hby (v := (4 : Int32)) d1_57 rfl ?_
    refine y_iloadN X20 hx hby d1_58 rfl ?_
    refine y_iloadN X20 hx hby d1_59 rfl ?_
    refine st21 _ ?_
    show Steps p.tables e below (T21.setTop (mkF m 63 #[.val (.ref a1), .val (.int p2), .val (.int p3), .val (.int (10 : Int32))] [(.int (atv cs1 4 (4 : Int32) p2 p3)), (.int (4 : Int32)), (.ref b8), (.ref b8), (.ref b7), (.ref b7)])) _
    refine st23 _ ?_
    show Steps p.tables e below (T23.setTop (mkF m 64 #[.val (.ref a1), .val (.int p2), .val (.int p3), .val (.int (10 : Int32))] [(.ref b8), (.ref b7), (.ref b7)])) _
    refine y_dup X23 hx hby d1_64 rfl ?_
    refine y_iconst X23 hx hby (v := (5 : Int32)) d1_65 rfl ?_
    refine y_aloadN X23 hx hby d1_66 rfl rfl ?_
    refine y_iconst X23 hx hby (v := (5 : Int32)) d1_67 rfl ?_
    refine y_iloadN X23 hx hby d1_68 rfl ?_
    refine y_iloadN X23 hx hby d1_69 rfl ?_
    refine st24 _ ?_
    show Steps p.tables e below (T24.setTop (mkF m 73 #[.val (.ref a1), .val (.int p2), .val (.int p3), .val (.int (10 : Int32))] [(.int (atv cs1 5 (5 : Int32) p2 p3)), (.int (5 : Int32)), (.ref b8), (.ref b8), (.ref b7), (.ref b7)])) _
    refine st26 _ ?_
    show Steps p.tables e below (T26.setTop (mkF m 74 #[.val (.ref a1), .val (.int p2), .val (.int p3), .val (.int (10 : Int32))] [(.ref b8), (.ref b7), (.ref b7)])) _
    refine y_dup X26 hx hby d1_74 rfl ?_
    refine y_bipush X26 hx hby (v := (6 : Int32)) d1_75 rfl ?_
    refine y_aloadN X26 hx hby d1_77 rfl rfl ?_
    refine y_bipush X26 hx hby (v := (6 : Int32)) d1_78 rfl ?_
    refine y_iloadN X26 hx hby d1_80 rfl ?_
    refine y_iloadN X26 hx hby d1_81 rfl ?_
    refine st27 _ ?_
    show Steps p.tables e below (T27.setTop (mkF m 85 #[.val (.ref a1), .val (.int p2), .val (.int p3), .val (.int (10 : Int32))] [(.int (atv cs1 6 (6 : Int32) p2 p3)), (.int (6 : Int32)), (.ref b8), (.ref b8), (.ref b7), (.ref b7)])) _
    refine st29 _ ?_
    show Steps p.tables e below (T29.setTop (mkF m 86 #[.val (.ref a1), .val (.int p2), .val (.int p3), .val (.int (10 : Int32))] [(.ref b8), (.ref b7), (.ref b7)])) _
    refine y_dup X29 hx hby d1_86 rfl ?_
    refine y_bipush X29 hx hby (v := (7 : Int32)) d1_87 rfl ?_
    refine y_aloadN X29 hx hby d1_89 rfl rfl ?_
    refine y_bipush X29 hx hby (v := (7 : Int32)) d1_90 rfl ?_
    refine y_iloadN X29 hx hby d1_92 rfl ?_
    refine y_iloadN X29 hx hby d1_93 rfl ?_
    refine st30 _ ?_
    show Steps p.tables e below (T30.setTop (mkF m 97 #[.val (.ref a1), .val (.int p2), .val (.int p3), .val (.int (10 : Int32))] [(.int (atv cs1 7 (7 : Int32) p2 p3)), (.int (7 : Int32)), (.ref b8), (.ref b8), (.ref b7), (.ref b7)])) _
    refine st32 _ ?_
    show Steps p.tables e below (T32.setTop (mkF m 98 #[.val (.ref a1), .val (.int p2), .val (.int p3), .val (.int (10 : Int32))] [(.ref b8), (.ref b7), (.ref b7)])) _
    refine y_dup X32 hx hby d1_98 rfl ?_
    refine y_bipush X32 hx hby (v := (8 : Int32)) d1_99 rfl ?_
    refine y_aloadN X32 hx hby d1_101 rfl rfl ?_
    refine y_bipush X32 hx hby (v := (8 : Int32)) d1_102 rfl ?_
    refine y_iloadN X32 hx hby d1_104 rfl ?_
    refine y_iloadN X32 hx hby d1_105 rfl ?_
    refine st33 _ ?_
    show Steps p.tables e below (T33.setTop (mkF m 109 #[.val (.ref a1), .val (.int p2), .val (.int p3), .val (.int (10 : Int32))] [(.int (atv cs1 8 (8 : Int32) p2 p3)), (.int (8 : Int32)), (.ref b8), (.ref b8), (.ref b7), (.ref b7)])) _
    refine st35 _ ?_
    show Steps p.tables e below (T35.setTop (mkF m 110 #[.val (.ref a1), .val (.int p2), .val (.int p3), .val (.int (10 : Int32))] [(.ref b8), (.ref b7), (.ref b7)])) _
    refine y_dup X35 hx hby d1_110 rfl ?_
    refine y_bipush X35 hx hby (v := (9 : Int32)) d1_111 rfl ?_
    refine y_aloadN X35 hx hby d1_113 rfl rfl ?_
    refine y_bipush X35 hx hby (v := (9 : Int32)) d1_114 rfl ?_
    refine y_iloadN X35 hx hby d1_116 rfl ?_
    refine y_iloadN X35 hx hby d1_117 rfl ?_
    refine st36 _ ?_
    show Steps p.tables e below (T36.setTop (mkF m 121 #[.val (.ref a1), .val (.int p2), .val (.int p3), .val (.int (10 : Int32))] [(.int (atv cs1 9 (9 : Int32) p2 p3)), (.int (9 : Int32)), (.ref b8), (.ref b8), (.ref b7), (.ref b7)])) _
    refine st38 _ ?_
    show Steps p.tables e below (T38.setTop (mkF m 122 #[.val (.ref a1), .val (.int p2), .val (.int p3), .val (.int (10 : Int32))] [(.ref b8), (.ref b7), (.ref b7)])) _
    refine st39.trans ?_
    show Steps p.tables e below (T39.setTop (mkF m 125 #[.val (.ref a1), .val (.int p2), .val (.int p3), .val (.int (10 : Int32))] [(.ref b7)])) _
    jvm_step X39.here [X39.here.top, hx, (hb hby d1_125), X39.method', Bd.returns, Value.isRef, FieldType.isReference]
    first | (intro acts; rw [hr _ acts rfl rfl rfl]) | rw [hr _ _ rfl rfl rfl]
    exact Steps.refl _
  · show QM Z _ _ h0 n0 _ T39.heap _
    rw [e39]
    exact ⟨_, _, _, rfl, N39, KK, sz_b7, sz_B39, E_b7, F_coder_b7, F_value_b7, V_B39⟩
theorem d1_126 : decode method_3_code 126 = .ok (.iload_n 3, 1) := by decide +kernel
theorem d1_127 : decode method_3_code 127 = .ok (.bipush 11, 2) := by decide +kernel
theorem d1_129 : decode method_3_code 129 = .ok (.if_icmp .ne 135, 3) := by decide +kernel
theorem d1_132 : decode method_3_code 132 = .ok (.new 8, 3) := by decide +kernel
theorem d1_135 : decode method_3_code 135 = .ok (.dup, 1) := by decide +kernel
theorem d1_136 : decode method_3_code 136 = .ok (.bipush 11, 2) := by decide +kernel
theorem d1_138 : decode method_3_code 138 = .ok (.newarray .char, 2) := by decide +kernel
theorem d1_140 : decode method_3_code 140 = .ok (.dup, 1) := by decide +kernel
theorem d1_141 : decode method_3_code 141 = .ok (.iconst 0, 1) := by decide +kernel
theorem d1_142 : decode method_3_code 142 = .ok (.aload_n 0, 1) := by decide +kernel
theorem d1_143 : decode method_3_code 143 = .ok (.iconst 0, 1) := by decide +kernel
theorem d1_144 : decode method_3_code 144 = .ok (.iload_n 1, 1) := by decide +kernel
theorem d1_145 : decode method_3_code 145 = .ok (.iload_n 2, 1) := by decide +kernel
theorem d1_146 : decode method_3_code 146 = .ok (.invokestatic 17, 3) := by decide +kernel
theorem d1_149 : decode method_3_code 149 = .ok (.castore, 1) := by decide +kernel
theorem d1_150 : decode method_3_code 150 = .ok (.dup, 1) := by decide +kernel
theorem d1_151 : decode method_3_code 151 = .ok (.iconst 1, 1) := by decide +kernel
theorem d1_152 : decode method_3_code 152 = .ok (.aload_n 0, 1) := by decide +kernel
theorem d1_153 : decode method_3_code 153 = .ok (.iconst 1, 1) := by decide +kernel
theorem d1_154 : decode method_3_code 154 = .ok (.iload_n 1, 1) := by decide +kernel
theorem d1_155 : decode method_3_code 155 = .ok (.iload_n 2, 1) := by decide +kernel
theorem d1_156 : decode method_3_code 156 = .ok (.invokestatic 17, 3) := by decide +kernel
theorem d1_159 : decode method_3_code 159 = .ok (.castore, 1) := by decide +kernel
theorem d1_160 : decode method_3_code 160 = .ok (.dup, 1) := by decide +kernel
theorem d1_161 : decode method_3_code 161 = .ok (.iconst 2, 1) := by decide +kernel
theorem d1_162 : decode method_3_code 162 = .ok (.aload_n 0, 1) := by decide +kernel
theorem d1_163 : decode method_3_code 163 = .ok (.iconst 2, 1) := by decide +kernel
theorem d1_164 : decode method_3_code 164 = .ok (.iload_n 1, 1) := by decide +kernel
theorem d1_165 : decode method_3_code 165 = .ok (.iload_n 2, 1) := by decide +kernel
theorem d1_166 : decode method_3_code 166 = .ok (.invokestatic 17, 3) := by decide +kernel
theorem d1_169 : decode method_3_code 169 = .ok (.castore, 1) := by decide +kernel
theorem d1_170 : decode method_3_code 170 = .ok (.dup, 1) := by decide +kernel
theorem d1_171 : decode method_3_code 171 = .ok (.iconst 3, 1) := by decide +kernel
theorem d1_172 : decode method_3_code 172 = .ok (.aload_n 0, 1) := by decide +kernel
theorem d1_173 : decode method_3_code 173 = .ok (.iconst 3, 1) := by decide +kernel
theorem d1_174 : decode method_3_code 174 = .ok (.iload_n 1, 1) := by decide +kernel
theorem d1_175 : decode method_3_code 175 = .ok (.iload_n 2, 1) := by decide +kernel
theorem d1_176 : decode method_3_code 176 = .ok (.invokestatic 17, 3) := by decide +kernel
theorem d1_179 : decode method_3_code 179 = .ok (.castore, 1) := by decide +kernel
theorem d1_180 : decode method_3_code 180 = .ok (.dup, 1) := by decide +kernel
theorem d1_181 : decode method_3_code 181 = .ok (.iconst 4, 1) := by decide +kernel
theorem d1_182 : decode method_3_code 182 = .ok (.aload_n 0, 1) := by decide +kernel
theorem d1_183 : decode method_3_code 183 = .ok (.iconst 4, 1) := by decide +kernel
theorem d1_184 : decode method_3_code 184 = .ok (.iload_n 1, 1) := by decide +kernel
theorem d1_185 : decode method_3_code 185 = .ok (.iload_n 2, 1) := by decide +kernel
theorem d1_186 : decode method_3_code 186 = .ok (.invokestatic 17, 3) := by decide +kernel
theorem d1_189 : decode method_3_code 189 = .ok (.castore, 1) := by decide +kernel
theorem d1_190 : decode method_3_code 190 = .ok (.dup, 1) := by decide +kernel
theorem d1_191 : decode method_3_code 191 = .ok (.iconst 5, 1) := by decide +kernel
theorem d1_192 : decode method_3_code 192 = .ok (.aload_n 0, 1) := by decide +kernel
theorem d1_193 : decode method_3_code 193 = .ok (.iconst 5, 1) := by decide +kernel
theorem d1_194 : decode method_3_code 194 = .ok (.iload_n 1, 1) := by decide +kernel
theorem d1_195 : decode method_3_code 195 = .ok (.iload_n 2, 1) := by decide +kernel
theorem d1_196 : decode method_3_code 196 = .ok (.invokestatic 17, 3) := by decide +kernel
theorem d1_199 : decode method_3_code 199 = .ok (.castore, 1) := by decide +kernel
theorem d1_200 : decode method_3_code 200 = .ok (.dup, 1) := by decide +kernel
theorem d1_201 : decode method_3_code 201 = .ok (.bipush 6, 2) := by decide +kernel
theorem d1_203 : decode method_3_code 203 = .ok (.aload_n 0, 1) := by decide +kernel
theorem d1_204 : decode method_3_code 204 = .ok (.bipush 6, 2) := by decide +kernel
theorem d1_206 : decode method_3_code 206 = .ok (.iload_n 1, 1) := by decide +kernel
theorem d1_207 : decode method_3_code 207 = .ok (.iload_n 2, 1) := by decide +kernel
theorem d1_208 : decode method_3_code 208 = .ok (.invokestatic 17, 3) := by decide +kernel
theorem d1_211 : decode method_3_code 211 = .ok (.castore, 1) := by decide +kernel
theorem d1_212 : decode method_3_code 212 = .ok (.dup, 1) := by decide +kernel
theorem d1_213 : decode method_3_code 213 = .ok (.bipush 7, 2) := by decide +kernel
theorem d1_215 : decode method_3_code 215 = .ok (.aload_n 0, 1) := by decide +kernel
theorem d1_216 : decode method_3_code 216 = .ok (.bipush 7, 2) := by decide +kernel
theorem d1_218 : decode method_3_code 218 = .ok (.iload_n 1, 1) := by decide +kernel
theorem d1_219 : decode method_3_code 219 = .ok (.iload_n 2, 1) := by decide +kernel
theorem d1_220 : decode method_3_code 220 = .ok (.invokestatic 17, 3) := by decide +kernel
theorem d1_223 : decode method_3_code 223 = .ok (.castore, 1) := by decide +kernel
theorem d1_224 : decode method_3_code 224 = .ok (.dup, 1) := by decide +kernel
theorem d1_225 : decode method_3_code 225 = .ok (.bipush 8, 2) := by decide +kernel
theorem d1_227 : decode method_3_code 227 = .ok (.aload_n 0, 1) := by decide +kernel
theorem d1_228 : decode method_3_code 228 = .ok (.bipush 8, 2) := by decide +kernel
theorem d1_230 : decode method_3_code 230 = .ok (.iload_n 1, 1) := by decide +kernel
theorem d1_231 : decode method_3_code 231 = .ok (.iload_n 2, 1) := by decide +kernel
theorem d1_232 : decode method_3_code 232 = .ok (.invokestatic 17, 3) := by decide +kernel
theorem d1_235 : decode method_3_code 235 = .ok (.castore, 1) := by decide +kernel
theorem d1_236 : decode method_3_code 236 = .ok (.dup, 1) := by decide +kernel
theorem d1_237 : decode method_3_code 237 = .ok (.bipush 9, 2) := by decide +kernel
theorem d1_239 : decode method_3_code 239 = .ok (.aload_n 0, 1) := by decide +kernel
theorem d1_240 : decode method_3_code 240 = .ok (.bipush 9, 2) := by decide +kernel
theorem d1_242 : decode method_3_code 242 = .ok (.iload_n 1, 1) := by decide +kernel
theorem d1_243 : decode method_3_code 243 = .ok (.iload_n 2, 1) := by decide +kernel
theorem d1_244 : decode method_3_code 244 = .ok (.invokestatic 17, 3) := by decide +kernel
theorem d1_247 : decode method_3_code 247 = .ok (.castore, 1) := by decide +kernel
theorem d1_248 : decode method_3_code 248 = .ok (.dup, 1) := by decide +kernel
theorem d1_249 : decode method_3_code 249 = .ok (.bipush 10, 2) := by decide +kernel
theorem d1_251 : decode method_3_code 251 = .ok (.aload_n 0, 1) := by decide +kernel
theorem d1_252 : decode method_3_code 252 = .ok (.bipush 10, 2) := by decide +kernel
theorem d1_254 : decode method_3_code 254 = .ok (.iload_n 1, 1) := by decide +kernel
theorem d1_255 : decode method_3_code 255 = .ok (.iload_n 2, 1) := by decide +kernel
theorem d1_256 : decode method_3_code 256 = .ok (.invokestatic 17, 3) := by decide +kernel
theorem d1_259 : decode method_3_code 259 = .ok (.castore, 1) := by decide +kernel
theorem d1_260 : decode method_3_code 260 = .ok (.invokespecial 23, 3) := by decide +kernel
theorem d1_263 : decode method_3_code 263 = .ok (.areturn, 1) := by decide +kernel
set_option maxRecDepth 65536 in
set_option maxHeartbeats 40000000 in
theorem rm1_11 (l : Launch) (Z : State) (a0 : Array Value) (hw : HW a0 Z) (ws : List Jvm.Cond) (a1 : Addr) (p2 p3 : Int32) (t1 : Addr) (k1 : ClassId) (N1 : Int32) (vs1 : List Value) (cs1 : List Int32) (w_COMPACT_STRINGS : Int32) (fm : Value) (h0 : Heap) (n0 : Nat) (Z0 : n0 ≤ h0.size) (S_COMPACT_STRINGS : Sta Z h0 "java/lang/String" "COMPACT_STRINGS" "Z" (.int w_COMPACT_STRINGS)) (hz : ¬ w_COMPACT_STRINGS = 0) (S_SIOOBE_FORMATTER : Sta Z h0 "jdk/internal/util/Preconditions" "SIOOBE_FORMATTER" "Ljava/util/function/BiFunction;" fm) (rf : fm.isRef = true) (hcd : StrChars.Road.CodA cs1 0 N1 vs1) (hr : RGs cs1) (hl : cs1.length ≤ 4000) (hc : RG p3) (E_a1 : Exa Z h0 a1 "java/lang/String") (F_coder_a1 : Fld Z h0 a1 "java/lang/String" "coder" "B" (.int (0 : Int32))) (F_value_a1 : Fld Z h0 a1 "java/lang/String" "value" "[B" (.ref t1)) (V_t1 : Arv Z h0 t1 k1 .byte N1 vs1 (.int (0 : Int32))) :
    MF l mn4 method_3_code 4 (some (.object "java/lang/String")) ws ({ frames := 5, cells := 3, slots := 26, locals := 73 } : Room) #[(.ref a1), (.int p2), (.int p3), (.int (11 : Int32))] Z h0 (QM Z (mkl cs1 p2 p3 11) (11 : Int32) h0 n0) := by
  refine MetFree.of_bodySF (plainFor_of_name pn_2) hisR ?_
  intro p e s m args below meth c s₁ Bd hml0 hP hK
  obtain ⟨rfl, hZ, hh⟩ := hP
  have hx := Bd.exec
  have hby := Bd.bytes
  have hml : c.maxLocals = 4 := hml0
  have hown : s.vm.findClass "com/example/assay/assay/config/RoleFromJsonNamePinLaw" = some m.cls := findClass_of_methodNamed Bd.named
  have hnm := (name_of_methodNamed Bd.named Bd.method).1
  have X0 : Stand p l e ({ frames := 5, cells := 3, slots := 26, locals := 73 } : Room) s m #[(.ref a1), (.int p2), (.int p3), (.int (11 : Int32))] below meth c s₁ [] 0 0 := Stand.of_body Bd
  have e0 : s₁.heap = h0 := by rw [← hh, Bd.state]; rfl
  have N0 := Fr.nil n0
  have pre0 : GO p e below (s₁.setTop (mkF m 0 #[.val (.ref a1), .val (.int p2), .val (.int p3), .val (.int (11 : Int32))] [])) (s₁.setTop (entryFrame m #[(.ref a1), (.int p2), (.int p3), (.int (11 : Int32))] 4)) := fun t k => castTop (ef_1 m a1 p2 p3 (11 : Int32)) k
  have KK := Keep.refl h0 []
  have hws : ∀ d ∈ StrChars.Road.words, d.before a0 Z = true := fun d hd => hw d ((by decide +kernel : ∀ d ∈ StrChars.Road.words, d ∈ tables_1) d hd)
  obtain ⟨T40, h40, X40, e40, E40, A40, D40, -, st40⟩ := newO X0 hx hZ hown (ww hw 13 rfl) (ww hw 2 rfl) (ww hw 1 rfl) e0 (g := (mkF m 132 #[.val (.ref a1), .val (.int p2), .val (.int p3), .val (.int (11 : Int32))] [])) rfl (hb hby d1_132) (by decide) (by decide)
  obtain ⟨b40, g40⟩ : ∃ z, z = h0.size := ⟨_, rfl⟩
  rw [← g40] at A40 D40 st40
  have g_b40 : n0 ≤ b40 := Nat.le_trans Z0 (Nat.le_of_eq g40.symm)
  have sz_b40 : h0.size ≤ b40 := Nat.le_trans KK.1 (Nat.le_of_eq g40.symm)
  have ne_a1_b40 : a1 ≠ b40 := Nat.ne_of_lt (Nat.lt_of_lt_of_le E_a1.lt (Nat.le_of_eq g40.symm))
  have ne_t1_b40 : t1 ≠ b40 := Nat.ne_of_lt (Nat.lt_of_lt_of_le V_t1.lt (Nat.le_of_eq g40.symm))
  replace E_a1 := E_a1.ext E40
  replace F_coder_a1 := F_coder_a1.ext E40
  replace F_value_a1 := F_value_a1.ext E40
  replace V_t1 := V_t1.ext E40
  replace S_COMPACT_STRINGS := S_COMPACT_STRINGS.ext E40
  replace S_SIOOBE_FORMATTER := S_SIOOBE_FORMATTER.ext E40
  replace Z0 := Nat.le_trans Z0 E40.1
  replace KK := KK.ext E40
  have E_b40 := A40
  have F_value_b40 : Fld Z h40 b40 "java/lang/String" "value" "[B" .null := D40 (Or.inr (ww hw 4 rfl)) (ty := (.array .byte)) (by decide)
  have F_coder_b40 : Fld Z h40 b40 "java/lang/String" "coder" "B" (.int (0 : Int32)) := D40 (Or.inr (ww hw 5 rfl)) (ty := .byte) (by decide)
  obtain ⟨T41, h41, k41, X41, e41, E41, A41, st41⟩ := newP X40 hx hZ (ww hw 14 rfl) e40 (g := (mkF m 138 #[.val (.ref a1), .val (.int p2), .val (.int p3), .val (.int (11 : Int32))] [(.int (11 : Int32)), (.ref b40), (.ref b40)])) rfl (hb hby d1_138) rfl (by decide) (cap := 11) (by decide) (by decide) (by decide) (by decide)
  obtain ⟨b41, g41⟩ : ∃ z, z = h40.size := ⟨_, rfl⟩
  rw [← g41] at A41 st41
  have g_b41 : n0 ≤ b41 := Nat.le_trans Z0 (Nat.le_of_eq g41.symm)
  have sz_b41 : h0.size ≤ b41 := Nat.le_trans KK.1 (Nat.le_of_eq g41.symm)
  have ne_a1_b41 : a1 ≠ b41 := Nat.ne_of_lt (Nat.lt_of_lt_of_le E_a1.lt (Nat.le_of_eq g41.symm))
  have ne_t1_b41 : t1 ≠ b41 := Nat.ne_of_lt (Nat.lt_of_lt_of_le V_t1.lt (Nat.le_of_eq g41.symm))
  have ne_b40_b41 : b40 ≠ b41 := Nat.ne_of_lt (Nat.lt_of_lt_of_le E_b40.lt (Nat.le_of_eq g41.symm))
  replace E_a1 := E_a1.ext E41
  replace F_coder_a1 := F_coder_a1.ext E41
  replace F_value_a1 := F_value_a1.ext E41
  replace V_t1 := V_t1.ext E41
  replace S_COMPACT_STRINGS := S_COMPACT_STRINGS.ext E41
  replace S_SIOOBE_FORMATTER := S_SIOOBE_FORMATTER.ext E41
  replace E_b40 := E_b40.ext E41
  replace F_value_b40 := F_value_b40.ext E41
  replace F_coder_b40 := F_coder_b40.ext E41
  replace Z0 := Nat.le_trans Z0 E41.1
  replace KK := KK.ext E41
  have V_b41 : Arv Z h41 b41 k41 .char (11 : Int32) [(.int (0 : Int32)), (.int (0 : Int32)), (.int (0 : Int32)), (.int (0 : Int32)), (.int (0 : Int32)), (.int (0 : Int32)), (.int (0 : Int32)), (.int (0 : Int32)), (.int (0 : Int32)), (.int (0 : Int32)), (.int (0 : Int32))] (.int (0 : Int32)) := (Arv.new A41 (by decide)).pad (pad_rep [] (.int (0 : Int32)) 11)
  obtain ⟨_, _, ⟨T42, L42, k42, n42⟩, -, X42, ⟨Lc42, hQ42, l42, y42, z42⟩, st42⟩ := Jvm.LawKit.callS X41 hx (y := mn2) hown (mvT hZ (ww hw 15 rfl)) (mvT hZ (ww hw 16 rfl)) (mvT hZ (ww hw 11 rfl)) (mvT hZ (ww hw 17 rfl)) (by decide) (backOf (W := 5) (rm2 l Z a0 hw [] a1 (0 : Int32) p2 p3 t1 k1 N1 vs1 cs1 0 w_COMPACT_STRINGS fm h41 n0 Z0 S_COMPACT_STRINGS hz S_SIOOBE_FORMATTER rf hcd hr hl rfl (by decide) E_a1 F_coder_a1 F_value_a1 V_t1) hZ (ww hw 17 rfl) (ww hw 11 rfl) (by decide) (by decide)) (g := (mkF m 146 #[.val (.ref a1), .val (.int p2), .val (.int p3), .val (.int (11 : Int32))] [(.int p3), (.int p2), (.int (0 : Int32)), (.ref a1), (.int (0 : Int32)), (.ref b41), (.ref b41), (.ref b40), (.ref b40)])) rfl (by rw [hml]; rfl) (argsL := [(.ref a1), (.int (0 : Int32)), (.int p2), (.int p3)]) (rest := [(.int (0 : Int32)), (.ref b41), (.ref b41), (.ref b40), (.ref b40)]) (lenOf pd_2 rfl) rfl (by show 2 * 0 + _ ≤ _; exact Nat.le_of_eq rfl) (hb hby d1_146) (fun _ _ => ⟨rfl, e41, (by decide : 2 + 0 ≤ _), (by decide : 15 + 0 ≤ _)⟩)
  dsimp only [Pt.U, Pt.locs, Pt.cells, Pt.slots] at X42 l42 y42 z42 st42 hQ42
  rw [l42, y42, z42] at X42
  obtain ⟨rfl, N42q, e42⟩ := hQ42
  have q42 : f2 a1 (0 : Int32) p2 p3 t1 k1 N1 vs1 cs1 0 w_COMPACT_STRINGS fm = (atv cs1 0 (0 : Int32) p2 p3) := rfl
  rw [q42] at st42
  have N42 := Fr.app N0 N42q
  obtain ⟨cl43, Ar43, q43, Sz43, Nn43, Hh43, Gg43⟩ := V_b41
  have hin43 : ¬ ((0 : Int32) < 0 ∨ cl43.slots.size ≤ ((0 : Int32)).toNatClampNeg) := inb_of Sz43 ⟨by decide, by decide⟩
  obtain ⟨T44, h44, X44, e44, W44, st44⟩ := stC X42 hx hZ e42 Ar43 (j := (0 : Int32)) hin43 (g := (mkF m 149 #[.val (.ref a1), .val (.int p2), .val (.int p3), .val (.int (11 : Int32))] [(.int (atv cs1 0 (0 : Int32) p2 p3)), (.int (0 : Int32)), (.ref b41), (.ref b41), (.ref b40), (.ref b40)])) rfl rfl (hb hby d1_149)
  replace E_a1 := E_a1.wr W44
  replace F_coder_a1 := F_coder_a1.other W44 (Or.inl ne_a1_b41)
  replace F_value_a1 := F_value_a1.other W44 (Or.inl ne_a1_b41)
  replace V_t1 := V_t1.other W44 ne_t1_b41
  replace S_COMPACT_STRINGS := S_COMPACT_STRINGS.wr W44
  replace S_SIOOBE_FORMATTER := S_SIOOBE_FORMATTER.wr W44
  replace E_b40 := E_b40.wr W44
  replace F_value_b40 := F_value_b40.other W44 (Or.inl ne_b40_b41)
  replace F_coder_b40 := F_coder_b40.other W44 (Or.inl ne_b40_b41)
  replace Z0 := Nat.le_trans Z0 (Keep.of_wr W44).1
  replace KK := KK.wr W44 (Or.inr sz_b41)
  have V_b41 : Arv Z h44 b41 k41 .char (11 : Int32) [(.int ((atv cs1 0 (0 : Int32) p2 p3).toUInt32.toUInt16.toUInt32.toInt32)), (.int (0 : Int32)), (.int (0 : Int32)), (.int (0 : Int32)), (.int (0 : Int32)), (.int (0 : Int32)), (.int (0 : Int32)), (.int (0 : Int32)), (.int (0 : Int32)), (.int (0 : Int32)), (.int (0 : Int32))] (.int (0 : Int32)) := Arv.set Ar43 q43 Sz43 Nn43 Hh43 Gg43 (fits_nar_char _) W44 0 rfl (Nat.le_of_ble_eq_true rfl)
  have N44 := Fr.snoc X44 N42 g_b41
  obtain ⟨_, _, ⟨T45, L45, k45, n45⟩, -, X45, ⟨Lc45, hQ45, l45, y45, z45⟩, st45⟩ := Jvm.LawKit.callS X44 hx (y := mn2) hown (mvT hZ (ww hw 15 rfl)) (mvT hZ (ww hw 16 rfl)) (mvT hZ (ww hw 11 rfl)) (mvT hZ (ww hw 17 rfl)) (by decide) (backOf (W := 5) (rm2 l Z a0 hw [] a1 (1 : Int32) p2 p3 t1 k1 N1 vs1 cs1 1 w_COMPACT_STRINGS fm h44 n0 Z0 S_COMPACT_STRINGS hz S_SIOOBE_FORMATTER rf hcd hr hl rfl (by decide) E_a1 F_coder_a1 F_value_a1 V_t1) hZ (ww hw 17 rfl) (ww hw 11 rfl) (by decide) (by decide)) (g := (mkF m 156 #[.val (.ref a1), .val (.int p2), .val (.int p3), .val (.int (11 : Int32))] [(.int p3), (.int p2), (.int (1 : Int32)), (.ref a1), (.int (1 : Int32)), (.ref b41), (.ref b41), (.ref b40), (.ref b40)])) rfl (by rw [hml]; rfl) (argsL := [(.ref a1), (.int (1 : Int32)), (.int p2), (.int p3)]) (rest := [(.int (1 : Int32)), (.ref b41), (.ref b41), (.ref b40), (.ref b40)]) (lenOf pd_2 rfl) rfl (by show 2 * 0 + _ ≤ _; exact Nat.le_of_eq rfl) (hb hby d1_156) (fun _ _ => ⟨rfl, e44, (by decide : 2 + 0 ≤ _), (by decide : 15 + 0 ≤ _)⟩)
  dsimp only [Pt.U, Pt.locs, Pt.cells, Pt.slots] at X45 l45 y45 z45 st45 hQ45
  rw [l45, y45, z45] at X45
  obtain ⟨rfl, N45q, e45⟩ := hQ45
  have q45 : f2 a1 (1 : Int32) p2 p3 t1 k1 N1 vs1 cs1 1 w_COMPACT_STRINGS fm = (atv cs1 1 (1 : Int32) p2 p3) := rfl
  rw [q45] at st45
  have N45 := Fr.app N44 N45q
  obtain ⟨cl46, Ar46, q46, Sz46, Nn46, Hh46, Gg46⟩ := V_b41
  have hin46 : ¬ ((1 : Int32) < 0 ∨ cl46.slots.size ≤ ((1 : Int32)).toNatClampNeg) := inb_of Sz46 ⟨by decide, by decide⟩
  obtain ⟨T47, h47, X47, e47, W47, st47⟩ := stC X45 hx hZ e45 Ar46 (j := (1 : Int32)) hin46 (g := (mkF m 159 #[.val (.ref a1), .val (.int p2), .val (.int p3), .val (.int (11 : Int32))] [(.int (atv cs1 1 (1 : Int32) p2 p3)), (.int (1 : Int32)), (.ref b41), (.ref b41), (.ref b40), (.ref b40)])) rfl rfl (hb hby d1_159)
  replace E_a1 := E_a1.wr W47
  replace F_coder_a1 := F_coder_a1.other W47 (Or.inl ne_a1_b41)
  replace F_value_a1 := F_value_a1.other W47 (Or.inl ne_a1_b41)
  replace V_t1 := V_t1.other W47 ne_t1_b41
  replace S_COMPACT_STRINGS := S_COMPACT_STRINGS.wr W47
  replace S_SIOOBE_FORMATTER := S_SIOOBE_FORMATTER.wr W47
  replace E_b40 := E_b40.wr W47
  replace F_value_b40 := F_value_b40.other W47 (Or.inl ne_b40_b41)
  replace F_coder_b40 := F_coder_b40.other W47 (Or.inl ne_b40_b41)
  replace Z0 := Nat.le_trans Z0 (Keep.of_wr W47).1
  replace KK := KK.wr W47 (Or.inr sz_b41)
  have V_b41 : Arv Z h47 b41 k41 .char (11 : Int32) [(.int ((atv cs1 0 (0 : Int32) p2 p3).toUInt32.toUInt16.toUInt32.toInt32)), (.int ((atv cs1 1 (1 : Int32) p2 p3).toUInt32.toUInt16.toUInt32.toInt32)), (.int (0 : Int32)), (.int (0 : Int32)), (.int (0 : Int32)), (.int (0 : Int32)), (.int (0 : Int32)), (.int (0 : Int32)), (.int (0 : Int32)), (.int (0 : Int32)), (.int (0 : Int32))] (.int (0 : Int32)) := Arv.set Ar46 q46 Sz46 Nn46 Hh46 Gg46 (fits_nar_char _) W47 1 rfl (Nat.le_of_ble_eq_true rfl)
  have N47 := Fr.snoc X47 N45 g_b41
  obtain ⟨_, _, ⟨T48, L48, k48, n48⟩, -, X48, ⟨Lc48, hQ48, l48, y48, z48⟩, st48⟩ := Jvm.LawKit.callS X47 hx (y := mn2) hown (mvT hZ (ww hw 15 rfl)) (mvT hZ (ww hw 16 rfl)) (mvT hZ (ww hw 11 rfl)) (mvT hZ (ww hw 17 rfl)) (by decide) (backOf (W := 5) (rm2 l Z a0 hw [] a1 (2 : Int32) p2 p3 t1 k1 N1 vs1 cs1 2 w_COMPACT_STRINGS fm h47 n0 Z0 S_COMPACT_STRINGS hz S_SIOOBE_FORMATTER rf hcd hr hl rfl (by decide) E_a1 F_coder_a1 F_value_a1 V_t1) hZ (ww hw 17 rfl) (ww hw 11 rfl) (by decide) (by decide)) (g := (mkF m 166 #[.val (.ref a1), .val (.int p2), .val (.int p3), .val (.int (11 : Int32))] [(.int p3), (.int p2), (.int (2 : Int32)), (.ref a1), (.int (2 : Int32)), (.ref b41), (.ref b41), (.ref b40), (.ref b40)])) rfl (by rw [hml]; rfl) (argsL := [(.ref a1), (.int (2 : Int32)), (.int p2), (.int p3)]) (rest := [(.int (2 : Int32)), (.ref b41), (.ref b41), (.ref b40), (.ref b40)]) (lenOf pd_2 rfl) rfl (by show 2 * 0 + _ ≤ _; exact Nat.le_of_eq rfl) (hb hby d1_166) (fun _ _ => ⟨rfl, e47, (by decide : 2 + 0 ≤ _), (by decide : 15 + 0 ≤ _)⟩)
  dsimp only [Pt.U, Pt.locs, Pt.cells, Pt.slots] at X48 l48 y48 z48 st48 hQ48
  rw [l48, y48, z48] at X48
  obtain ⟨rfl, N48q, e48⟩ := hQ48
  have q48 : f2 a1 (2 : Int32) p2 p3 t1 k1 N1 vs1 cs1 2 w_COMPACT_STRINGS fm = (atv cs1 2 (2 : Int32) p2 p3) := rfl
  rw [q48] at st48
  have N48 := Fr.app N47 N48q
  obtain ⟨cl49, Ar49, q49, Sz49, Nn49, Hh49, Gg49⟩ := V_b41
  have hin49 : ¬ ((2 : Int32) < 0 ∨ cl49.slots.size ≤ ((2 : Int32)).toNatClampNeg) := inb_of Sz49 ⟨by decide, by decide⟩
  obtain ⟨T50, h50, X50, e50, W50, st50⟩ := stC X48 hx hZ e48 Ar49 (j := (2 : Int32)) hin49 (g := (mkF m 169 #[.val (.ref a1), .val (.int p2), .val (.int p3), .val (.int (11 : Int32))] [(.int (atv cs1 2 (2 : Int32) p2 p3)), (.int (2 : Int32)), (.ref b41), (.ref b41), (.ref b40), (.ref b40)])) rfl rfl (hb hby d1_169)
  replace E_a1 := E_a1.wr W50
  replace F_coder_a1 := F_coder_a1.other W50 (Or.inl ne_a1_b41)
  replace F_value_a1 := F_value_a1.other W50 (Or.inl ne_a1_b41)
  replace V_t1 := V_t1.other W50 ne_t1_b41
  replace S_COMPACT_STRINGS := S_COMPACT_STRINGS.wr W50
  replace S_SIOOBE_FORMATTER := S_SIOOBE_FORMATTER.wr W50
  replace E_b40 := E_b40.wr W50
  replace F_value_b40 := F_value_b40.other W50 (Or.inl ne_b40_b41)
  replace F_coder_b40 := F_coder_b40.other W50 (Or.inl ne_b40_b41)
  replace Z0 := Nat.le_trans Z0 (Keep.of_wr W50).1
  replace KK := KK.wr W50 (Or.inr sz_b41)
  have V_b41 : Arv Z h50 b41 k41 .char (11 : Int32) [(.int ((atv cs1 0 (0 : Int32) p2 p3).toUInt32.toUInt16.toUInt32.toInt32)), (.int ((atv cs1 1 (1 : Int32) p2 p3).toUInt32.toUInt16.toUInt32.toInt32)), (.int ((atv cs1 2 (2 : Int32) p2 p3).toUInt32.toUInt16.toUInt32.toInt32)), (.int (0 : Int32)), (.int (0 : Int32)), (.int (0 : Int32)), (.int (0 : Int32)), (.int (0 : Int32)), (.int (0 : Int32)), (.int (0 : Int32)), (.int (0 : Int32))] (.int (0 : Int32)) := Arv.set Ar49 q49 Sz49 Nn49 Hh49 Gg49 (fits_nar_char _) W50 2 rfl (Nat.le_of_ble_eq_true rfl)
  have N50 := Fr.snoc X50 N48 g_b41
  obtain ⟨_, _, ⟨T51, L51, k51, n51⟩, -, X51, ⟨Lc51, hQ51, l51, y51, z51⟩, st51⟩ := Jvm.LawKit.callS X50 hx (y := mn2) hown (mvT hZ (ww hw 15 rfl)) (mvT hZ (ww hw 16 rfl)) (mvT hZ (ww hw 11 rfl)) (mvT hZ (ww hw 17 rfl)) (by decide) (backOf (W := 5) (rm2 l Z a0 hw [] a1 (3 : Int32) p2 p3 t1 k1 N1 vs1 cs1 3 w_COMPACT_STRINGS fm h50 n0 Z0 S_COMPACT_STRINGS hz S_SIOOBE_FORMATTER rf hcd hr hl rfl (by decide) E_a1 F_coder_a1 F_value_a1 V_t1) hZ (ww hw 17 rfl) (ww hw 11 rfl) (by decide) (by decide)) (g := (mkF m 176 #[.val (.ref a1), .val (.int p2), .val (.int p3), .val (.int (11 : Int32))] [(.int p3), (.int p2), (.int (3 : Int32)), (.ref a1), (.int (3 : Int32)), (.ref b41), (.ref b41), (.ref b40), (.ref b40)])) rfl (by rw [hml]; rfl) (argsL := [(.ref a1), (.int (3 : Int32)), (.int p2), (.int p3)]) (rest := [(.int (3 : Int32)), (.ref b41), (.ref b41), (.ref b40), (.ref b40)]) (lenOf pd_2 rfl) rfl (by show 2 * 0 + _ ≤ _; exact Nat.le_of_eq rfl) (hb hby d1_176) (fun _ _ => ⟨rfl, e50, (by decide : 2 + 0 ≤ _), (by decide : 15 + 0 ≤ _)⟩)
  dsimp only [Pt.U, Pt.locs, Pt.cells, Pt.slots] at X51 l51 y51 z51 st51 hQ51
  rw [l51, y51, z51] at X51
  obtain ⟨rfl, N51q, e51⟩ := hQ51
  have q51 : f2 a1 (3 : Int32) p2 p3 t1 k1 N1 vs1 cs1 3 w_COMPACT_STRINGS fm = (atv cs1 3 (3 : Int32) p2 p3) := rfl
  rw [q51] at st51
  have N51 := Fr.app N50 N51q
  obtain ⟨cl52, Ar52, q52, Sz52, Nn52, Hh52, Gg52⟩ := V_b41
  have hin52 : ¬ ((3 : Int32) < 0 ∨ cl52.slots.size ≤ ((3 : Int32)).toNatClampNeg) := inb_of Sz52 ⟨by decide, by decide⟩
  obtain ⟨T53, h53, X53, e53, W53, st53⟩ := stC X51 hx hZ e51 Ar52 (j := (3 : Int32)) hin52 (g := (mkF m 179 #[.val (.ref a1), .val (.int p2), .val (.int p3), .val (.int (11 : Int32))] [(.int (atv cs1 3 (3 : Int32) p2 p3)), (.int (3 : Int32)), (.ref b41), (.ref b41), (.ref b40), (.ref b40)])) rfl rfl (hb hby d1_179)
  replace E_a1 := E_a1.wr W53
  replace F_coder_a1 := F_coder_a1.other W53 (Or.inl ne_a1_b41)
  replace F_value_a1 := F_value_a1.other W53 (Or.inl ne_a1_b41)
  replace V_t1 := V_t1.other W53 ne_t1_b41
  replace S_COMPACT_STRINGS := S_COMPACT_STRINGS.wr W53
  replace S_SIOOBE_FORMATTER := S_SIOOBE_FORMATTER.wr W53
  replace E_b40 := E_b40.wr W53
  replace F_value_b40 := F_value_b40.other W53 (Or.inl ne_b40_b41)
  replace F_coder_b40 := F_coder_b40.other W53 (Or.inl ne_b40_b41)
  replace Z0 := Nat.le_trans Z0 (Keep.of_wr W53).1
  replace KK := KK.wr W53 (Or.inr sz_b41)
  have V_b41 : Arv Z h53 b41 k41 .char (11 : Int32) [(.int ((atv cs1 0 (0 : Int32) p2 p3).toUInt32.toUInt16.toUInt32.toInt32)), (.int ((atv cs1 1 (1 : Int32) p2 p3).toUInt32.toUInt16.toUInt32.toInt32)), (.int ((atv cs1 2 (2 : Int32) p2 p3).toUInt32.toUInt16.toUInt32.toInt32)), (.int ((atv cs1 3 (3 : Int32) p2 p3).toUInt32.toUInt16.toUInt32.toInt32)), (.int (0 : Int32)), (.int (0 : Int32)), (.int (0 : Int32)), (.int (0 : Int32)), (.int (0 : Int32)), (.int (0 : Int32)), (.int (0 : Int32))] (.int (0 : Int32)) := Arv.set Ar52 q52 Sz52 Nn52 Hh52 Gg52 (fits_nar_char _) W53 3 rfl (Nat.le_of_ble_eq_true rfl)
  have N53 := Fr.snoc X53 N51 g_b41
  obtain ⟨_, _, ⟨T54, L54, k54, n54⟩, -, X54, ⟨Lc54, hQ54, l54, y54, z54⟩, st54⟩ := Jvm.LawKit.callS X53 hx (y := mn2) hown (mvT hZ (ww hw 15 rfl)) (mvT hZ (ww hw 16 rfl)) (mvT hZ (ww hw 11 rfl)) (mvT hZ (ww hw 17 rfl)) (by decide) (backOf (W := 5) (rm2 l Z a0 hw [] a1 (4 : Int32) p2 p3 t1 k1 N1 vs1 cs1 4 w_COMPACT_STRINGS fm h53 n0 Z0 S_COMPACT_STRINGS hz S_SIOOBE_FORMATTER rf hcd hr hl rfl (by decide) E_a1 F_coder_a1 F_value_a1 V_t1) hZ (ww hw 17 rfl) (ww hw 11 rfl) (by decide) (by decide)) (g := (mkF m 186 #[.val (.ref a1), .val (.int p2), .val (.int p3), .val (.int (11 : Int32))] [(.int p3), (.int p2), (.int (4 : Int32)), (.ref a1), (.int (4 : Int32)), (.ref b41), (.ref b41), (.ref b40), (.ref b40)])) rfl (by rw [hml]; rfl) (argsL := [(.ref a1), (.int (4 : Int32)), (.int p2), (.int p3)]) (rest := [(.int (4 : Int32)), (.ref b41), (.ref b41), (.ref b40), (.ref b40)]) (lenOf pd_2 rfl) rfl (by show 2 * 0 + _ ≤ _; exact Nat.le_of_eq rfl) (hb hby d1_186) (fun _ _ => ⟨rfl, e53, (by decide : 2 + 0 ≤ _), (by decide : 15 + 0 ≤ _)⟩)
  dsimp only [Pt.U, Pt.locs, Pt.cells, Pt.slots] at X54 l54 y54 z54 st54 hQ54
  rw [l54, y54, z54] at X54
  obtain ⟨rfl, N54q, e54⟩ := hQ54
  have q54 : f2 a1 (4 : Int32) p2 p3 t1 k1 N1 vs1 cs1 4 w_COMPACT_STRINGS fm = (atv cs1 4 (4 : Int32) p2 p3) := rfl
  rw [q54] at st54
  have N54 := Fr.app N53 N54q
  obtain ⟨cl55, Ar55, q55, Sz55, Nn55, Hh55, Gg55⟩ := V_b41
  have hin55 : ¬ ((4 : Int32) < 0 ∨ cl55.slots.size ≤ ((4 : Int32)).toNatClampNeg) := inb_of Sz55 ⟨by decide, by decide⟩
  obtain ⟨T56, h56, X56, e56, W56, st56⟩ := stC X54 hx hZ e54 Ar55 (j := (4 : Int32)) hin55 (g := (mkF m 189 #[.val (.ref a1), .val (.int p2), .val (.int p3), .val (.int (11 : Int32))] [(.int (atv cs1 4 (4 : Int32) p2 p3)), (.int (4 : Int32)), (.ref b41), (.ref b41), (.ref b40), (.ref b40)])) rfl rfl (hb hby d1_189)
  replace E_a1 := E_a1.wr W56
  replace F_coder_a1 := F_coder_a1.other W56 (Or.inl ne_a1_b41)
  replace F_value_a1 := F_value_a1.other W56 (Or.inl ne_a1_b41)
  replace V_t1 := V_t1.other W56 ne_t1_b41
  replace S_COMPACT_STRINGS := S_COMPACT_STRINGS.wr W56
  replace S_SIOOBE_FORMATTER := S_SIOOBE_FORMATTER.wr W56
  replace E_b40 := E_b40.wr W56
  replace F_value_b40 := F_value_b40.other W56 (Or.inl ne_b40_b41)
  replace F_coder_b40 := F_coder_b40.other W56 (Or.inl ne_b40_b41)
  replace Z0 := Nat.le_trans Z0 (Keep.of_wr W56).1
  replace KK := KK.wr W56 (Or.inr sz_b41)
  have V_b41 : Arv Z h56 b41 k41 .char (11 : Int32) [(.int ((atv cs1 0 (0 : Int32) p2 p3).toUInt32.toUInt16.toUInt32.toInt32)), (.int ((atv cs1 1 (1 : Int32) p2 p3).toUInt32.toUInt16.toUInt32.toInt32)), (.int ((atv cs1 2 (2 : Int32) p2 p3).toUInt32.toUInt16.toUInt32.toInt32)), (.int ((atv cs1 3 (3 : Int32) p2 p3).toUInt32.toUInt16.toUInt32.toInt32)), (.int ((atv cs1 4 (4 : Int32) p2 p3).toUInt32.toUInt16.toUInt32.toInt32)), (.int (0 : Int32)), (.int (0 : Int32)), (.int (0 : Int32)), (.int (0 : Int32)), (.int (0 : Int32)), (.int (0 : Int32))] (.int (0 : Int32)) := Arv.set Ar55 q55 Sz55 Nn55 Hh55 Gg55 (fits_nar_char _) W56 4 rfl (Nat.le_of_ble_eq_true rfl)
  have N56 := Fr.snoc X56 N54 g_b41
  obtain ⟨_, _, ⟨T57, L57, k57, n57⟩, -, X57, ⟨Lc57, hQ57, l57, y57, z57⟩, st57⟩ := Jvm.LawKit.callS X56 hx (y := mn2) hown (mvT hZ (ww hw 15 rfl)) (mvT hZ (ww hw 16 rfl)) (mvT hZ (ww hw 11 rfl)) (mvT hZ (ww hw 17 rfl)) (by decide) (backOf (W := 5) (rm2 l Z a0 hw [] a1 (5 : Int32) p2 p3 t1 k1 N1 vs1 cs1 5 w_COMPACT_STRINGS fm h56 n0 Z0 S_COMPACT_STRINGS hz S_SIOOBE_FORMATTER rf hcd hr hl rfl (by decide) E_a1 F_coder_a1 F_value_a1 V_t1) hZ (ww hw 17 rfl) (ww hw 11 rfl) (by decide) (by decide)) (g := (mkF m 196 #[.val (.ref a1), .val (.int p2), .val (.int p3), .val (.int (11 : Int32))] [(.int p3), (.int p2), (.int (5 : Int32)), (.ref a1), (.int (5 : Int32)), (.ref b41), (.ref b41), (.ref b40), (.ref b40)])) rfl (by rw [hml]; rfl) (argsL := [(.ref a1), (.int (5 : Int32)), (.int p2), (.int p3)]) (rest := [(.int (5 : Int32)), (.ref b41), (.ref b41), (.ref b40), (.ref b40)]) (lenOf pd_2 rfl) rfl (by show 2 * 0 + _ ≤ _; exact Nat.le_of_eq rfl) (hb hby d1_196) (fun _ _ => ⟨rfl, e56, (by decide : 2 + 0 ≤ _), (by decide : 15 + 0 ≤ _)⟩)
  dsimp only [Pt.U, Pt.locs, Pt.cells, Pt.slots] at X57 l57 y57 z57 st57 hQ57
  rw [l57, y57, z57] at X57
  obtain ⟨rfl, N57q, e57⟩ := hQ57
  have q57 : f2 a1 (5 : Int32) p2 p3 t1 k1 N1 vs1 cs1 5 w_COMPACT_STRINGS fm = (atv cs1 5 (5 : Int32) p2 p3) := rfl
  rw [q57] at st57
  have N57 := Fr.app N56 N57q
  obtain ⟨cl58, Ar58, q58, Sz58, Nn58, Hh58, Gg58⟩ := V_b41
  have hin58 : ¬ ((5 : Int32) < 0 ∨ cl58.slots.size ≤ ((5 : Int32)).toNatClampNeg) := inb_of Sz58 ⟨by decide, by decide⟩
  obtain ⟨T59, h59, X59, e59, W59, st59⟩ := stC X57 hx hZ e57 Ar58 (j := (5 : Int32)) hin58 (g := (mkF m 199 #[.val (.ref a1), .val (.int p2), .val (.int p3), .val (.int (11 : Int32))] [(.int (atv cs1 5 (5 : Int32) p2 p3)), (.int (5 : Int32)), (.ref b41), (.ref b41), (.ref b40), (.ref b40)])) rfl rfl (hb hby d1_199)
  replace E_a1 := E_a1.wr W59
  replace F_coder_a1 := F_coder_a1.other W59 (Or.inl ne_a1_b41)
  replace F_value_a1 := F_value_a1.other W59 (Or.inl ne_a1_b41)
  replace V_t1 := V_t1.other W59 ne_t1_b41
  replace S_COMPACT_STRINGS := S_COMPACT_STRINGS.wr W59
  replace S_SIOOBE_FORMATTER := S_SIOOBE_FORMATTER.wr W59
  replace E_b40 := E_b40.wr W59
  replace F_value_b40 := F_value_b40.other W59 (Or.inl ne_b40_b41)
  replace F_coder_b40 := F_coder_b40.other W59 (Or.inl ne_b40_b41)
  replace Z0 := Nat.le_trans Z0 (Keep.of_wr W59).1
  replace KK := KK.wr W59 (Or.inr sz_b41)
  have V_b41 : Arv Z h59 b41 k41 .char (11 : Int32) [(.int ((atv cs1 0 (0 : Int32) p2 p3).toUInt32.toUInt16.toUInt32.toInt32)), (.int ((atv cs1 1 (1 : Int32) p2 p3).toUInt32.toUInt16.toUInt32.toInt32)), (.int ((atv cs1 2 (2 : Int32) p2 p3).toUInt32.toUInt16.toUInt32.toInt32)), (.int ((atv cs1 3 (3 : Int32) p2 p3).toUInt32.toUInt16.toUInt32.toInt32)), (.int ((atv cs1 4 (4 : Int32) p2 p3).toUInt32.toUInt16.toUInt32.toInt32)), (.int ((atv cs1 5 (5 : Int32) p2 p3).toUInt32.toUInt16.toUInt32.toInt32)), (.int (0 : Int32)), (.int (0 : Int32)), (.int (0 : Int32)), (.int (0 : Int32)), (.int (0 : Int32))] (.int (0 : Int32)) := Arv.set Ar58 q58 Sz58 Nn58 Hh58 Gg58 (fits_nar_char _) W59 5 rfl (Nat.le_of_ble_eq_true rfl)
  have N59 := Fr.snoc X59 N57 g_b41
  obtain ⟨_, _, ⟨T60, L60, k60, n60⟩, -, X60, ⟨Lc60, hQ60, l60, y60, z60⟩, st60⟩ := Jvm.LawKit.callS X59 hx (y := mn2) hown (mvT hZ (ww hw 15 rfl)) (mvT hZ (ww hw 16 rfl)) (mvT hZ (ww hw 11 rfl)) (mvT hZ (ww hw 17 rfl)) (by decide) (backOf (W := 5) (rm2 l Z a0 hw [] a1 (6 : Int32) p2 p3 t1 k1 N1 vs1 cs1 6 w_COMPACT_STRINGS fm h59 n0 Z0 S_COMPACT_STRINGS hz S_SIOOBE_FORMATTER rf hcd hr hl rfl (by decide) E_a1 F_coder_a1 F_value_a1 V_t1) hZ (ww hw 17 rfl) (ww hw 11 rfl) (by decide) (by decide)) (g := (mkF m 208 #[.val (.ref a1), .val (.int p2), .val (.int p3), .val (.int (11 : Int32))] [(.int p3), (.int p2), (.int (6 : Int32)), (.ref a1), (.int (6 : Int32)), (.ref b41), (.ref b41), (.ref b40), (.ref b40)])) rfl (by rw [hml]; rfl) (argsL := [(.ref a1), (.int (6 : Int32)), (.int p2), (.int p3)]) (rest := [(.int (6 : Int32)), (.ref b41), (.ref b41), (.ref b40), (.ref b40)]) (lenOf pd_2 rfl) rfl (by show 2 * 0 + _ ≤ _; exact Nat.le_of_eq rfl) (hb hby d1_208) (fun _ _ => ⟨rfl, e59, (by decide : 2 + 0 ≤ _), (by decide : 15 + 0 ≤ _)⟩)
  dsimp only [Pt.U, Pt.locs, Pt.cells, Pt.slots] at X60 l60 y60 z60 st60 hQ60
  rw [l60, y60, z60] at X60
  obtain ⟨rfl, N60q, e60⟩ := hQ60
  have q60 : f2 a1 (6 : Int32) p2 p3 t1 k1 N1 vs1 cs1 6 w_COMPACT_STRINGS fm = (atv cs1 6 (6 : Int32) p2 p3) := rfl
  rw [q60] at st60
  have N60 := Fr.app N59 N60q
  obtain ⟨cl61, Ar61, q61, Sz61, Nn61, Hh61, Gg61⟩ := V_b41
  have hin61 : ¬ ((6 : Int32) < 0 ∨ cl61.slots.size ≤ ((6 : Int32)).toNatClampNeg) := inb_of Sz61 ⟨by decide, by decide⟩
  obtain ⟨T62, h62, X62, e62, W62, st62⟩ := stC X60 hx hZ e60 Ar61 (j := (6 : Int32)) hin61 (g := (mkF m 211 #[.val (.ref a1), .val (.int p2), .val (.int p3), .val (.int (11 : Int32))] [(.int (atv cs1 6 (6 : Int32) p2 p3)), (.int (6 : Int32)), (.ref b41), (.ref b41), (.ref b40), (.ref b40)])) rfl rfl (hb hby d1_211)
  replace E_a1 := E_a1.wr W62
  replace F_coder_a1 := F_coder_a1.other W62 (Or.inl ne_a1_b41)
  replace F_value_a1 := F_value_a1.other W62 (Or.inl ne_a1_b41)
  replace V_t1 := V_t1.other W62 ne_t1_b41
  replace S_COMPACT_STRINGS := S_COMPACT_STRINGS.wr W62
  replace S_SIOOBE_FORMATTER := S_SIOOBE_FORMATTER.wr W62
  replace E_b40 := E_b40.wr W62
  replace F_value_b40 := F_value_b40.other W62 (Or.inl ne_b40_b41)
  replace F_coder_b40 := F_coder_b40.other W62 (Or.inl ne_b40_b41)
  replace Z0 := Nat.le_trans Z0 (Keep.of_wr W62).1
  replace KK := KK.wr W62 (Or.inr sz_b41)
  have V_b41 : Arv Z h62 b41 k41 .char (11 : Int32) [(.int ((atv cs1 0 (0 : Int32) p2 p3).toUInt32.toUInt16.toUInt32.toInt32)), (.int ((atv cs1 1 (1 : Int32) p2 p3).toUInt32.toUInt16.toUInt32.toInt32)), (.int ((atv cs1 2 (2 : Int32) p2 p3).toUInt32.toUInt16.toUInt32.toInt32)), (.int ((atv cs1 3 (3 : Int32) p2 p3).toUInt32.toUInt16.toUInt32.toInt32)), (.int ((atv cs1 4 (4 : Int32) p2 p3).toUInt32.toUInt16.toUInt32.toInt32)), (.int ((atv cs1 5 (5 : Int32) p2 p3).toUInt32.toUInt16.toUInt32.toInt32)), (.int ((atv cs1 6 (6 : Int32) p2 p3).toUInt32.toUInt16.toUInt32.toInt32)), (.int (0 : Int32)), (.int (0 : Int32)), (.int (0 : Int32)), (.int (0 : Int32))] (.int (0 : Int32)) := Arv.set Ar61 q61 Sz61 Nn61 Hh61 Gg61 (fits_nar_char _) W62 6 rfl (Nat.le_of_ble_eq_true rfl)
  have N62 := Fr.snoc X62 N60 g_b41
  obtain ⟨_, _, ⟨T63, L63, k63, n63⟩, -, X63, ⟨Lc63, hQ63, l63, y63, z63⟩, st63⟩ := Jvm.LawKit.callS X62 hx (y := mn2) hown (mvT hZ (ww hw 15 rfl)) (mvT hZ (ww hw 16 rfl)) (mvT hZ (ww hw 11 rfl)) (mvT hZ (ww hw 17 rfl)) (by decide) (backOf (W := 5) (rm2 l Z a0 hw [] a1 (7 : Int32) p2 p3 t1 k1 N1 vs1 cs1 7 w_COMPACT_STRINGS fm h62 n0 Z0 S_COMPACT_STRINGS hz S_SIOOBE_FORMATTER rf hcd hr hl rfl (by decide) E_a1 F_coder_a1 F_value_a1 V_t1) hZ (ww hw 17 rfl) (ww hw 11 rfl) (by decide) (by decide)) (g := (mkF m 220 #[.val (.ref a1), .val (.int p2), .val (.int p3), .val (.int (11 : Int32))] [(.int p3), (.int p2), (.int (7 : Int32)), (.ref a1), (.int (7 : Int32)), (.ref b41), (.ref b41), (.ref b40), (.ref b40)])) rfl (by rw [hml]; rfl) (argsL := [(.ref a1), (.int (7 : Int32)), (.int p2), (.int p3)]) (rest := [(.int (7 : Int32)), (.ref b41), (.ref b41), (.ref b40), (.ref b40)]) (lenOf pd_2 rfl) rfl (by show 2 * 0 + _ ≤ _; exact Nat.le_of_eq rfl) (hb hby d1_220) (fun _ _ => ⟨rfl, e62, (by decide : 2 + 0 ≤ _), (by decide : 15 + 0 ≤ _)⟩)
  dsimp only [Pt.U, Pt.locs, Pt.cells, Pt.slots] at X63 l63 y63 z63 st63 hQ63
  rw [l63, y63, z63] at X63
  obtain ⟨rfl, N63q, e63⟩ := hQ63
  have q63 : f2 a1 (7 : Int32) p2 p3 t1 k1 N1 vs1 cs1 7 w_COMPACT_STRINGS fm = (atv cs1 7 (7 : Int32) p2 p3) := rfl
  rw [q63] at st63
  have N63 := Fr.app N62 N63q
  obtain ⟨cl64, Ar64, q64, Sz64, Nn64, Hh64, Gg64⟩ := V_b41
  have hin64 : ¬ ((7 : Int32) < 0 ∨ cl64.slots.size ≤ ((7 : Int32)).toNatClampNeg) := inb_of Sz64 ⟨by decide, by decide⟩
  obtain ⟨T65, h65, X65, e65, W65, st65⟩ := stC X63 hx hZ e63 Ar64 (j := (7 : Int32)) hin64 (g := (mkF m 223 #[.val (.ref a1), .val (.int p2), .val (.int p3), .val (.int (11 : Int32))] [(.int (atv cs1 7 (7 : Int32) p2 p3)), (.int (7 : Int32)), (.ref b41), (.ref b41), (.ref b40), (.ref b40)])) rfl rfl (hb hby d1_223)
  replace E_a1 := E_a1.wr W65
  replace F_coder_a1 := F_coder_a1.other W65 (Or.inl ne_a1_b41)
  replace F_value_a1 := F_value_a1.other W65 (Or.inl ne_a1_b41)
  replace V_t1 := V_t1.other W65 ne_t1_b41
  replace S_COMPACT_STRINGS := S_COMPACT_STRINGS.wr W65
  replace S_SIOOBE_FORMATTER := S_SIOOBE_FORMATTER.wr W65
  replace E_b40 := E_b40.wr W65
  replace F_value_b40 := F_value_b40.other W65 (Or.inl ne_b40_b41)
  replace F_coder_b40 := F_coder_b40.other W65 (Or.inl ne_b40_b41)
  replace Z0 := Nat.le_trans Z0 (Keep.of_wr W65).1
  replace KK := KK.wr W65 (Or.inr sz_b41)
  have V_b41 : Arv Z h65 b41 k41 .char (11 : Int32) [(.int ((atv cs1 0 (0 : Int32) p2 p3).toUInt32.toUInt16.toUInt32.toInt32)), (.int ((atv cs1 1 (1 : Int32) p2 p3).toUInt32.toUInt16.toUInt32.toInt32)), (.int ((atv cs1 2 (2 : Int32) p2 p3).toUInt32.toUInt16.toUInt32.toInt32)), (.int ((atv cs1 3 (3 : Int32) p2 p3).toUInt32.toUInt16.toUInt32.toInt32)), (.int ((atv cs1 4 (4 : Int32) p2 p3).toUInt32.toUInt16.toUInt32.toInt32)), (.int ((atv cs1 5 (5 : Int32) p2 p3).toUInt32.toUInt16.toUInt32.toInt32)), (.int ((atv cs1 6 (6 : Int32) p2 p3).toUInt32.toUInt16.toUInt32.toInt32)), (.int ((atv cs1 7 (7 : Int32) p2 p3).toUInt32.toUInt16.toUInt32.toInt32)), (.int (0 : Int32)), (.int (0 : Int32)), (.int (0 : Int32))] (.int (0 : Int32)) := Arv.set Ar64 q64 Sz64 Nn64 Hh64 Gg64 (fits_nar_char _) W65 7 rfl (Nat.le_of_ble_eq_true rfl)
  have N65 := Fr.snoc X65 N63 g_b41
  obtain ⟨_, _, ⟨T66, L66, k66, n66⟩, -, X66, ⟨Lc66, hQ66, l66, y66, z66⟩, st66⟩ := Jvm.LawKit.callS X65 hx (y := mn2) hown (mvT hZ (ww hw 15 rfl)) (mvT hZ (ww hw 16 rfl)) (mvT hZ (ww hw 11 rfl)) (mvT hZ (ww hw 17 rfl)) (by decide) (backOf (W := 5) (rm2 l Z a0 hw [] a1 (8 : Int32) p2 p3 t1 k1 N1 vs1 cs1 8 w_COMPACT_STRINGS fm h65 n0 Z0 S_COMPACT_STRINGS hz S_SIOOBE_FORMATTER rf hcd hr hl rfl (by decide) E_a1 F_coder_a1 F_value_a1 V_t1) hZ (ww hw 17 rfl) (ww hw 11 rfl) (by decide) (by decide)) (g := (mkF m 232 #[.val (.ref a1), .val (.int p2), .val (.int p3), .val (.int (11 : Int32))] [(.int p3), (.int p2), (.int (8 : Int32)), (.ref a1), (.int (8 : Int32)), (.ref b41), (.ref b41), (.ref b40), (.ref b40)])) rfl (by rw [hml]; rfl) (argsL := [(.ref a1), (.int (8 : Int32)), (.int p2), (.int p3)]) (rest := [(.int (8 : Int32)), (.ref b41), (.ref b41), (.ref b40), (.ref b40)]) (lenOf pd_2 rfl) rfl (by show 2 * 0 + _ ≤ _; exact Nat.le_of_eq rfl) (hb hby d1_232) (fun _ _ => ⟨rfl, e65, (by decide : 2 + 0 ≤ _), (by decide : 15 + 0 ≤ _)⟩)
  dsimp only [Pt.U, Pt.locs, Pt.cells, Pt.slots] at X66 l66 y66 z66 st66 hQ66
  rw [l66, y66, z66] at X66
  obtain ⟨rfl, N66q, e66⟩ := hQ66
  have q66 : f2 a1 (8 : Int32) p2 p3 t1 k1 N1 vs1 cs1 8 w_COMPACT_STRINGS fm = (atv cs1 8 (8 : Int32) p2 p3) := rfl
  rw [q66] at st66
  have N66 := Fr.app N65 N66q
  obtain ⟨cl67, Ar67, q67, Sz67, Nn67, Hh67, Gg67⟩ := V_b41
  have hin67 : ¬ ((8 : Int32) < 0 ∨ cl67.slots.size ≤ ((8 : Int32)).toNatClampNeg) := inb_of Sz67 ⟨by decide, by decide⟩
  obtain ⟨T68, h68, X68, e68, W68, st68⟩ := stC X66 hx hZ e66 Ar67 (j := (8 : Int32)) hin67 (g := (mkF m 235 #[.val (.ref a1), .val (.int p2), .val (.int p3), .val (.int (11 : Int32))] [(.int (atv cs1 8 (8 : Int32) p2 p3)), (.int (8 : Int32)), (.ref b41), (.ref b41), (.ref b40), (.ref b40)])) rfl rfl (hb hby d1_235)
  replace E_a1 := E_a1.wr W68
  replace F_coder_a1 := F_coder_a1.other W68 (Or.inl ne_a1_b41)
  replace F_value_a1 := F_value_a1.other W68 (Or.inl ne_a1_b41)
  replace V_t1 := V_t1.other W68 ne_t1_b41
  replace S_COMPACT_STRINGS := S_COMPACT_STRINGS.wr W68
  replace S_SIOOBE_FORMATTER := S_SIOOBE_FORMATTER.wr W68
  replace E_b40 := E_b40.wr W68
  replace F_value_b40 := F_value_b40.other W68 (Or.inl ne_b40_b41)
  replace F_coder_b40 := F_coder_b40.other W68 (Or.inl ne_b40_b41)
  replace Z0 := Nat.le_trans Z0 (Keep.of_wr W68).1
  replace KK := KK.wr W68 (Or.inr sz_b41)
  have V_b41 : Arv Z h68 b41 k41 .char (11 : Int32) [(.int ((atv cs1 0 (0 : Int32) p2 p3).toUInt32.toUInt16.toUInt32.toInt32)), (.int ((atv cs1 1 (1 : Int32) p2 p3).toUInt32.toUInt16.toUInt32.toInt32)), (.int ((atv cs1 2 (2 : Int32) p2 p3).toUInt32.toUInt16.toUInt32.toInt32)), (.int ((atv cs1 3 (3 : Int32) p2 p3).toUInt32.toUInt16.toUInt32.toInt32)), (.int ((atv cs1 4 (4 : Int32) p2 p3).toUInt32.toUInt16.toUInt32.toInt32)), (.int ((atv cs1 5 (5 : Int32) p2 p3).toUInt32.toUInt16.toUInt32.toInt32)), (.int ((atv cs1 6 (6 : Int32) p2 p3).toUInt32.toUInt16.toUInt32.toInt32)), (.int ((atv cs1 7 (7 : Int32) p2 p3).toUInt32.toUInt16.toUInt32.toInt32)), (.int ((atv cs1 8 (8 : Int32) p2 p3).toUInt32.toUInt16.toUInt32.toInt32)), (.int (0 : Int32)), (.int (0 : Int32))] (.int (0 : Int32)) := Arv.set Ar67 q67 Sz67 Nn67 Hh67 Gg67 (fits_nar_char _) W68 8 rfl (Nat.le_of_ble_eq_true rfl)
  have N68 := Fr.snoc X68 N66 g_b41
  obtain ⟨_, _, ⟨T69, L69, k69, n69⟩, -, X69, ⟨Lc69, hQ69, l69, y69, z69⟩, st69⟩ := Jvm.LawKit.callS X68 hx (y := mn2) hown (mvT hZ (ww hw 15 rfl)) (mvT hZ (ww hw 16 rfl)) (mvT hZ (ww hw 11 rfl)) (mvT hZ (ww hw 17 rfl)) (by decide) (backOf (W := 5) (rm2 l Z a0 hw [] a1 (9 : Int32) p2 p3 t1 k1 N1 vs1 cs1 9 w_COMPACT_STRINGS fm h68 n0 Z0 S_COMPACT_STRINGS hz S_SIOOBE_FORMATTER rf hcd hr hl rfl (by decide) E_a1 F_coder_a1 F_value_a1 V_t1) hZ (ww hw 17 rfl) (ww hw 11 rfl) (by decide) (by decide)) (g := (mkF m 244 #[.val (.ref a1), .val (.int p2), .val (.int p3), .val (.int (11 : Int32))] [(.int p3), (.int p2), (.int (9 : Int32)), (.ref a1), (.int (9 : Int32)), (.ref b41), (.ref b41), (.ref b40), (.ref b40)])) rfl (by rw [hml]; rfl) (argsL := [(.ref a1), (.int (9 : Int32)), (.int p2), (.int p3)]) (rest := [(.int (9 : Int32)), (.ref b41), (.ref b41), (.ref b40), (.ref b40)]) (lenOf pd_2 rfl) rfl (by show 2 * 0 + _ ≤ _; exact Nat.le_of_eq rfl) (hb hby d1_244) (fun _ _ => ⟨rfl, e68, (by decide : 2 + 0 ≤ _), (by decide : 15 + 0 ≤ _)⟩)
  dsimp only [Pt.U, Pt.locs, Pt.cells, Pt.slots] at X69 l69 y69 z69 st69 hQ69
  rw [l69, y69, z69] at X69
  obtain ⟨rfl, N69q, e69⟩ := hQ69
  have q69 : f2 a1 (9 : Int32) p2 p3 t1 k1 N1 vs1 cs1 9 w_COMPACT_STRINGS fm = (atv cs1 9 (9 : Int32) p2 p3) := rfl
  rw [q69] at st69
  have N69 := Fr.app N68 N69q
  obtain ⟨cl70, Ar70, q70, Sz70, Nn70, Hh70, Gg70⟩ := V_b41
  have hin70 : ¬ ((9 : Int32) < 0 ∨ cl70.slots.size ≤ ((9 : Int32)).toNatClampNeg) := inb_of Sz70 ⟨by decide, by decide⟩
  obtain ⟨T71, h71, X71, e71, W71, st71⟩ := stC X69 hx hZ e69 Ar70 (j := (9 : Int32)) hin70 (g := (mkF m 247 #[.val (.ref a1), .val (.int p2), .val (.int p3), .val (.int (11 : Int32))] [(.int (atv cs1 9 (9 : Int32) p2 p3)), (.int (9 : Int32)), (.ref b41), (.ref b41), (.ref b40), (.ref b40)])) rfl rfl (hb hby d1_247)
  replace E_a1 := E_a1.wr W71
  replace F_coder_a1 := F_coder_a1.other W71 (Or.inl ne_a1_b41)
  replace F_value_a1 := F_value_a1.other W71 (Or.inl ne_a1_b41)
  replace V_t1 := V_t1.other W71 ne_t1_b41
  replace S_COMPACT_STRINGS := S_COMPACT_STRINGS.wr W71
  replace S_SIOOBE_FORMATTER := S_SIOOBE_FORMATTER.wr W71
  replace E_b40 := E_b40.wr W71
  replace F_value_b40 := F_value_b40.other W71 (Or.inl ne_b40_b41)
  replace F_coder_b40 := F_coder_b40.other W71 (Or.inl ne_b40_b41)
  replace Z0 := Nat.le_trans Z0 (Keep.of_wr W71).1
  replace KK := KK.wr W71 (Or.inr sz_b41)
  have V_b41 : Arv Z h71 b41 k41 .char (11 : Int32) [(.int ((atv cs1 0 (0 : Int32) p2 p3).toUInt32.toUInt16.toUInt32.toInt32)), (.int ((atv cs1 1 (1 : Int32) p2 p3).toUInt32.toUInt16.toUInt32.toInt32)), (.int ((atv cs1 2 (2 : Int32) p2 p3).toUInt32.toUInt16.toUInt32.toInt32)), (.int ((atv cs1 3 (3 : Int32) p2 p3).toUInt32.toUInt16.toUInt32.toInt32)), (.int ((atv cs1 4 (4 : Int32) p2 p3).toUInt32.toUInt16.toUInt32.toInt32)), (.int ((atv cs1 5 (5 : Int32) p2 p3).toUInt32.toUInt16.toUInt32.toInt32)), (.int ((atv cs1 6 (6 : Int32) p2 p3).toUInt32.toUInt16.toUInt32.toInt32)), (.int ((atv cs1 7 (7 : Int32) p2 p3).toUInt32.toUInt16.toUInt32.toInt32)), (.int ((atv cs1 8 (8 : Int32) p2 p3).toUInt32.toUInt16.toUInt32.toInt32)), (.int ((atv cs1 9 (9 : Int32) p2 p3).toUInt32.toUInt16.toUInt32.toInt32)), (.int (0 : Int32))] (.int (0 : Int32)) := Arv.set Ar70 q70 Sz70 Nn70 Hh70 Gg70 (fits_nar_char _) W71 9 rfl (Nat.le_of_ble_eq_true rfl)
  have N71 := Fr.snoc X71 N69 g_b41
  obtain ⟨_, _, ⟨T72, L72, k72, n72⟩, -, X72, ⟨Lc72, hQ72, l72, y72, z72⟩, st72⟩ := Jvm.LawKit.callS X71 hx (y := mn2) hown (mvT hZ (ww hw 15 rfl)) (mvT hZ (ww hw 16 rfl)) (mvT hZ (ww hw 11 rfl)) (mvT hZ (ww hw 17 rfl)) (by decide) (backOf (W := 5) (rm2 l Z a0 hw [] a1 (10 : Int32) p2 p3 t1 k1 N1 vs1 cs1 10 w_COMPACT_STRINGS fm h71 n0 Z0 S_COMPACT_STRINGS hz S_SIOOBE_FORMATTER rf hcd hr hl rfl (by decide) E_a1 F_coder_a1 F_value_a1 V_t1) hZ (ww hw 17 rfl) (ww hw 11 rfl) (by decide) (by decide)) (g := (mkF m 256 #[.val (.ref a1), .val (.int p2), .val (.int p3), .val (.int (11 : Int32))] [(.int p3), (.int p2), (.int (10 : Int32)), (.ref a1), (.int (10 : Int32)), (.ref b41), (.ref b41), (.ref b40), (.ref b40)])) rfl (by rw [hml]; rfl) (argsL := [(.ref a1), (.int (10 : Int32)), (.int p2), (.int p3)]) (rest := [(.int (10 : Int32)), (.ref b41), (.ref b41), (.ref b40), (.ref b40)]) (lenOf pd_2 rfl) rfl (by show 2 * 0 + _ ≤ _; exact Nat.le_of_eq rfl) (hb hby d1_256) (fun _ _ => ⟨rfl, e71, (by decide : 2 + 0 ≤ _), (by decide : 15 + 0 ≤ _)⟩)
  dsimp only [Pt.U, Pt.locs, Pt.cells, Pt.slots] at X72 l72 y72 z72 st72 hQ72
  rw [l72, y72, z72] at X72
  obtain ⟨rfl, N72q, e72⟩ := hQ72
  have q72 : f2 a1 (10 : Int32) p2 p3 t1 k1 N1 vs1 cs1 10 w_COMPACT_STRINGS fm = (atv cs1 10 (10 : Int32) p2 p3) := rfl
  rw [q72] at st72
  have N72 := Fr.app N71 N72q
  obtain ⟨cl73, Ar73, q73, Sz73, Nn73, Hh73, Gg73⟩ := V_b41
  have hin73 : ¬ ((10 : Int32) < 0 ∨ cl73.slots.size ≤ ((10 : Int32)).toNatClampNeg) := inb_of Sz73 ⟨by decide, by decide⟩
  obtain ⟨T74, h74, X74, e74, W74, st74⟩ := stC X72 hx hZ e72 Ar73 (j := (10 : Int32)) hin73 (g := (mkF m 259 #[.val (.ref a1), .val (.int p2), .val (.int p3), .val (.int (11 : Int32))] [(.int (atv cs1 10 (10 : Int32) p2 p3)), (.int (10 : Int32)), (.ref b41), (.ref b41), (.ref b40), (.ref b40)])) rfl rfl (hb hby d1_259)
  replace E_a1 := E_a1.wr W74
  replace F_coder_a1 := F_coder_a1.other W74 (Or.inl ne_a1_b41)
  replace F_value_a1 := F_value_a1.other W74 (Or.inl ne_a1_b41)
  replace V_t1 := V_t1.other W74 ne_t1_b41
  replace S_COMPACT_STRINGS := S_COMPACT_STRINGS.wr W74
  replace S_SIOOBE_FORMATTER := S_SIOOBE_FORMATTER.wr W74
  replace E_b40 := E_b40.wr W74
  replace F_value_b40 := F_value_b40.other W74 (Or.inl ne_b40_b41)
  replace F_coder_b40 := F_coder_b40.other W74 (Or.inl ne_b40_b41)
  replace Z0 := Nat.le_trans Z0 (Keep.of_wr W74).1
  replace KK := KK.wr W74 (Or.inr sz_b41)
  have V_b41 : Arv Z h74 b41 k41 .char (11 : Int32) [(.int ((atv cs1 0 (0 : Int32) p2 p3).toUInt32.toUInt16.toUInt32.toInt32)), (.int ((atv cs1 1 (1 : Int32) p2 p3).toUInt32.toUInt16.toUInt32.toInt32)), (.int ((atv cs1 2 (2 : Int32) p2 p3).toUInt32.toUInt16.toUInt32.toInt32)), (.int ((atv cs1 3 (3 : Int32) p2 p3).toUInt32.toUInt16.toUInt32.toInt32)), (.int ((atv cs1 4 (4 : Int32) p2 p3).toUInt32.toUInt16.toUInt32.toInt32)), (.int ((atv cs1 5 (5 : Int32) p2 p3).toUInt32.toUInt16.toUInt32.toInt32)), (.int ((atv cs1 6 (6 : Int32) p2 p3).toUInt32.toUInt16.toUInt32.toInt32)), (.int ((atv cs1 7 (7 : Int32) p2 p3).toUInt32.toUInt16.toUInt32.toInt32)), (.int ((atv cs1 8 (8 : Int32) p2 p3).toUInt32.toUInt16.toUInt32.toInt32)), (.int ((atv cs1 9 (9 : Int32) p2 p3).toUInt32.toUInt16.toUInt32.toInt32)), (.int ((atv cs1 10 (10 : Int32) p2 p3).toUInt32.toUInt16.toUInt32.toInt32))] (.int (0 : Int32)) := Arv.set Ar73 q73 Sz73 Nn73 Hh73 Gg73 (fits_nar_char _) W74 10 rfl (Nat.le_of_ble_eq_true rfl)
  have N74 := Fr.snoc X74 N72 g_b41
  obtain ⟨_, _, ⟨T75, L75, k75, n75⟩, -, X75, ⟨Lc75, hQ75, l75, y75, z75⟩, st75⟩ := X74.specialBack hx (y := mn3) rfl hown (mvT hZ (ww hw 53 rfl)) (mvT hZ (ww hw 54 rfl)) (mvT hZ (ww hw 55 rfl)) (by decide) (StrChars.Road.backV (W := 1) hZ hws (kI := 4) (ww hw 2 rfl) (cs := (mkl cs1 p2 p3 11)) (bs := (mkl cs1 p2 p3 11).map StrChars.lo8) (n := 11) g_b40 Z0 E_b40 F_value_b40 F_coder_b40 V_b41 S_COMPACT_STRINGS hz (own_mklen cs1 p2 p3 11) rfl (by decide) (by decide) (own_mkr hr hc 11) rfl (by decide) (by decide)) (g := (mkF m 260 #[.val (.ref a1), .val (.int p2), .val (.int p3), .val (.int (11 : Int32))] [(.ref b41), (.ref b40), (.ref b40)])) rfl (by rw [hml]; rfl) (Steps.refl _) (a := b40) (argsL := [(.ref b41)]) (rest := [(.ref b40)]) (lenOf pd_3 rfl) rfl (by show 2 * 0 + _ ≤ _; exact Nat.le_of_eq rfl) (hb hby d1_260) (fun _ _ => ⟨rfl, e74, (by decide : 2 + 1 ≤ _), (by decide : 15 + 11 ≤ _)⟩)
  dsimp only [Pt.U, Pt.locs, Pt.cells, Pt.slots] at X75 l75 y75 z75 st75 hQ75
  rw [l75, y75, z75] at X75
  obtain ⟨h75, e75⟩ : ∃ z, T75.heap = z := ⟨_, rfl⟩
  rw [e75] at hQ75
  obtain ⟨rfl, N75q, K75, G75E, G75C, B75, kb75, -, szn75, -, G75V, G75A⟩ := hQ75
  have g_B75 : n0 ≤ B75 := Nat.le_trans Z0 szn75
  have sz_B75 : h0.size ≤ B75 := Nat.le_trans KK.1 szn75
  have ne_a1_B75 : a1 ≠ B75 := Nat.ne_of_lt (Nat.lt_of_lt_of_le E_a1.lt szn75)
  have ne_t1_B75 : t1 ≠ B75 := Nat.ne_of_lt (Nat.lt_of_lt_of_le V_t1.lt szn75)
  have ne_b40_B75 : b40 ≠ B75 := Nat.ne_of_lt (Nat.lt_of_lt_of_le E_b40.lt szn75)
  have ne_b41_B75 : b41 ≠ B75 := Nat.ne_of_lt (Nat.lt_of_lt_of_le V_b41.lt szn75)
  replace S_COMPACT_STRINGS := own_stakeep S_COMPACT_STRINGS K75 (nsS (Exa.nostat E_b40) ns0)
  replace S_SIOOBE_FORMATTER := own_stakeep S_SIOOBE_FORMATTER K75 (nsS (Exa.nostat E_b40) ns0)
  replace E_a1 := E_a1.keep K75
  replace F_coder_a1 := F_coder_a1.keep K75 (ninS ne_a1_b40 nin0)
  replace F_value_a1 := F_value_a1.keep K75 (ninS ne_a1_b40 nin0)
  replace V_t1 := V_t1.keep K75 (ninS ne_t1_b40 nin0)
  replace E_b40 := E_b40.keep K75
  replace V_b41 := V_b41.keep K75 (ninS (Ne.symm ne_b40_b41) nin0)
  replace Z0 := Nat.le_trans Z0 K75.1
  replace KK := KK.trans K75 (allS (Or.inr sz_b40) all0)
  have F_coder_b40 : Fld Z h75 b40 "java/lang/String" "coder" "B" (.int (0 : Int32)) := G75C
  have F_value_b40 : Fld Z h75 b40 "java/lang/String" "value" "[B" (.ref B75) := G75V
  have V_B75 : Arv Z h75 B75 kb75 .byte (11 : Int32) (((mkl cs1 p2 p3 11).map StrChars.lo8).map Value.int) (.int (0 : Int32)) := G75A
  have N75 := Fr.app N74 N75q
  obtain ⟨fs, hr, hrun, hended, hW, hsame⟩ := X75.leave (v := some (.ref b40)) (fun h => by rw [Bd.returns] at h; cases h)
  refine ⟨_, _, pre0 _ ?_, hrun, hended, _, _, rfl, ?_, ⟨_, rfl⟩, hW, hsame.mono (by decide) (by decide)⟩
  · refine y_iloadN X0 hx hby d1_0 rfl ?_
    refine y_bipush X0 hx hby (v := (10 : Int32)) d1_1 rfl ?_
    refine y_icmpYes X0 hx hby (pc' := 126) d1_3 (feq (by decide)).2 (by decide) (by decide) ?_
    refine y_iloadN X0 hx hby d1_126 rfl ?_
    refine y_bipush X0 hx hby (v := (11 : Int32)) d1_127 rfl ?_
    refine y_icmpNo X0 hx hby d1_129 (teq rfl).2 ?_
    refine st40 _ ?_
    show Steps p.tables e below (T40.setTop (mkF m 135 #[.val (.ref a1), .val (.int p2), .val (.int p3), .val (.int (11 : Int32))] [(.ref b40)])) _
    refine y_dup X40 hx hby d1_135 rfl ?_
    refine y_bipush X40 hx hby (v := (11 : Int32)) d1_136 rfl ?_
    refine st41 _ ?_
    show Steps p.tables e below (T41.setTop (mkF m 140 #[.val (.ref a1), .val (.int p2), .val (.int p3), .val (.int (11 : Int32))] [(.ref b41), (.ref b40), (.ref b40)])) _
    refine y_dup X41 hx hby d1_140 rfl ?_
    refine y_iconst X41 hx hby (v := (0 : Int32)) d1_141 rfl ?_
    refine y_aloadN X41 hx hby d1_142 rfl rfl ?_
    refine y_iconst X41 hx hby (v := (0 : Int32)) d1_143 rfl ?_
    refine y_iloadN X41 hx hby d1_144 rfl ?_
    refine y_iloadN X41 hx hby d1_145 rfl ?_
    refine st42 _ ?_
    show Steps p.tables e below (T42.setTop (mkF m 149 #[.val (.ref a1), .val (.int p2), .val (.int p3), .val (.int (11 : Int32))] [(.int (atv cs1 0 (0 : Int32) p2 p3)), (.int (0 : Int32)), (.ref b41), (.ref b41), (.ref b40), (.ref b40)])) _
    refine st44 _ ?_
    show Steps p.tables e below (T44.setTop (mkF m 150 #[.val (.ref a1), .val (.int p2), .val (.int p3), .val (.int (11 : Int32))] [(.ref b41), (.ref b40), (.ref b40)])) _
    refine y_dup X44 hx hby d1_150 rfl ?_
    refine y_iconst X44 hx hby (v := (1 : Int32)) d1_151 rfl ?_
    refine y_aloadN X44 hx hby d1_152 rfl rfl ?_
    refine y_iconst X44 hx hby (v := (1 : Int32)) d1_153 rfl ?_
    refine y_iloadN X44 hx hby d1_154 rfl ?_
    refine y_iloadN X44 hx hby d1_155 rfl ?_
    refine st45 _ ?_
    show Steps p.tables e below (T45.setTop (mkF m 159 #[.val (.ref a1), .val (.int p2), .val (.int p3), .val (.int (11 : Int32))] [(.int (atv cs1 1 (1 : Int32) p2 p3)), (.int (1 : Int32)), (.ref b41), (.ref b41), (.ref b40), (.ref b40)])) _
    refine st47 _ ?_
    show Steps p.tables e below (T47.setTop (mkF m 160 #[.val (.ref a1), .val (.int p2), .val (.int p3), .val (.int (11 : Int32))] [(.ref b41), (.ref b40), (.ref b40)])) _
    refine y_dup X47 hx hby d1_160 rfl ?_
    refine y_iconst X47 hx hby (v := (2 : Int32)) d1_161 rfl ?_
    refine y_aloadN X47 hx hby d1_162 rfl rfl ?_
    refine y_iconst X47 hx hby (v := (2 : Int32)) d1_163 rfl ?_
    refine y_iloadN X47 hx hby d1_164 rfl ?_
    refine y_iloadN X47 hx hby d1_165 rfl ?_
    refine st48 _ ?_
    show Steps p.tables e below (T48.setTop (mkF m 169 #[.val (.ref a1), .val (.int p2), .val (.int p3), .val (.int (11 : Int32))] [(.int (atv cs1 2 (2 : Int32) p2 p3)), (.int (2 : Int32)), (.ref b41), (.ref b41), (.ref b40), (.ref b40)])) _
    refine st50 _ ?_
    show Steps p.tables e below (T50.setTop (mkF m 170 #[.val (.ref a1), .val (.int p2), .val (.int p3), .val (.int (11 : Int32))] [(.ref b41), (.ref b40), (.ref b40)])) _
    refine y_dup X50 hx hby d1_170 rfl ?_
    refine y_iconst X50 hx hby (v := (3 : Int32)) d1_171 rfl ?_
    refine y_aloadN X50 hx hby d1_172 rfl rfl ?_
    refine y_iconst X50 hx hby (v := (3 : Int32)) d1_173 rfl ?_
    refine y_iloadN X50 hx hby d1_174 rfl ?_
    refine y_iloadN X50 hx hby d1_175 rfl ?_
    refine st51 _ ?_
    show Steps p.tables e below (T51.setTop (mkF m 179 #[.val (.ref a1), .val (.int p2), .val (.int p3), .val (.int (11 : Int32))] [(.int (atv cs1 3 (3 : Int32) p2 p3)), (.int (3 : Int32)), (.ref b41), (.ref b41), (.ref b40), (.ref b40)])) _
    refine st53 _ ?_
    show Steps p.tables e below (T53.setTop (mkF m 180 #[.val (.ref a1), .val (.int p2), .val (.int p3), .val (.int (11 : Int32))] [(.ref b41), (.ref b40), (.ref b40)])) _
    refine y_dup X53 hx hby d1_180 rfl ?_
    refine y_iconst X53 hx hby (v := (4 : Int32)) d1_181 rfl ?_
    refine y_aloadN X53 hx hby d1_182 rfl rfl ?_
    refine y_iconst X53 hx hby (v := (4 : Int32)) d1_183 rfl ?_
    refine y_iloadN X53 hx hby d1_184 rfl ?_
    refine y_iloadN X53 hx hby d1_185 rfl ?_
    refine st54 _ ?_
    show Steps p.tables e below (T54.setTop (mkF m 189 #[.val (.ref a1), .val (.int p2), .val (.int p3), .val (.int (11 : Int32))] [(.int (atv cs1 4 (4 : Int32) p2 p3)), (.int (4 : Int32)), (.ref b41), (.ref b41), (.ref b40), (.ref b40)])) _
    refine st56 _ ?_
    show Steps p.tables e below (T56.setTop (mkF m 190 #[.val (.ref a1), .val (.int p2), .val (.int p3), .val (.int (11 : Int32))] [(.ref b41), (.ref b40), (.ref b40)])) _
    refine y_dup X56 hx hby d1_190 rfl ?_
    refine y_iconst X56 hx hby (v := (5 : Int32)) d1_191 rfl ?_
    refine y_aloadN X56 hx hby d1_192 rfl rfl ?_
    refine y_iconst X56 hx hby (v := (5 : Int32)) d1_193 rfl ?_
    refine y_iloadN X56 hx hby d1_194 rfl ?_
    refine y_iloadN X56 hx hby d1_195 rfl ?_
    refine st57 _ ?_
    show Steps p.tables e below (T57.setTop (mkF m 199 #[.val (.ref a1), .val (.int p2), .val (.int p3), .val (.int (11 : Int32))] [(.int (atv cs1 5 (5 : Int32) p2 p3)), (.int (5 : Int32)), (.ref b41), (.ref b41), (.ref b40), (.ref b40)])) _
    refine st59 _ ?_
    show Steps p.tables e below (T59.setTop (mkF m 200 #[.val (.ref a1), .val (.int p2), .val (.int p3), .val (.int (11 : Int32))] [(.ref b41), (.ref b40), (.ref b40)])) _
    refine y_dup X59 hx hby d1_200 rfl ?_
    refine y_bipush X59 hx hby (v := (6 : Int32)) d1_201 rfl ?_
    refine y_aloadN X59 hx hby d1_203 rfl rfl ?_
    refine y_bipush X59 hx hby (v := (6 : Int32)) d1_204 rfl ?_
    refine y_iloadN X59 hx hby d1_206 rfl ?_
    refine y_iloadN X59 hx hby d1_207 rfl ?_
    refine st60 _ ?_
    show Steps p.tables e below (T60.setTop (mkF m 211 #[.val (.ref a1), .val (.int p2), .val (.int p3), .val (.int (11 : Int32))] [(.int (atv cs1 6 (6 : Int32) p2 p3)), (.int (6 : Int32)), (.ref b41), (.ref b41), (.ref b40), (.ref b40)])) _
    refine st62 _ ?_
    show Steps p.tables e below (T62.setTop (mkF m 212 #[.val (.ref a1), .val (.int p2), .val (.int p3), .val (.int (11 : Int32))] [(.ref b41), (.ref b40), (.ref b40)])) _
    refine y_dup X62 hx hby d1_212 rfl ?_
    refine y_bipush X62 hx hby (v := (7 : Int32)) d1_213 rfl ?_
    refine y_aloadN X62 hx hby d1_215 rfl rfl ?_
    refine y_bipush X62 hx hby (v := (7 : Int32)) d1_216 rfl ?_
    refine y_iloadN X62 hx hby d1_218 rfl ?_
    refine y_iloadN X62 hx hby d1_219 rfl ?_
    refine st63 _ ?_
    show Steps p.tables e below (T63.setTop (mkF m 223 #[.val (.ref a1), .val (.int p2), .val (.int p3), .val (.int (11 : Int32))] [(.int (atv cs1 7 (7 : Int32) p2 p3)), (.int (7 : Int32)), (.ref b41), (.ref b41), (.ref b40), (.ref b40)])) _
    refine st65 _ ?_
    show Steps p.tables e below (T65.setTop (mkF m 224 #[.val (.ref a1), .val (.int p2), .val (.int p3), .val (.int (11 : Int32))] [(.ref b41), (.ref b40), (.ref b40)])) _
    refine y_dup X65 hx hby d1_224 rfl ?_
    refine y_bipush X65 hx hby (v := (8 : Int32)) d1_225 rfl ?_
    refine y_aloadN X65 hx hby d1_227 rfl rfl ?_
    refine y_bipush X65 hx hby (v := (8 : Int32)) d1_228 rfl ?_
    refine y_iloadN X65 hx hby d1_230 rfl ?_
    refine y_iloadN X65 hx hby d1_231 rfl ?_
    refine st66 _ ?_
    show Steps p.tables e below (T66.setTop (mkF m 235 #[.val (.ref a1), .val (.int p2), .val (.int p3), .val (.int (11 : Int32))] [(.int (atv cs1 8 (8 : Int32) p2 p3)), (.int (8 : Int32)), (.ref b41), (.ref b41), (.ref b40), (.ref b40)])) _
    refine st68 _ ?_
    show Steps p.tables e below (T68.setTop (mkF m 236 #[.val (.ref a1), .val (.int p2), .val (.int p3), .val (.int (11 : Int32))] [(.ref b41), (.ref b40), (.ref b40)])) _
    refine y_dup X68 hx hby d1_236 rfl ?_
    refine y_bipush X68 hx hby (v := (9 : Int32)) d1_237 rfl ?_
    refine y_aloadN X68 hx hby d1_239 rfl rfl ?_
    refine y_bipush X68 hx hby (v := (9 : Int32)) d1_240 rfl ?_
    refine y_iloadN X68 hx hby d1_242 rfl ?_
    refine y_iloadN X68 hx hby d1_243 rfl ?_
    refine st69 _ ?_
    show Steps p.tables e below (T69.setTop (mkF m 247 #[.val (.ref a1), .val (.int p2), .val (.int p3), .val (.int (11 : Int32))] [(.int (atv cs1 9 (9 : Int32) p2 p3)), (.int (9 : Int32)), (.ref b41), (.ref b41), (.ref b40), (.ref b40)])) _
    refine st71 _ ?_
    show Steps p.tables e below (T71.setTop (mkF m 248 #[.val (.ref a1), .val (.int p2), .val (.int p3), .val (.int (11 : Int32))] [(.ref b41), (.ref b40), (.ref b40)])) _
    refine y_dup X71 hx hby d1_248 rfl ?_
    refine y_bipush X71 hx hby (v := (10 : Int32)) d1_249 rfl ?_
    refine y_aloadN X71 hx hby d1_251 rfl rfl ?_
    refine y_bipush X71 hx hby (v := (10 : Int32)) d1_252 rfl ?_
    refine y_iloadN X71 hx hby d1_254 rfl ?_
    refine y_iloadN X71 hx hby d1_255 rfl ?_
    refine st72 _ ?_
    show Steps p.tables e below (T72.setTop (mkF m 259 #[.val (.ref a1), .val (.int p2), .val (.int p3), .val (.int (11 : Int32))] [(.int (atv cs1 10 (10 : Int32) p2 p3)), (.int (10 : Int32)), (.ref b41), (.ref b41), (.ref b40), (.ref b40)])) _
    refine st74 _ ?_
    show Steps p.tables e below (T74.setTop (mkF m 260 #[.val (.ref a1), .val (.int p2), .val (.int p3), .val (.int (11 : Int32))] [(.ref b41), (.ref b40), (.ref b40)])) _
    refine st75.trans ?_
    show Steps p.tables e below (T75.setTop (mkF m 263 #[.val (.ref a1), .val (.int p2), .val (.int p3), .val (.int (11 : Int32))] [(.ref b40)])) _
    jvm_step X75.here [X75.here.top, hx, (hb hby d1_263), X75.method', Bd.returns, Value.isRef, FieldType.isReference]
    first | (intro acts; rw [hr _ acts rfl rfl rfl]) | rw [hr _ _ rfl rfl rfl]
    exact Steps.refl _
  · show QM Z _ _ h0 n0 _ T75.heap _
    rw [e75]
    exact ⟨_, _, _, rfl, N75, KK, sz_b40, sz_B75, E_b40, F_coder_b40, F_value_b40, V_B75⟩
theorem d1_264 : decode method_3_code 264 = .ok (.iload_n 3, 1) := by decide +kernel
theorem d1_265 : decode method_3_code 265 = .ok (.bipush 12, 2) := by decide +kernel
theorem d1_267 : decode method_3_code 267 = .ok (.if_icmp .ne 147, 3) := by decide +kernel
theorem d1_270 : decode method_3_code 270 = .ok (.new 8, 3) := by decide +kernel
theorem d1_273 : decode method_3_code 273 = .ok (.dup, 1) := by decide +kernel
theorem d1_274 : decode method_3_code 274 = .ok (.bipush 12, 2) := by decide +kernel
theorem d1_276 : decode method_3_code 276 = .ok (.newarray .char, 2) := by decide +kernel
theorem d1_278 : decode method_3_code 278 = .ok (.dup, 1) := by decide +kernel
theorem d1_279 : decode method_3_code 279 = .ok (.iconst 0, 1) := by decide +kernel
theorem d1_280 : decode method_3_code 280 = .ok (.aload_n 0, 1) := by decide +kernel
theorem d1_281 : decode method_3_code 281 = .ok (.iconst 0, 1) := by decide +kernel
theorem d1_282 : decode method_3_code 282 = .ok (.iload_n 1, 1) := by decide +kernel
theorem d1_283 : decode method_3_code 283 = .ok (.iload_n 2, 1) := by decide +kernel
theorem d1_284 : decode method_3_code 284 = .ok (.invokestatic 17, 3) := by decide +kernel
theorem d1_287 : decode method_3_code 287 = .ok (.castore, 1) := by decide +kernel
theorem d1_288 : decode method_3_code 288 = .ok (.dup, 1) := by decide +kernel
theorem d1_289 : decode method_3_code 289 = .ok (.iconst 1, 1) := by decide +kernel
theorem d1_290 : decode method_3_code 290 = .ok (.aload_n 0, 1) := by decide +kernel
theorem d1_291 : decode method_3_code 291 = .ok (.iconst 1, 1) := by decide +kernel
theorem d1_292 : decode method_3_code 292 = .ok (.iload_n 1, 1) := by decide +kernel
theorem d1_293 : decode method_3_code 293 = .ok (.iload_n 2, 1) := by decide +kernel
theorem d1_294 : decode method_3_code 294 = .ok (.invokestatic 17, 3) := by decide +kernel
theorem d1_297 : decode method_3_code 297 = .ok (.castore, 1) := by decide +kernel
theorem d1_298 : decode method_3_code 298 = .ok (.dup, 1) := by decide +kernel
theorem d1_299 : decode method_3_code 299 = .ok (.iconst 2, 1) := by decide +kernel
theorem d1_300 : decode method_3_code 300 = .ok (.aload_n 0, 1) := by decide +kernel
theorem d1_301 : decode method_3_code 301 = .ok (.iconst 2, 1) := by decide +kernel
theorem d1_302 : decode method_3_code 302 = .ok (.iload_n 1, 1) := by decide +kernel
theorem d1_303 : decode method_3_code 303 = .ok (.iload_n 2, 1) := by decide +kernel
theorem d1_304 : decode method_3_code 304 = .ok (.invokestatic 17, 3) := by decide +kernel
theorem d1_307 : decode method_3_code 307 = .ok (.castore, 1) := by decide +kernel
theorem d1_308 : decode method_3_code 308 = .ok (.dup, 1) := by decide +kernel
theorem d1_309 : decode method_3_code 309 = .ok (.iconst 3, 1) := by decide +kernel
theorem d1_310 : decode method_3_code 310 = .ok (.aload_n 0, 1) := by decide +kernel
theorem d1_311 : decode method_3_code 311 = .ok (.iconst 3, 1) := by decide +kernel
theorem d1_312 : decode method_3_code 312 = .ok (.iload_n 1, 1) := by decide +kernel
theorem d1_313 : decode method_3_code 313 = .ok (.iload_n 2, 1) := by decide +kernel
theorem d1_314 : decode method_3_code 314 = .ok (.invokestatic 17, 3) := by decide +kernel
theorem d1_317 : decode method_3_code 317 = .ok (.castore, 1) := by decide +kernel
theorem d1_318 : decode method_3_code 318 = .ok (.dup, 1) := by decide +kernel
theorem d1_319 : decode method_3_code 319 = .ok (.iconst 4, 1) := by decide +kernel
theorem d1_320 : decode method_3_code 320 = .ok (.aload_n 0, 1) := by decide +kernel
theorem d1_321 : decode method_3_code 321 = .ok (.iconst 4, 1) := by decide +kernel
theorem d1_322 : decode method_3_code 322 = .ok (.iload_n 1, 1) := by decide +kernel
theorem d1_323 : decode method_3_code 323 = .ok (.iload_n 2, 1) := by decide +kernel
theorem d1_324 : decode method_3_code 324 = .ok (.invokestatic 17, 3) := by decide +kernel
theorem d1_327 : decode method_3_code 327 = .ok (.castore, 1) := by decide +kernel
theorem d1_328 : decode method_3_code 328 = .ok (.dup, 1) := by decide +kernel
theorem d1_329 : decode method_3_code 329 = .ok (.iconst 5, 1) := by decide +kernel
theorem d1_330 : decode method_3_code 330 = .ok (.aload_n 0, 1) := by decide +kernel
theorem d1_331 : decode method_3_code 331 = .ok (.iconst 5, 1) := by decide +kernel
theorem d1_332 : decode method_3_code 332 = .ok (.iload_n 1, 1) := by decide +kernel
theorem d1_333 : decode method_3_code 333 = .ok (.iload_n 2, 1) := by decide +kernel
theorem d1_334 : decode method_3_code 334 = .ok (.invokestatic 17, 3) := by decide +kernel
theorem d1_337 : decode method_3_code 337 = .ok (.castore, 1) := by decide +kernel
theorem d1_338 : decode method_3_code 338 = .ok (.dup, 1) := by decide +kernel
theorem d1_339 : decode method_3_code 339 = .ok (.bipush 6, 2) := by decide +kernel
theorem d1_341 : decode method_3_code 341 = .ok (.aload_n 0, 1) := by decide +kernel
theorem d1_342 : decode method_3_code 342 = .ok (.bipush 6, 2) := by decide +kernel
theorem d1_344 : decode method_3_code 344 = .ok (.iload_n 1, 1) := by decide +kernel
theorem d1_345 : decode method_3_code 345 = .ok (.iload_n 2, 1) := by decide +kernel
theorem d1_346 : decode method_3_code 346 = .ok (.invokestatic 17, 3) := by decide +kernel
theorem d1_349 : decode method_3_code 349 = .ok (.castore, 1) := by decide +kernel
theorem d1_350 : decode method_3_code 350 = .ok (.dup, 1) := by decide +kernel
theorem d1_351 : decode method_3_code 351 = .ok (.bipush 7, 2) := by decide +kernel
theorem d1_353 : decode method_3_code 353 = .ok (.aload_n 0, 1) := by decide +kernel
theorem d1_354 : decode method_3_code 354 = .ok (.bipush 7, 2) := by decide +kernel
theorem d1_356 : decode method_3_code 356 = .ok (.iload_n 1, 1) := by decide +kernel
theorem d1_357 : decode method_3_code 357 = .ok (.iload_n 2, 1) := by decide +kernel
theorem d1_358 : decode method_3_code 358 = .ok (.invokestatic 17, 3) := by decide +kernel
theorem d1_361 : decode method_3_code 361 = .ok (.castore, 1) := by decide +kernel
theorem d1_362 : decode method_3_code 362 = .ok (.dup, 1) := by decide +kernel
theorem d1_363 : decode method_3_code 363 = .ok (.bipush 8, 2) := by decide +kernel
theorem d1_365 : decode method_3_code 365 = .ok (.aload_n 0, 1) := by decide +kernel
theorem d1_366 : decode method_3_code 366 = .ok (.bipush 8, 2) := by decide +kernel
theorem d1_368 : decode method_3_code 368 = .ok (.iload_n 1, 1) := by decide +kernel
theorem d1_369 : decode method_3_code 369 = .ok (.iload_n 2, 1) := by decide +kernel
theorem d1_370 : decode method_3_code 370 = .ok (.invokestatic 17, 3) := by decide +kernel
theorem d1_373 : decode method_3_code 373 = .ok (.castore, 1) := by decide +kernel
theorem d1_374 : decode method_3_code 374 = .ok (.dup, 1) := by decide +kernel
theorem d1_375 : decode method_3_code 375 = .ok (.bipush 9, 2) := by decide +kernel
theorem d1_377 : decode method_3_code 377 = .ok (.aload_n 0, 1) := by decide +kernel
theorem d1_378 : decode method_3_code 378 = .ok (.bipush 9, 2) := by decide +kernel
theorem d1_380 : decode method_3_code 380 = .ok (.iload_n 1, 1) := by decide +kernel
theorem d1_381 : decode method_3_code 381 = .ok (.iload_n 2, 1) := by decide +kernel
theorem d1_382 : decode method_3_code 382 = .ok (.invokestatic 17, 3) := by decide +kernel
theorem d1_385 : decode method_3_code 385 = .ok (.castore, 1) := by decide +kernel
theorem d1_386 : decode method_3_code 386 = .ok (.dup, 1) := by decide +kernel
theorem d1_387 : decode method_3_code 387 = .ok (.bipush 10, 2) := by decide +kernel
theorem d1_389 : decode method_3_code 389 = .ok (.aload_n 0, 1) := by decide +kernel
theorem d1_390 : decode method_3_code 390 = .ok (.bipush 10, 2) := by decide +kernel
theorem d1_392 : decode method_3_code 392 = .ok (.iload_n 1, 1) := by decide +kernel
theorem d1_393 : decode method_3_code 393 = .ok (.iload_n 2, 1) := by decide +kernel
theorem d1_394 : decode method_3_code 394 = .ok (.invokestatic 17, 3) := by decide +kernel
theorem d1_397 : decode method_3_code 397 = .ok (.castore, 1) := by decide +kernel
theorem d1_398 : decode method_3_code 398 = .ok (.dup, 1) := by decide +kernel
theorem d1_399 : decode method_3_code 399 = .ok (.bipush 11, 2) := by decide +kernel
theorem d1_401 : decode method_3_code 401 = .ok (.aload_n 0, 1) := by decide +kernel
theorem d1_402 : decode method_3_code 402 = .ok (.bipush 11, 2) := by decide +kernel
theorem d1_404 : decode method_3_code 404 = .ok (.iload_n 1, 1) := by decide +kernel
theorem d1_405 : decode method_3_code 405 = .ok (.iload_n 2, 1) := by decide +kernel
theorem d1_406 : decode method_3_code 406 = .ok (.invokestatic 17, 3) := by decide +kernel
theorem d1_409 : decode method_3_code 409 = .ok (.castore, 1) := by decide +kernel
theorem d1_410 : decode method_3_code 410 = .ok (.invokespecial 23, 3) := by decide +kernel
theorem d1_413 : decode method_3_code 413 = .ok (.areturn, 1) := by decide +kernel
set_option maxRecDepth 65536 in
set_option maxHeartbeats 40000000 in
theorem rm1_12 (l : Launch) (Z : State) (a0 : Array Value) (hw : HW a0 Z) (ws : List Jvm.Cond) (a1 : Addr) (p2 p3 : Int32) (t1 : Addr) (k1 : ClassId) (N1 : Int32) (vs1 : List Value) (cs1 : List Int32) (w_COMPACT_STRINGS : Int32) (fm : Value) (h0 : Heap) (n0 : Nat) (Z0 : n0 ≤ h0.size) (S_COMPACT_STRINGS : Sta Z h0 "java/lang/String" "COMPACT_STRINGS" "Z" (.int w_COMPACT_STRINGS)) (hz : ¬ w_COMPACT_STRINGS = 0) (S_SIOOBE_FORMATTER : Sta Z h0 "jdk/internal/util/Preconditions" "SIOOBE_FORMATTER" "Ljava/util/function/BiFunction;" fm) (rf : fm.isRef = true) (hcd : StrChars.Road.CodA cs1 0 N1 vs1) (hr : RGs cs1) (hl : cs1.length ≤ 4000) (hc : RG p3) (E_a1 : Exa Z h0 a1 "java/lang/String") (F_coder_a1 : Fld Z h0 a1 "java/lang/String" "coder" "B" (.int (0 : Int32))) (F_value_a1 : Fld Z h0 a1 "java/lang/String" "value" "[B" (.ref t1)) (V_t1 : Arv Z h0 t1 k1 .byte N1 vs1 (.int (0 : Int32))) :
    MF l mn4 method_3_code 4 (some (.object "java/lang/String")) ws ({ frames := 5, cells := 3, slots := 28, locals := 73 } : Room) #[(.ref a1), (.int p2), (.int p3), (.int (12 : Int32))] Z h0 (QM Z (mkl cs1 p2 p3 12) (12 : Int32) h0 n0) := by
  refine MetFree.of_bodySF (plainFor_of_name pn_2) hisR ?_
  intro p e s m args below meth c s₁ Bd hml0 hP hK
  obtain ⟨rfl, hZ, hh⟩ := hP
  have hx := Bd.exec
  have hby := Bd.bytes
  have hml : c.maxLocals = 4 := hml0
  have hown : s.vm.findClass "com/example/assay/assay/config/RoleFromJsonNamePinLaw" = some m.cls := findClass_of_methodNamed Bd.named
  have hnm := (name_of_methodNamed Bd.named Bd.method).1
  have X0 : Stand p l e ({ frames := 5, cells := 3, slots := 28, locals := 73 } : Room) s m #[(.ref a1), (.int p2), (.int p3), (.int (12 : Int32))] below meth c s₁ [] 0 0 := Stand.of_body Bd
  have e0 : s₁.heap = h0 := by rw [← hh, Bd.state]; rfl
  have N0 := Fr.nil n0
  have pre0 : GO p e below (s₁.setTop (mkF m 0 #[.val (.ref a1), .val (.int p2), .val (.int p3), .val (.int (12 : Int32))] [])) (s₁.setTop (entryFrame m #[(.ref a1), (.int p2), (.int p3), (.int (12 : Int32))] 4)) := fun t k => castTop (ef_1 m a1 p2 p3 (12 : Int32)) k
  have KK := Keep.refl h0 []
  have hws : ∀ d ∈ StrChars.Road.words, d.before a0 Z = true := fun d hd => hw d ((by decide +kernel : ∀ d ∈ StrChars.Road.words, d ∈ tables_1) d hd)
  obtain ⟨T76, h76, X76, e76, E76, A76, D76, -, st76⟩ := newO X0 hx hZ hown (ww hw 13 rfl) (ww hw 2 rfl) (ww hw 1 rfl) e0 (g := (mkF m 270 #[.val (.ref a1), .val (.int p2), .val (.int p3), .val (.int (12 : Int32))] [])) rfl (hb hby d1_270) (by decide) (by decide)
  obtain ⟨b76, g76⟩ : ∃ z, z = h0.size := ⟨_, rfl⟩
  rw [← g76] at A76 D76 st76
  have g_b76 : n0 ≤ b76 := Nat.le_trans Z0 (Nat.le_of_eq g76.symm)
  have sz_b76 : h0.size ≤ b76 := Nat.le_trans KK.1 (Nat.le_of_eq g76.symm)
  have ne_a1_b76 : a1 ≠ b76 := Nat.ne_of_lt (Nat.lt_of_lt_of_le E_a1.lt (Nat.le_of_eq g76.symm))
  have ne_t1_b76 : t1 ≠ b76 := Nat.ne_of_lt (Nat.lt_of_lt_of_le V_t1.lt (Nat.le_of_eq g76.symm))
  replace E_a1 := E_a1.ext E76
  replace F_coder_a1 := F_coder_a1.ext E76
  replace F_value_a1 := F_value_a1.ext E76
  replace V_t1 := V_t1.ext E76
  replace S_COMPACT_STRINGS := S_COMPACT_STRINGS.ext E76
  replace S_SIOOBE_FORMATTER := S_SIOOBE_FORMATTER.ext E76
  replace Z0 := Nat.le_trans Z0 E76.1
  replace KK := KK.ext E76
  have E_b76 := A76
  have F_value_b76 : Fld Z h76 b76 "java/lang/String" "value" "[B" .null := D76 (Or.inr (ww hw 4 rfl)) (ty := (.array .byte)) (by decide)
  have F_coder_b76 : Fld Z h76 b76 "java/lang/String" "coder" "B" (.int (0 : Int32)) := D76 (Or.inr (ww hw 5 rfl)) (ty := .byte) (by decide)
  obtain ⟨T77, h77, k77, X77, e77, E77, A77, st77⟩ := newP X76 hx hZ (ww hw 14 rfl) e76 (g := (mkF m 276 #[.val (.ref a1), .val (.int p2), .val (.int p3), .val (.int (12 : Int32))] [(.int (12 : Int32)), (.ref b76), (.ref b76)])) rfl (hb hby d1_276) rfl (by decide) (cap := 12) (by decide) (by decide) (by decide) (by decide)
  obtain ⟨b77, g77⟩ : ∃ z, z = h76.size := ⟨_, rfl⟩
  rw [← g77] at A77 st77
  have g_b77 : n0 ≤ b77 := Nat.le_trans Z0 (Nat.le_of_eq g77.symm)
  have sz_b77 : h0.size ≤ b77 := Nat.le_trans KK.1 (Nat.le_of_eq g77.symm)
  have ne_a1_b77 : a1 ≠ b77 := Nat.ne_of_lt (Nat.lt_of_lt_of_le E_a1.lt (Nat.le_of_eq g77.symm))
  have ne_t1_b77 : t1 ≠ b77 := Nat.ne_of_lt (Nat.lt_of_lt_of_le V_t1.lt (Nat.le_of_eq g77.symm))
  have ne_b76_b77 : b76 ≠ b77 := Nat.ne_of_lt (Nat.lt_of_lt_of_le E_b76.lt (Nat.le_of_eq g77.symm))
  replace E_a1 := E_a1.ext E77
  replace F_coder_a1 := F_coder_a1.ext E77
  replace F_value_a1 := F_value_a1.ext E77
  replace V_t1 := V_t1.ext E77
  replace S_COMPACT_STRINGS := S_COMPACT_STRINGS.ext E77
  replace S_SIOOBE_FORMATTER := S_SIOOBE_FORMATTER.ext E77
  replace E_b76 := E_b76.ext E77
  replace F_value_b76 := F_value_b76.ext E77
  replace F_coder_b76 := F_coder_b76.ext E77
  replace Z0 := Nat.le_trans Z0 E77.1
  replace KK := KK.ext E77
  have V_b77 : Arv Z h77 b77 k77 .char (12 : Int32) [(.int (0 : Int32)), (.int (0 : Int32)), (.int (0 : Int32)), (.int (0 : Int32)), (.int (0 : Int32)), (.int (0 : Int32)), (.int (0 : Int32)), (.int (0 : Int32)), (.int (0 : Int32)), (.int (0 : Int32)), (.int (0 : Int32)), (.int (0 : Int32))] (.int (0 : Int32)) := (Arv.new A77 (by decide)).pad (pad_rep [] (.int (0 : Int32)) 12)
  obtain ⟨_, _, ⟨T78, L78, k78, n78⟩, -, X78, ⟨Lc78, hQ78, l78, y78, z78⟩, st78⟩ := Jvm.LawKit.callS X77 hx (y := mn2) hown (mvT hZ (ww hw 15 rfl)) (mvT hZ (ww hw 16 rfl)) (mvT hZ (ww hw 11 rfl)) (mvT hZ (ww hw 17 rfl)) (by decide) (backOf (W := 5) (rm2 l Z a0 hw [] a1 (0 : Int32) p2 p3 t1 k1 N1 vs1 cs1 0 w_COMPACT_STRINGS fm h77 n0 Z0 S_COMPACT_STRINGS hz S_SIOOBE_FORMATTER rf hcd hr hl rfl (by decide) E_a1 F_coder_a1 F_value_a1 V_t1) hZ (ww hw 17 rfl) (ww hw 11 rfl) (by decide) (by decide)) (g := (mkF m 284 #[.val (.ref a1), .val (.int p2), .val (.int p3), .val (.int (12 : Int32))] [(.int p3), (.int p2), (.int (0 : Int32)), (.ref a1), (.int (0 : Int32)), (.ref b77), (.ref b77), (.ref b76), (.ref b76)])) rfl (by rw [hml]; rfl) (argsL := [(.ref a1), (.int (0 : Int32)), (.int p2), (.int p3)]) (rest := [(.int (0 : Int32)), (.ref b77), (.ref b77), (.ref b76), (.ref b76)]) (lenOf pd_2 rfl) rfl (by show 2 * 0 + _ ≤ _; exact Nat.le_of_eq rfl) (hb hby d1_284) (fun _ _ => ⟨rfl, e77, (by decide : 2 + 0 ≤ _), (by decide : 16 + 0 ≤ _)⟩)
  dsimp only [Pt.U, Pt.locs, Pt.cells, Pt.slots] at X78 l78 y78 z78 st78 hQ78
  rw [l78, y78, z78] at X78
  obtain ⟨rfl, N78q, e78⟩ := hQ78
  have q78 : f2 a1 (0 : Int32) p2 p3 t1 k1 N1 vs1 cs1 0 w_COMPACT_STRINGS fm = (atv cs1 0 (0 : Int32) p2 p3) := rfl
  rw [q78] at st78
  have N78 := Fr.app N0 N78q
  obtain ⟨cl79, Ar79, q79, Sz79, Nn79, Hh79, Gg79⟩ := V_b77
  have hin79 : ¬ ((0 : Int32) < 0 ∨ cl79.slots.size ≤ ((0 : Int32)).toNatClampNeg) := inb_of Sz79 ⟨by decide, by decide⟩
  obtain ⟨T80, h80, X80, e80, W80, st80⟩ := stC X78 hx hZ e78 Ar79 (j := (0 : Int32)) hin79 (g := (mkF m 287 #[.val (.ref a1), .val (.int p2), .val (.int p3), .val (.int (12 : Int32))] [(.int (atv cs1 0 (0 : Int32) p2 p3)), (.int (0 : Int32)), (.ref b77), (.ref b77), (.ref b76), (.ref b76)])) rfl rfl (hb hby d1_287)
  replace E_a1 := E_a1.wr W80
  replace F_coder_a1 := F_coder_a1.other W80 (Or.inl ne_a1_b77)
  replace F_value_a1 := F_value_a1.other W80 (Or.inl ne_a1_b77)
  replace V_t1 := V_t1.other W80 ne_t1_b77
  replace S_COMPACT_STRINGS := S_COMPACT_STRINGS.wr W80
  replace S_SIOOBE_FORMATTER := S_SIOOBE_FORMATTER.wr W80
  replace E_b76 := E_b76.wr W80
  replace F_value_b76 := F_value_b76.other W80 (Or.inl ne_b76_b77)
  replace F_coder_b76 := F_coder_b76.other W80 (Or.inl ne_b76_b77)
  replace Z0 := Nat.le_trans Z0 (Keep.of_wr W80).1
  replace KK := KK.wr W80 (Or.inr sz_b77)
  have V_b77 : Arv Z h80 b77 k77 .char (12 : Int32) [(.int ((atv cs1 0 (0 : Int32) p2 p3).toUInt32.toUInt16.toUInt32.toInt32)), (.int (0 : Int32)), (.int (0 : Int32)), (.int (0 : Int32)), (.int (0 : Int32)), (.int (0 : Int32)), (.int (0 : Int32)), (.int (0 : Int32)), (.int (0 : Int32)), (.int (0 : Int32)), (.int (0 : Int32)), (.int (0 : Int32))] (.int (0 : Int32)) := Arv.set Ar79 q79 Sz79 Nn79 Hh79 Gg79 (fits_nar_char _) W80 0 rfl (Nat.le_of_ble_eq_true rfl)
  have N80 := Fr.snoc X80 N78 g_b77
  obtain ⟨_, _, ⟨T81, L81, k81, n81⟩, -, X81, ⟨Lc81, hQ81, l81, y81, z81⟩, st81⟩ := Jvm.LawKit.callS X80 hx (y := mn2) hown (mvT hZ (ww hw 15 rfl)) (mvT hZ (ww hw 16 rfl)) (mvT hZ (ww hw 11 rfl)) (mvT hZ (ww hw 17 rfl)) (by decide) (backOf (W := 5) (rm2 l Z a0 hw [] a1 (1 : Int32) p2 p3 t1 k1 N1 vs1 cs1 1 w_COMPACT_STRINGS fm h80 n0 Z0 S_COMPACT_STRINGS hz S_SIOOBE_FORMATTER rf hcd hr hl rfl (by decide) E_a1 F_coder_a1 F_value_a1 V_t1) hZ (ww hw 17 rfl) (ww hw 11 rfl) (by decide) (by decide)) (g := (mkF m 294 #[.val (.ref a1), .val (.int p2), .val (.int p3), .val (.int (12 : Int32))] [(.int p3), (.int p2), (.int (1 : Int32)), (.ref a1), (.int (1 : Int32)), (.ref b77), (.ref b77), (.ref b76), (.ref b76)])) rfl (by rw [hml]; rfl) (argsL := [(.ref a1), (.int (1 : Int32)), (.int p2), (.int p3)]) (rest := [(.int (1 : Int32)), (.ref b77), (.ref b77), (.ref b76), (.ref b76)]) (lenOf pd_2 rfl) rfl (by show 2 * 0 + _ ≤ _; exact Nat.le_of_eq rfl) (hb hby d1_294) (fun _ _ => ⟨rfl, e80, (by decide : 2 + 0 ≤ _), (by decide : 16 + 0 ≤ _)⟩)
  dsimp only [Pt.U, Pt.locs, Pt.cells, Pt.slots] at X81 l81 y81 z81 st81 hQ81
  rw [l81, y81, z81] at X81
  obtain ⟨rfl, N81q, e81⟩ := hQ81
  have q81 : f2 a1 (1 : Int32) p2 p3 t1 k1 N1 vs1 cs1 1 w_COMPACT_STRINGS fm = (atv cs1 1 (1 : Int32) p2 p3) := rfl
  rw [q81] at st81
  have N81 := Fr.app N80 N81q
  obtain ⟨cl82, Ar82, q82, Sz82, Nn82, Hh82, Gg82⟩ := V_b77
  have hin82 : ¬ ((1 : Int32) < 0 ∨ cl82.slots.size ≤ ((1 : Int32)).toNatClampNeg) := inb_of Sz82 ⟨by decide, by decide⟩
  obtain ⟨T83, h83, X83, e83, W83, st83⟩ := stC X81 hx hZ e81 Ar82 (j := (1 : Int32)) hin82 (g := (mkF m 297 #[.val (.ref a1), .val (.int p2), .val (.int p3), .val (.int (12 : Int32))] [(.int (atv cs1 1 (1 : Int32) p2 p3)), (.int (1 : Int32)), (.ref b77), (.ref b77), (.ref b76), (.ref b76)])) rfl rfl (hb hby d1_297)
  replace E_a1 := E_a1.wr W83
  replace F_coder_a1 := F_coder_a1.other W83 (Or.inl ne_a1_b77)
  replace F_value_a1 := F_value_a1.other W83 (Or.inl ne_a1_b77)
  replace V_t1 := V_t1.other W83 ne_t1_b77
  replace S_COMPACT_STRINGS := S_COMPACT_STRINGS.wr W83
  replace S_SIOOBE_FORMATTER := S_SIOOBE_FORMATTER.wr W83
  replace E_b76 := E_b76.wr W83
  replace F_value_b76 := F_value_b76.other W83 (Or.inl ne_b76_b77)
  replace F_coder_b76 := F_coder_b76.other W83 (Or.inl ne_b76_b77)
  replace Z0 := Nat.le_trans Z0 (Keep.of_wr W83).1
  replace KK := KK.wr W83 (Or.inr sz_b77)
  have V_b77 : Arv Z h83 b77 k77 .char (12 : Int32) [(.int ((atv cs1 0 (0 : Int32) p2 p3).toUInt32.toUInt16.toUInt32.toInt32)), (.int ((atv cs1 1 (1 : Int32) p2 p3).toUInt32.toUInt16.toUInt32.toInt32)), (.int (0 : Int32)), (.int (0 : Int32)), (.int (0 : Int32)), (.int (0 : Int32)), (.int (0 : Int32)), (.int (0 : Int32)), (.int (0 : Int32)), (.int (0 : Int32)), (.int (0 : Int32)), (.int (0 : Int32))] (.int (0 : Int32)) := Arv.set Ar82 q82 Sz82 Nn82 Hh82 Gg82 (fits_nar_char _) W83 1 rfl (Nat.le_of_ble_eq_true rfl)
  have N83 := Fr.snoc X83 N81 g_b77
  obtain ⟨_, _, ⟨T84, L84, k84, n84⟩, -, X84, ⟨Lc84, hQ84, l84, y84, z84⟩, st84⟩ := Jvm.LawKit.callS X83 hx (y := mn2) hown (mvT hZ (ww hw 15 rfl)) (mvT hZ (ww hw 16 rfl)) (mvT hZ (ww hw 11 rfl)) (mvT hZ (ww hw 17 rfl)) (by decide) (backOf (W := 5) (rm2 l Z a0 hw [] a1 (2 : Int32) p2 p3 t1 k1 N1 vs1 cs1 2 w_COMPACT_STRINGS fm h83 n0 Z0 S_COMPACT_STRINGS hz S_SIOOBE_FORMATTER rf hcd hr hl rfl (by decide) E_a1 F_coder_a1 F_value_a1 V_t1) hZ (ww hw 17 rfl) (ww hw 11 rfl) (by decide) (by decide)) (g := (mkF m 304 #[.val (.ref a1), .val (.int p2), .val (.int p3), .val (.int (12 : Int32))] [(.int p3), (.int p2), (.int (2 : Int32)), (.ref a1), (.int (2 : Int32)), (.ref b77), (.ref b77), (.ref b76), (.ref b76)])) rfl (by rw [hml]; rfl) (argsL := [(.ref a1), (.int (2 : Int32)), (.int p2), (.int p3)]) (rest := [(.int (2 : Int32)), (.ref b77), (.ref b77), (.ref b76), (.ref b76)]) (lenOf pd_2 rfl) rfl (by show 2 * 0 + _ ≤ _; exact Nat.le_of_eq rfl) (hb hby d1_304) (fun _ _ => ⟨rfl, e83, (by decide : 2 + 0 ≤ _), (by decide : 16 + 0 ≤ _)⟩)
  dsimp only [Pt.U, Pt.locs, Pt.cells, Pt.slots] at X84 l84 y84 z84 st84 hQ84
  rw [l84, y84, z84] at X84
  obtain ⟨rfl, N84q, e84⟩ := hQ84
  have q84 : f2 a1 (2 : Int32) p2 p3 t1 k1 N1 vs1 cs1 2 w_COMPACT_STRINGS fm = (atv cs1 2 (2 : Int32) p2 p3) := rfl
  rw [q84] at st84
  have N84 := Fr.app N83 N84q
  obtain ⟨cl85, Ar85, q85, Sz85, Nn85, Hh85, Gg85⟩ := V_b77
  have hin85 : ¬ ((2 : Int32) < 0 ∨ cl85.slots.size ≤ ((2 : Int32)).toNatClampNeg) := inb_of Sz85 ⟨by decide, by decide⟩
  obtain ⟨T86, h86, X86, e86, W86, st86⟩ := stC X84 hx hZ e84 Ar85 (j := (2 : Int32)) hin85 (g := (mkF m 307 #[.val (.ref a1), .val (.int p2), .val (.int p3), .val (.int (12 : Int32))] [(.int (atv cs1 2 (2 : Int32) p2 p3)), (.int (2 : Int32)), (.ref b77), (.ref b77), (.ref b76), (.ref b76)])) rfl rfl (hb hby d1_307)
  replace E_a1 := E_a1.wr W86
  replace F_coder_a1 := F_coder_a1.other W86 (Or.inl ne_a1_b77)
  replace F_value_a1 := F_value_a1.other W86 (Or.inl ne_a1_b77)
  replace V_t1 := V_t1.other W86 ne_t1_b77
  replace S_COMPACT_STRINGS := S_COMPACT_STRINGS.wr W86
  replace S_SIOOBE_FORMATTER := S_SIOOBE_FORMATTER.wr W86
  replace E_b76 := E_b76.wr W86
  replace F_value_b76 := F_value_b76.other W86 (Or.inl ne_b76_b77)
  replace F_coder_b76 := F_coder_b76.other W86 (Or.inl ne_b76_b77)
  replace Z0 := Nat.le_trans Z0 (Keep.of_wr W86).1
  replace KK := KK.wr W86 (Or.inr sz_b77)
  have V_b77 : Arv Z h86 b77 k77 .char (12 : Int32) [(.int ((atv cs1 0 (0 : Int32) p2 p3).toUInt32.toUInt16.toUInt32.toInt32)), (.int ((atv cs1 1 (1 : Int32) p2 p3).toUInt32.toUInt16.toUInt32.toInt32)), (.int ((atv cs1 2 (2 : Int32) p2 p3).toUInt32.toUInt16.toUInt32.toInt32)), (.int (0 : Int32)), (.int (0 : Int32)), (.int (0 : Int32)), (.int (0 : Int32)), (.int (0 : Int32)), (.int (0 : Int32)), (.int (0 : Int32)), (.int (0 : Int32)), (.int (0 : Int32))] (.int (0 : Int32)) := Arv.set Ar85 q85 Sz85 Nn85 Hh85 Gg85 (fits_nar_char _) W86 2 rfl (Nat.le_of_ble_eq_true rfl)
  have N86 := Fr.snoc X86 N84 g_b77
  obtain ⟨_, _, ⟨T87, L87, k87, n87⟩, -, X87, ⟨Lc87, hQ87, l87, y87, z87⟩, st87⟩ := Jvm.LawKit.callS X86 hx (y := mn2) hown (mvT hZ (ww hw 15 rfl)) (mvT hZ (ww hw 16 rfl)) (mvT hZ (ww hw 11 rfl)) (mvT hZ (ww hw 17 rfl)) (by decide) (backOf (W := 5) (rm2 l Z a0 hw [] a1 (3 : Int32) p2 p3 t1 k1 N1 vs1 cs1 3 w_COMPACT_STRINGS fm h86 n0 Z0 S_COMPACT_STRINGS hz S_SIOOBE_FORMATTER rf hcd hr hl rfl (by decide) E_a1 F_coder_a1 F_value_a1 V_t1) hZ (ww hw 17 rfl) (ww hw 11 rfl) (by decide) (by decide)) (g := (mkF m 314 #[.val (.ref a1), .val (.int p2), .val (.int p3), .val (.int (12 : Int32))] [(.int p3), (.int p2), (.int (3 : Int32)), (.ref a1), (.int (3 : Int32)), (.ref b77), (.ref b77), (.ref b76), (.ref b76)])) rfl (by rw [hml]; rfl) (argsL := [(.ref a1), (.int (3 : Int32)), (.int p2), (.int p3)]) (rest := [(.int (3 : Int32)), (.ref b77), (.ref b77), (.ref b76), (.ref b76)]) (lenOf pd_2 rfl) rfl (by show 2 * 0 + _ ≤ _; exact Nat.le_of_eq rfl) (hb hby d1_314) (fun _ _ => ⟨rfl, e86, (by decide : 2 + 0 ≤ _), (by decide : 16 + 0 ≤ _)⟩)
  dsimp only [Pt.U, Pt.locs, Pt.cells, Pt.slots] at X87 l87 y87 z87 st87 hQ87
  rw [l87, y87, z87] at X87
  obtain ⟨rfl, N87q, e87⟩ := hQ87
  have q87 : f2 a1 (3 : Int32) p2 p3 t1 k1 N1 vs1 cs1 3 w_COMPACT_STRINGS fm = (atv cs1 3 (3 : Int32) p2 p3) := rfl
  rw [q87] at st87
  have N87 := Fr.app N86 N87q
  obtain ⟨cl88, Ar88, q88, Sz88, Nn88, Hh88, Gg88⟩ := V_b77
  have hin88 : ¬ ((3 : Int32) < 0 ∨ cl88.slots.size ≤ ((3 : Int32)).toNatClampNeg) := inb_of Sz88 ⟨by decide, by decide⟩
  obtain ⟨T89, h89, X89, e89, W89, st89⟩ := stC X87 hx hZ e87 Ar88 (j := (3 : Int32)) hin88 (g := (mkF m 317 #[.val (.ref a1), .val (.int p2), .val (.int p3), .val (.int (12 : Int32))] [(.int (atv cs1 3 (3 : Int32) p2 p3)), (.int (3 : Int32)), (.ref b77), (.ref b77), (.ref b76), (.ref b76)])) rfl rfl (hb hby d1_317)
  replace E_a1 := E_a1.wr W89
  replace F_coder_a1 := F_coder_a1.other W89 (Or.inl ne_a1_b77)
  replace F_value_a1 := F_value_a1.other W89 (Or.inl ne_a1_b77)
  replace V_t1 := V_t1.other W89 ne_t1_b77
  replace S_COMPACT_STRINGS := S_COMPACT_STRINGS.wr W89
  replace S_SIOOBE_FORMATTER := S_SIOOBE_FORMATTER.wr W89
  replace E_b76 := E_b76.wr W89
  replace F_value_b76 := F_value_b76.other W89 (Or.inl ne_b76_b77)
  replace F_coder_b76 := F_coder_b76.other W89 (Or.inl ne_b76_b77)
  replace Z0 := Nat.le_trans Z0 (Keep.of_wr W89).1
  replace KK := KK.wr W89 (Or.inr sz_b77)
  have V_b77 : Arv Z h89 b77 k77 .char (12 : Int32) [(.int ((atv cs1 0 (0 : Int32) p2 p3).toUInt32.toUInt16.toUInt32.toInt32)), (.int ((atv cs1 1 (1 : Int32) p2 p3).toUInt32.toUInt16.toUInt32.toInt32)), (.int ((atv cs1 2 (2 : Int32) p2 p3).toUInt32.toUInt16.toUInt32.toInt32)), (.int ((atv cs1 3 (3 : Int32) p2 p3).toUInt32.toUInt16.toUInt32.toInt32)), (.int (0 : Int32)), (.int (0 : Int32)), (.int (0 : Int32)), (.int (0 : Int32)), (.int (0 : Int32)), (.int (0 : Int32)), (.int (0 : Int32)), (.int (0 : Int32))] (.int (0 : Int32)) := Arv.set Ar88 q88 Sz88 Nn88 Hh88 Gg88 (fits_nar_char _) W89 3 rfl (Nat.le_of_ble_eq_true rfl)
  have N89 := Fr.snoc X89 N87 g_b77
  obtain ⟨_, _, ⟨T90, L90, k90, n90⟩, -, X90, ⟨Lc90, hQ90, l90, y90, z90⟩, st90⟩ := Jvm.LawKit.callS X89 hx (y := mn2) hown (mvT hZ (ww hw 15 rfl)) (mvT hZ (ww hw 16 rfl)) (mvT hZ (ww hw 11 rfl)) (mvT hZ (ww hw 17 rfl)) (by decide) (backOf (W := 5) (rm2 l Z a0 hw [] a1 (4 : Int32) p2 p3 t1 k1 N1 vs1 cs1 4 w_COMPACT_STRINGS fm h89 n0 Z0 S_COMPACT_STRINGS hz S_SIOOBE_FORMATTER rf hcd hr hl rfl (by decide) E_a1 F_coder_a1 F_value_a1 V_t1) hZ (ww hw 17 rfl) (ww hw 11 rfl) (by decide) (by decide)) (g := (mkF m 324 #[.val (.ref a1), .val (.int p2), .val (.int p3), .val (.int (12 : Int32))] [(.int p3), (.int p2), (.int (4 : Int32)), (.ref a1), (.int (4 : Int32)), (.ref b77), (.ref b77), (.ref b76), (.ref b76)])) rfl (by rw [hml]; rfl) (argsL := [(.ref a1), (.int (4 : Int32)), (.int p2), (.int p3)]) (rest := [(.int (4 : Int32)), (.ref b77), (.ref b77), (.ref b76), (.ref b76)]) (lenOf pd_2 rfl) rfl (by show 2 * 0 + _ ≤ _; exact Nat.le_of_eq rfl) (hb hby d1_324) (fun _ _ => ⟨rfl, e89, (by decide : 2 + 0 ≤ _), (by decide : 16 + 0 ≤ _)⟩)
  dsimp only [Pt.U, Pt.locs, Pt.cells, Pt.slots] at X90 l90 y90 z90 st90 hQ90
  rw [l90, y90, z90] at X90
  obtain ⟨rfl, N90q, e90⟩ := hQ90
  have q90 : f2 a1 (4 : Int32) p2 p3 t1 k1 N1 vs1 cs1 4 w_COMPACT_STRINGS fm = (atv cs1 4 (4 : Int32) p2 p3) := rfl
  rw [q90] at st90
  have N90 := Fr.app N89 N90q
  obtain ⟨cl91, Ar91, q91, Sz91, Nn91, Hh91, Gg91⟩ := V_b77
  have hin91 : ¬ ((4 : Int32) < 0 ∨ cl91.slots.size ≤ ((4 : Int32)).toNatClampNeg) := inb_of Sz91 ⟨by decide, by decide⟩
  obtain ⟨T92, h92, X92, e92, W92, st92⟩ := stC X90 hx hZ e90 Ar91 (j := (4 : Int32)) hin91 (g := (mkF m 327 #[.val (.ref a1), .val (.int p2), .val (.int p3), .val (.int (12 : Int32))] [(.int (atv cs1 4 (4 : Int32) p2 p3)), (.int (4 : Int32)), (.ref b77), (.ref b77), (.ref b76), (.ref b76)])) rfl rfl (hb hby d1_327)
  replace E_a1 := E_a1.wr W92
  replace F_coder_a1 := F_coder_a1.other W92 (Or.inl ne_a1_b77)
  replace F_value_a1 := F_value_a1.other W92 (Or.inl ne_a1_b77)
  replace V_t1 := V_t1.other W92 ne_t1_b77
  replace S_COMPACT_STRINGS := S_COMPACT_STRINGS.wr W92
  replace S_SIOOBE_FORMATTER := S_SIOOBE_FORMATTER.wr W92
  replace E_b76 := E_b76.wr W92
  replace F_value_b76 := F_value_b76.other W92 (Or.inl ne_b76_b77)
  replace F_coder_b76 := F_coder_b76.other W92 (Or.inl ne_b76_b77)
  replace Z0 := Nat.le_trans Z0 (Keep.of_wr W92).1
  replace KK := KK.wr W92 (Or.inr sz_b77)
  have V_b77 : Arv Z h92 b77 k77 .char (12 : Int32) [(.int ((atv cs1 0 (0 : Int32) p2 p3).toUInt32.toUInt16.toUInt32.toInt32)), (.int ((atv cs1 1 (1 : Int32) p2 p3).toUInt32.toUInt16.toUInt32.toInt32)), (.int ((atv cs1 2 (2 : Int32) p2 p3).toUInt32.toUInt16.toUInt32.toInt32)), (.int ((atv cs1 3 (3 : Int32) p2 p3).toUInt32.toUInt16.toUInt32.toInt32)), (.int ((atv cs1 4 (4 : Int32) p2 p3).toUInt32.toUInt16.toUInt32.toInt32)), (.int (0 : Int32)), (.int (0 : Int32)), (.int (0 : Int32)), (.int (0 : Int32)), (.int (0 : Int32)), (.int (0 : Int32)), (.int (0 : Int32))] (.int (0 : Int32)) := Arv.set Ar91 q91 Sz91 Nn91 Hh91 Gg91 (fits_nar_char _) W92 4 rfl (Nat.le_of_ble_eq_true rfl)
  have N92 := Fr.snoc X92 N90 g_b77
  obtain ⟨_, _, ⟨T93, L93, k93, n93⟩, -, X93, ⟨Lc93, hQ93, l93, y93, z93⟩, st93⟩ := Jvm.LawKit.callS X92 hx (y := mn2) hown (mvT hZ (ww hw 15 rfl)) (mvT hZ (ww hw 16 rfl)) (mvT hZ (ww hw 11 rfl)) (mvT hZ (ww hw 17 rfl)) (by decide) (backOf (W := 5) (rm2 l Z a0 hw [] a1 (5 : Int32) p2 p3 t1 k1 N1 vs1 cs1 5 w_COMPACT_STRINGS fm h92 n0 Z0 S_COMPACT_STRINGS hz S_SIOOBE_FORMATTER rf hcd hr hl rfl (by decide) E_a1 F_coder_a1 F_value_a1 V_t1) hZ (ww hw 17 rfl) (ww hw 11 rfl) (by decide) (by decide)) (g := (mkF m 334 #[.val (.ref a1), .val (.int p2), .val (.int p3), .val (.int (12 : Int32))] [(.int p3), (.int p2), (.int (5 : Int32)), (.ref a1), (.int (5 : Int32)), (.ref b77), (.ref b77), (.ref b76), (.ref b76)])) rfl (by rw [hml]; rfl) (argsL := [(.ref a1), (.int (5 : Int32)), (.int p2), (.int p3)]) (rest := [(.int (5 : Int32)), (.ref b77), (.ref b77), (.ref b76), (.ref b76)]) (lenOf pd_2 rfl) rfl (by show 2 * 0 + _ ≤ _; exact Nat.le_of_eq rfl) (hb hby d1_334) (fun _ _ => ⟨rfl, e92, (by decide : 2 + 0 ≤ _), (by decide : 16 + 0 ≤ _)⟩)
  dsimp only [Pt.U, Pt.locs, Pt.cells, Pt.slots] at X93 l93 y93 z93 st93 hQ93
  rw [l93, y93, z93] at X93
  obtain ⟨rfl, N93q, e93⟩ := hQ93
  have q93 : f2 a1 (5 : Int32) p2 p3 t1 k1 N1 vs1 cs1 5 w_COMPACT_STRINGS fm = (atv cs1 5 (5 : Int32) p2 p3) := rfl
  rw [q93] at st93
  have N93 := Fr.app N92 N93q
  obtain ⟨cl94, Ar94, q94, Sz94, Nn94, Hh94, Gg94⟩ := V_b77
  have hin94 : ¬ ((5 : Int32) < 0 ∨ cl94.slots.size ≤ ((5 : Int32)).toNatClampNeg) := inb_of Sz94 ⟨by decide, by decide⟩
  obtain ⟨T95, h95, X95, e95, W95, st95⟩ := stC X93 hx hZ e93 Ar94 (j := (5 : Int32)) hin94 (g := (mkF m 337 #[.val (.ref a1), .val (.int p2), .val (.int p3), .val (.int (12 : Int32))] [(.int (atv cs1 5 (5 : Int32) p2 p3)), (.int (5 : Int32)), (.ref b77), (.ref b77), (.ref b76), (.ref b76)])) rfl rfl (hb hby d1_337)
  replace E_a1 := E_a1.wr W95
  replace F_coder_a1 := F_coder_a1.other W95 (Or.inl ne_a1_b77)
  replace F_value_a1 := F_value_a1.other W95 (Or.inl ne_a1_b77)
  replace V_t1 := V_t1.other W95 ne_t1_b77
  replace S_COMPACT_STRINGS := S_COMPACT_STRINGS.wr W95
  replace S_SIOOBE_FORMATTER := S_SIOOBE_FORMATTER.wr W95
  replace E_b76 := E_b76.wr W95
  replace F_value_b76 := F_value_b76.other W95 (Or.inl ne_b76_b77)
  replace F_coder_b76 := F_coder_b76.other W95 (Or.inl ne_b76_b77)
  replace Z0 := Nat.le_trans Z0 (Keep.of_wr W95).1
  replace KK := KK.wr W95 (Or.inr sz_b77)
  have V_b77 : Arv Z h95 b77 k77 .char (12 : Int32) [(.int ((atv cs1 0 (0 : Int32) p2 p3).toUInt32.toUInt16.toUInt32.toInt32)), (.int ((atv cs1 1 (1 : Int32) p2 p3).toUInt32.toUInt16.toUInt32.toInt32)), (.int ((atv cs1 2 (2 : Int32) p2 p3).toUInt32.toUInt16.toUInt32.toInt32)), (.int ((atv cs1 3 (3 : Int32) p2 p3).toUInt32.toUInt16.toUInt32.toInt32)), (.int ((atv cs1 4 (4 : Int32) p2 p3).toUInt32.toUInt16.toUInt32.toInt32)), (.int ((atv cs1 5 (5 : Int32) p2 p3).toUInt32.toUInt16.toUInt32.toInt32)), (.int (0 : Int32)), (.int (0 : Int32)), (.int (0 : Int32)), (.int (0 : Int32)), (.int (0 : Int32)), (.int (0 : Int32))] (.int (0 : Int32)) := Arv.set Ar94 q94 Sz94 Nn94 Hh94 Gg94 (fits_nar_char _) W95 5 rfl (Nat.le_of_ble_eq_true rfl)
  have N95 := Fr.snoc X95 N93 g_b77
  obtain ⟨_, _, ⟨T96, L96, k96, n96⟩, -, X96, ⟨Lc96, hQ96, l96, y96, z96⟩, st96⟩ := Jvm.LawKit.callS X95 hx (y := mn2) hown (mvT hZ (ww hw 15 rfl)) (mvT hZ (ww hw 16 rfl)) (mvT hZ (ww hw 11 rfl)) (mvT hZ (ww hw 17 rfl)) (by decide) (backOf (W := 5) (rm2 l Z a0 hw [] a1 (6 : Int32) p2 p3 t1 k1 N1 vs1 cs1 6 w_COMPACT_STRINGS fm h95 n0 Z0 S_COMPACT_STRINGS hz S_SIOOBE_FORMATTER rf hcd hr hl rfl (by decide) E_a1 F_coder_a1 F_value_a1 V_t1) hZ (ww hw 17 rfl) (ww hw 11 rfl) (by decide) (by decide)) (g := (mkF m 346 #[.val (.ref a1), .val (.int p2), .val (.int p3), .val (.int (12 : Int32))] [(.int p3), (.int p2), (.int (6 : Int32)), (.ref a1), (.int (6 : Int32)), (.ref b77), (.ref b77), (.ref b76), (.ref b76)])) rfl (by rw [hml]; rfl) (argsL := [(.ref a1), (.int (6 : Int32)), (.int p2), (.int p3)]) (rest := [(.int (6 : Int32)), (.ref b77), (.ref b77), (.ref b76), (.ref b76)]) (lenOf pd_2 rfl) rfl (by show 2 * 0 + _ ≤ _; exact Nat.le_of_eq rfl) (hb hby d1_346) (fun _ _ => ⟨rfl, e95, (by decide : 2 + 0 ≤ _), (by decide : 16 + 0 ≤ _)⟩)
  dsimp only [Pt.U, Pt.locs, Pt.cells, Pt.slots] at X96 l96 y96 z96 st96 hQ96
  rw [l96, y96, z96] at X96
  obtain ⟨rfl, N96q, e96⟩ := hQ96
  have q96 : f2 a1 (6 : Int32) p2 p3 t1 k1 N1 vs1 cs1 6 w_COMPACT_STRINGS fm = (atv cs1 6 (6 : Int32) p2 p3) := rfl
  rw [q96] at st96
  have N96 := Fr.app N95 N96q
  obtain ⟨cl97, Ar97, q97, Sz97, Nn97, Hh97, Gg97⟩ := V_b77
  have hin97 : ¬ ((6 : Int32) < 0 ∨ cl97.slots.size ≤ ((6 : Int32)).toNatClampNeg) := inb_of Sz97 ⟨by decide, by decide⟩
  obtain ⟨T98, h98, X98, e98, W98, st98⟩ := stC X96 hx hZ e96 Ar97 (j := (6 : Int32)) hin97 (g := (mkF m 349 #[.val (.ref a1), .val (.int p2), .val (.int p3), .val (.int (12 : Int32))] [(.int (atv cs1 6 (6 : Int32) p2 p3)), (.int (6 : Int32)), (.ref b77), (.ref b77), (.ref b76), (.ref b76)])) rfl rfl (hb hby d1_349)
  replace E_a1 := E_a1.wr W98
  replace F_coder_a1 := F_coder_a1.other W98 (Or.inl ne_a1_b77)
  replace F_value_a1 := F_value_a1.other W98 (Or.inl ne_a1_b77)
  replace V_t1 := V_t1.other W98 ne_t1_b77
  replace S_COMPACT_STRINGS := S_COMPACT_STRINGS.wr W98
  replace S_SIOOBE_FORMATTER := S_SIOOBE_FORMATTER.wr W98
  replace E_b76 := E_b76.wr W98
  replace F_value_b76 := F_value_b76.other W98 (Or.inl ne_b76_b77)
  replace F_coder_b76 := F_coder_b76.other W98 (Or.inl ne_b76_b77)
  replace Z0 := Nat.le_trans Z0 (Keep.of_wr W98).1
  replace KK := KK.wr W98 (Or.inr sz_b77)
  have V_b77 : Arv Z h98 b77 k77 .char (12 : Int32) [(.int ((atv cs1 0 (0 : Int32) p2 p3).toUInt32.toUInt16.toUInt32.toInt32)), (.int ((atv cs1 1 (1 : Int32) p2 p3).toUInt32.toUInt16.toUInt32.toInt32)), (.int ((atv cs1 2 (2 : Int32) p2 p3).toUInt32.toUInt16.toUInt32.toInt32)), (.int ((atv cs1 3 (3 : Int32) p2 p3).toUInt32.toUInt16.toUInt32.toInt32)), (.int ((atv cs1 4 (4 : Int32) p2 p3).toUInt32.toUInt16.toUInt32.toInt32)), (.int ((atv cs1 5 (5 : Int32) p2 p3).toUInt32.toUInt16.toUInt32.toInt32)), (.int ((atv cs1 6 (6 : Int32) p2 p3).toUInt32.toUInt16.toUInt32.toInt32)), (.int (0 : Int32)), (.int (0 : Int32)), (.int (0 : Int32)), (.int (0 : Int32)), (.int (0 : Int32))] (.int (0 : Int32)) := Arv.set Ar97 q97 Sz97 Nn97 Hh97 Gg97 (fits_nar_char _) W98 6 rfl (Nat.le_of_ble_eq_true rfl)
  have N98 := Fr.snoc X98 N96 g_b77
  obtain ⟨_, _, ⟨T99, L99, k99, n99⟩, -, X99, ⟨Lc99, hQ99, l99, y99, z99⟩, st99⟩ := Jvm.LawKit.callS X98 hx (y := mn2) hown (mvT hZ (ww hw 15 rfl)) (mvT hZ (ww hw 16 rfl)) (mvT hZ (ww hw 11 rfl)) (mvT hZ (ww hw 17 rfl)) (by decide) (backOf (W := 5) (rm2 l Z a0 hw [] a1 (7 : Int32) p2 p3 t1 k1 N1 vs1 cs1 7 w_COMPACT_STRINGS fm h98 n0 Z0 S_COMPACT_STRINGS hz S_SIOOBE_FORMATTER rf hcd hr hl rfl (by decide) E_a1 F_coder_a1 F_value_a1 V_t1) hZ (ww hw 17 rfl) (ww hw 11 rfl) (by decide) (by decide)) (g := (mkF m 358 #[.val (.ref a1), .val (.int p2), .val (.int p3), .val (.int (12 : Int32))] [(.int p3), (.int p2), (.int (7 : Int32)), (.ref a1), (.int (7 : Int32)), (.ref b77), (.ref b77), (.ref b76), (.ref b76)])) rfl (by rw [hml]; rfl) (argsL := [(.ref a1), (.int (7 : Int32)), (.int p2), (.int p3)]) (rest := [(.int (7 : Int32)), (.ref b77), (.ref b77), (.ref b76), (.ref b76)]) (lenOf pd_2 rfl) rfl (by show 2 * 0 + _ ≤ _; exact Nat.le_of_eq rfl) (hb hby d1_358) (fun _ _ => ⟨rfl, e98, (by decide : 2 + 0 ≤ _), (by decide : 16 + 0 ≤ _)⟩)
  dsimp only [Pt.U, Pt.locs, Pt.cells, Pt.slots] at X99 l99 y99 z99 st99 hQ99
  rw [l99, y99, z99] at X99
  obtain ⟨rfl, N99q, e99⟩ := hQ99
  have q99 : f2 a1 (7 : Int32) p2 p3 t1 k1 N1 vs1 cs1 7 w_COMPACT_STRINGS fm = (atv cs1 7 (7 : Int32) p2 p3) := rfl
  rw [q99] at st99
  have N99 := Fr.app N98 N99q
  obtain ⟨cl100, Ar100, q100, Sz100, Nn100, Hh100, Gg100⟩ := V_b77
  have hin100 : ¬ ((7 : Int32) < 0 ∨ cl100.slots.size ≤ ((7 : Int32)).toNatClampNeg) := inb_of Sz100 ⟨by decide, by decide⟩
  obtain ⟨T101, h101, X101, e101, W101, st101⟩ := stC X99 hx hZ e99 Ar100 (j := (7 : Int32)) hin100 (g := (mkF m 361 #[.val (.ref a1), .val (.int p2), .val (.int p3), .val (.int (12 : Int32))] [(.int (atv cs1 7 (7 : Int32) p2 p3)), (.int (7 : Int32)), (.ref b77), (.ref b77), (.ref b76), (.ref b76)])) rfl rfl (hb hby d1_361)
  replace E_a1 := E_a1.wr W101
  replace F_coder_a1 := F_coder_a1.other W101 (Or.inl ne_a1_b77)
  replace F_value_a1 := F_value_a1.other W101 (Or.inl ne_a1_b77)
  replace V_t1 := V_t1.other W101 ne_t1_b77
  replace S_COMPACT_STRINGS := S_COMPACT_STRINGS.wr W101
  replace S_SIOOBE_FORMATTER := S_SIOOBE_FORMATTER.wr W101
  replace E_b76 := E_b76.wr W101
  replace F_value_b76 := F_value_b76.other W101 (Or.inl ne_b76_b77)
  replace F_coder_b76 := F_coder_b76.other W101 (Or.inl ne_b76_b77)
  replace Z0 := Nat.le_trans Z0 (Keep.of_wr W101).1
  replace KK := KK.wr W101 (Or.inr sz_b77)
  have V_b77 : Arv Z h101 b77 k77 .char (12 : Int32) [(.int ((atv cs1 0 (0 : Int32) p2 p3).toUInt32.toUInt16.toUInt32.toInt32)), (.int ((atv cs1 1 (1 : Int32) p2 p3).toUInt32.toUInt16.toUInt32.toInt32)), (.int ((atv cs1 2 (2 : Int32) p2 p3).toUInt32.toUInt16.toUInt32.toInt32)), (.int ((atv cs1 3 (3 : Int32) p2 p3).toUInt32.toUInt16.toUInt32.toInt32)), (.int ((atv cs1 4 (4 : Int32) p2 p3).toUInt32.toUInt16.toUInt32.toInt32)), (.int ((atv cs1 5 (5 : Int32) p2 p3).toUInt32.toUInt16.toUInt32.toInt32)), (.int ((atv cs1 6 (6 : Int32) p2 p3).toUInt32.toUInt16.toUInt32.toInt32)), (.int ((atv cs1 7 (7 : Int32) p2 p3).toUInt32.toUInt16.toUInt32.toInt32)), (.int (0 : Int32)), (.int (0 : Int32)), (.int (0 : Int32)), (.int (0 : Int32))] (.int (0 : Int32)) := Arv.set Ar100 q100 Sz100 Nn100 Hh100 Gg100 (fits_nar_char _) W101 7 rfl (Nat.le_of_ble_eq_true rfl)
  have N101 := Fr.snoc X101 N99 g_b77
  obtain ⟨_, _, ⟨T102, L102, k102, n102⟩, -, X102, ⟨Lc102, hQ102, l102, y102, z102⟩, st102⟩ := Jvm.LawKit.callS X101 hx (y := mn2) hown (mvT hZ (ww hw 15 rfl)) (mvT hZ (ww hw 16 rfl)) (mvT hZ (ww hw 11 rfl)) (mvT hZ (ww hw 17 rfl)) (by decide) (backOf (W := 5) (rm2 l Z a0 hw [] a1 (8 : Int32) p2 p3 t1 k1 N1 vs1 cs1 8 w_COMPACT_STRINGS fm h101 n0 Z0 S_COMPACT_STRINGS hz S_SIOOBE_FORMATTER rf hcd hr hl rfl (by decide) E_a1 F_coder_a1 F_value_a1 V_t1) hZ (ww hw 17 rfl) (ww hw 11 rfl) (by decide) (by decide)) (g := (mkF m 370 #[.val (.ref a1), .val (.int p2), .val (.int p3), .val (.int (12 : Int32))] [(.int p3), (.int p2), (.int (8 : Int32)), (.ref a1), (.int (8 : Int32)), (.ref b77), (.ref b77), (.ref b76), (.ref b76)])) rfl (by rw [hml]; rfl) (argsL := [(.ref a1), (.int (8 : Int32)), (.int p2), (.int p3)]) (rest := [(.int (8 : Int32)), (.ref b77), (.ref b77), (.ref b76), (.ref b76)]) (lenOf pd_2 rfl) rfl (by show 2 * 0 + _ ≤ _; exact Nat.le_of_eq rfl) (hb hby d1_370) (fun _ _ => ⟨rfl, e101, (by decide : 2 + 0 ≤ _), (by decide : 16 + 0 ≤ _)⟩)
  dsimp only [Pt.U, Pt.locs, Pt.cells, Pt.slots] at X102 l102 y102 z102 st102 hQ102
  rw [l102, y102, z102] at X102
  obtain ⟨rfl, N102q, e102⟩ := hQ102
  have q102 : f2 a1 (8 : Int32) p2 p3 t1 k1 N1 vs1 cs1 8 w_COMPACT_STRINGS fm = (atv cs1 8 (8 : Int32) p2 p3) := rfl
  rw [q102] at st102
  have N102 := Fr.app N101 N102q
  obtain ⟨cl103, Ar103, q103, Sz103, Nn103, Hh103, Gg103⟩ := V_b77
  have hin103 : ¬ ((8 : Int32) < 0 ∨ cl103.slots.size ≤ ((8 : Int32)).toNatClampNeg) := inb_of Sz103 ⟨by decide, by decide⟩
  obtain ⟨T104, h104, X104, e104, W104, st104⟩ := stC X102 hx hZ e102 Ar103 (j := (8 : Int32)) hin103 (g := (mkF m 373 #[.val (.ref a1), .val (.int p2), .val (.int p3), .val (.int (12 : Int32))] [(.int (atv cs1 8 (8 : Int32) p2 p3)), (.int (8 : Int32)), (.ref b77), (.ref b77), (.ref b76), (.ref b76)])) rfl rfl (hb hby d1_373)
  replace E_a1 := E_a1.wr W104
  replace F_coder_a1 := F_coder_a1.other W104 (Or.inl ne_a1_b77)
  replace F_value_a1 := F_value_a1.other W104 (Or.inl ne_a1_b77)
  replace V_t1 := V_t1.other W104 ne_t1_b77
  replace S_COMPACT_STRINGS := S_COMPACT_STRINGS.wr W104
  replace S_SIOOBE_FORMATTER := S_SIOOBE_FORMATTER.wr W104
  replace E_b76 := E_b76.wr W104
  replace F_value_b76 := F_value_b76.other W104 (Or.inl ne_b76_b77)
  replace F_coder_b76 := F_coder_b76.other W104 (Or.inl ne_b76_b77)
  replace Z0 := Nat.le_trans Z0 (Keep.of_wr W104).1
  replace KK := KK.wr W104 (Or.inr sz_b77)
  have V_b77 : Arv Z h104 b77 k77 .char (12 : Int32) [(.int ((atv cs1 0 (0 : Int32) p2 p3).toUInt32.toUInt16.toUInt32.toInt32)), (.int ((atv cs1 1 (1 : Int32) p2 p3).toUInt32.toUInt16.toUInt32.toInt32)), (.int ((atv cs1 2 (2 : Int32) p2 p3).toUInt32.toUInt16.toUInt32.toInt32)), (.int ((atv cs1 3 (3 : Int32) p2 p3).toUInt32.toUInt16.toUInt32.toInt32)), (.int ((atv cs1 4 (4 : Int32) p2 p3).toUInt32.toUInt16.toUInt32.toInt32)), (.int ((atv cs1 5 (5 : Int32) p2 p3).toUInt32.toUInt16.toUInt32.toInt32)), (.int ((atv cs1 6 (6 : Int32) p2 p3).toUInt32.toUInt16.toUInt32.toInt32)), (.int ((atv cs1 7 (7 : Int32) p2 p3).toUInt32.toUInt16.toUInt32.toInt32)), (.int ((atv cs1 8 (8 : Int32) p2 p3).toUInt32.toUInt16.toUInt32.toInt32)), (.int (0 : Int32)), (.int (0 : Int32)), (.int (0 : Int32))] (.int (0 : Int32)) := Arv.set Ar103 q103 Sz103 Nn103 Hh103 Gg103 (fits_nar_char _) W104 8 rfl (Nat.le_of_ble_eq_true rfl)
  have N104 := Fr.snoc X104 N102 g_b77
  obtain ⟨_, _, ⟨T105, L105, k105, n105⟩, -, X105, ⟨Lc105, hQ105, l105, y105, z105⟩, st105⟩ := Jvm.LawKit.callS X104 hx (y := mn2) hown (mvT hZ (ww hw 15 rfl)) (mvT hZ (ww hw 16 rfl)) (mvT hZ (ww hw 11 rfl)) (mvT hZ (ww hw 17 rfl)) (by decide) (backOf (W := 5) (rm2 l Z a0 hw [] a1 (9 : Int32) p2 p3 t1 k1 N1 vs1 cs1 9 w_COMPACT_STRINGS fm h104 n0 Z0 S_COMPACT_STRINGS hz S_SIOOBE_FORMATTER rf hcd hr hl rfl (by decide) E_a1 F_coder_a1 F_value_a1 V_t1) hZ (ww hw 17 rfl) (ww hw 11 rfl) (by decide) (by decide)) (g := (mkF m 382 #[.val (.ref a1), .val (.int p2), .val (.int p3), .val (.int (12 : Int32))] [(.int p3), (.int p2), (.int (9 : Int32)), (.ref a1), (.int (9 : Int32)), (.ref b77), (.ref b77), (.ref b76), (.ref b76)])) rfl (by rw [hml]; rfl) (argsL := [(.ref a1), (.int (9 : Int32)), (.int p2), (.int p3)]) (rest := [(.int (9 : Int32)), (.ref b77), (.ref b77), (.ref b76), (.ref b76)]) (lenOf pd_2 rfl) rfl (by show 2 * 0 + _ ≤ _; exact Nat.le_of_eq rfl) (hb hby d1_382) (fun _ _ => ⟨rfl, e104, (by decide : 2 + 0 ≤ _), (by decide : 16 + 0 ≤ _)⟩)
  dsimp only [Pt.U, Pt.locs, Pt.cells, Pt.slots] at X105 l105 y105 z105 st105 hQ105
  rw [l105, y105, z105] at X105
  obtain ⟨rfl, N105q, e105⟩ := hQ105
  have q105 : f2 a1 (9 : Int32) p2 p3 t1 k1 N1 vs1 cs1 9 w_COMPACT_STRINGS fm = (atv cs1 9 (9 : Int32) p2 p3) := rfl
  rw [q105] at st105
  have N105 := Fr.app N104 N105q
  obtain ⟨cl106, Ar106, q106, Sz106, Nn106, Hh106, Gg106⟩ := V_b77
  have hin106 : ¬ ((9 : Int32) < 0 ∨ cl106.slots.size ≤ ((9 : Int32)).toNatClampNeg) := inb_of Sz106 ⟨by decide, by decide⟩
  obtain ⟨T107, h107, X107, e107, W107, st107⟩ := stC X105 hx hZ e105 Ar106 (j := (9 : Int32)) hin106 (g := (mkF m 385 #[.val (.ref a1), .val (.int p2), .val (.int p3), .val (.int (12 : Int32))] [(.int (atv cs1 9 (9 : Int32) p2 p3)), (.int (9 : Int32)), (.ref b77), (.ref b77), (.ref b76), (.ref b76)])) rfl rfl (hb hby d1_385)
  replace E_a1 := E_a1.wr W107
  replace F_coder_a1 := F_coder_a1.other W107 (Or.inl ne_a1_b77)
  replace F_value_a1 := F_value_a1.other W107 (Or.inl ne_a1_b77)
  replace V_t1 := V_t1.other W107 ne_t1_b77
  replace S_COMPACT_STRINGS := S_COMPACT_STRINGS.wr W107
  replace S_SIOOBE_FORMATTER := S_SIOOBE_FORMATTER.wr W107
  replace E_b76 := E_b76.wr W107
  replace F_value_b76 := F_value_b76.other W107 (Or.inl ne_b76_b77)
  replace F_coder_b76 := F_coder_b76.other W107 (Or.inl ne_b76_b77)
  replace Z0 := Nat.le_trans Z0 (Keep.of_wr W107).1
  replace KK := KK.wr W107 (Or.inr sz_b77)
  have V_b77 : Arv Z h107 b77 k77 .char (12 : Int32) [(.int ((atv cs1 0 (0 : Int32) p2 p3).toUInt32.toUInt16.toUInt32.toInt32)), (.int ((atv cs1 1 (1 : Int32) p2 p3).toUInt32.toUInt16.toUInt32.toInt32)), (.int ((atv cs1 2 (2 : Int32) p2 p3).toUInt32.toUInt16.toUInt32.toInt32)), (.int ((atv cs1 3 (3 : Int32) p2 p3).toUInt32.toUInt16.toUInt32.toInt32)), (.int ((atv cs1 4 (4 : Int32) p2 p3).toUInt32.toUInt16.toUInt32.toInt32)), (.int ((atv cs1 5 (5 : Int32) p2 p3).toUInt32.toUInt16.toUInt32.toInt32)), (.int ((atv cs1 6 (6 : Int32) p2 p3).toUInt32.toUInt16.toUInt32.toInt32)), (.int ((atv cs1 7 (7 : Int32) p2 p3).toUInt32.toUInt16.toUInt32.toInt32)), (.int ((atv cs1 8 (8 : Int32) p2 p3).toUInt32.toUInt16.toUInt32.toInt32)), (.int ((atv cs1 9 (9 : Int32) p2 p3).toUInt32.toUInt16.toUInt32.toInt32)), (.int (0 : Int32)), (.int (0 : Int32))] (.int (0 : Int32)) := Arv.set Ar106 q106 Sz106 Nn106 Hh106 Gg106 (fits_nar_char _) W107 9 rfl (Nat.le_of_ble_eq_true rfl)
  have N107 := Fr.snoc X107 N105 g_b77
  obtain ⟨_, _, ⟨T108, L108, k108, n108⟩, -, X108, ⟨Lc108, hQ108, l108, y108, z108⟩, st108⟩ := Jvm.LawKit.callS X107 hx (y := mn2) hown (mvT hZ (ww hw 15 rfl)) (mvT hZ (ww hw 16 rfl)) (mvT hZ (ww hw 11 rfl)) (mvT hZ (ww hw 17 rfl)) (by decide) (backOf (W := 5) (rm2 l Z a0 hw [] a1 (10 : Int32) p2 p3 t1 k1 N1 vs1 cs1 10 w_COMPACT_STRINGS fm h107 n0 Z0 S_COMPACT_STRINGS hz S_SIOOBE_FORMATTER rf hcd hr hl rfl (by decide) E_a1 F_coder_a1 F_value_a1 V_t1) hZ (ww hw 17 rfl) (ww hw 11 rfl) (by decide) (by decide)) (g := (mkF m 394 #[.val (.ref a1), .val (.int p2), .val (.int p3), .val (.int (12 : Int32))] [(.int p3), (.int p2), (.int (10 : Int32)), (.ref a1), (.int (10 : Int32)), (.ref b77), (.ref b77), (.ref b76), (.ref b76)])) rfl (by rw [hml]; rfl) (argsL := [(.ref a1), (.int (10 : Int32)), (.int p2), (.int p3)]) (rest := [(.int (10 : Int32)), (.ref b77), (.ref b77), (.ref b76), (.ref b76)]) (lenOf pd_2 rfl) rfl (by show 2 * 0 + _ ≤ _; exact Nat.le_of_eq rfl) (hb hby d1_394) (fun _ _ => ⟨rfl, e107, (by decide : 2 + 0 ≤ _), (by decide : 16 + 0 ≤ _)⟩)
  dsimp only [Pt.U, Pt.locs, Pt.cells, Pt.slots] at X108 l108 y108 z108 st108 hQ108
  rw [l108, y108, z108] at X108
  obtain ⟨rfl, N108q, e108⟩ := hQ108
  have q108 : f2 a1 (10 : Int32) p2 p3 t1 k1 N1 vs1 cs1 10 w_COMPACT_STRINGS fm = (atv cs1 10 (10 : Int32) p2 p3) := rfl
  rw [q108] at st108
  have N108 := Fr.app N107 N108q
  obtain ⟨cl109, Ar109, q109, Sz109, Nn109, Hh109, Gg109⟩ := V_b77
  have hin109 : ¬ ((10 : Int32) < 0 ∨ cl109.slots.size ≤ ((10 : Int32)).toNatClampNeg) := inb_of Sz109 ⟨by decide, by decide⟩
  obtain ⟨T110, h110, X110, e110, W110, st110⟩ := stC X108 hx hZ e108 Ar109 (j := (10 : Int32)) hin109 (g := (mkF m 397 #[.val (.ref a1), .val (.int p2), .val (.int p3), .val (.int (12 : Int32))] [(.int (atv cs1 10 (10 : Int32) p2 p3)), (.int (10 : Int32)), (.ref b77), (.ref b77), (.ref b76), (.ref b76)])) rfl rfl (hb hby d1_397)
  replace E_a1 := E_a1.wr W110
  replace F_coder_a1 := F_coder_a1.other W110 (Or.inl ne_a1_b77)
  replace F_value_a1 := F_value_a1.other W110 (Or.inl ne_a1_b77)
  replace V_t1 := V_t1.other W110 ne_t1_b77
  replace S_COMPACT_STRINGS := S_COMPACT_STRINGS.wr W110
  replace S_SIOOBE_FORMATTER := S_SIOOBE_FORMATTER.wr W110
  replace E_b76 := E_b76.wr W110
  replace F_value_b76 := F_value_b76.other W110 (Or.inl ne_b76_b77)
  replace F_coder_b76 := F_coder_b76.other W110 (Or.inl ne_b76_b77)
  replace Z0 := Nat.le_trans Z0 (Keep.of_wr W110).1
  replace KK := KK.wr W110 (Or.inr sz_b77)
  have V_b77 : Arv Z h110 b77 k77 .char (12 : Int32) [(.int ((atv cs1 0 (0 : Int32) p2 p3).toUInt32.toUInt16.toUInt32.toInt32)), (.int ((atv cs1 1 (1 : Int32) p2 p3).toUInt32.toUInt16.toUInt32.toInt32)), (.int ((atv cs1 2 (2 : Int32) p2 p3).toUInt32.toUInt16.toUInt32.toInt32)), (.int ((atv cs1 3 (3 : Int32) p2 p3).toUInt32.toUInt16.toUInt32.toInt32)), (.int ((atv cs1 4 (4 : Int32) p2 p3).toUInt32.toUInt16.toUInt32.toInt32)), (.int ((atv cs1 5 (5 : Int32) p2 p3).toUInt32.toUInt16.toUInt32.toInt32)), (.int ((atv cs1 6 (6 : Int32) p2 p3).toUInt32.toUInt16.toUInt32.toInt32)), (.int ((atv cs1 7 (7 : Int32) p2 p3).toUInt32.toUInt16.toUInt32.toInt32)), (.int ((atv cs1 8 (8 : Int32) p2 p3).toUInt32.toUInt16.toUInt32.toInt32)), (.int ((atv cs1 9 (9 : Int32) p2 p3).toUInt32.toUInt16.toUInt32.toInt32)), (.int ((atv cs1 10 (10 : Int32) p2 p3).toUInt32.toUInt16.toUInt32.toInt32)), (.int (0 : Int32))] (.int (0 : Int32)) := Arv.set Ar109 q109 Sz109 Nn109 Hh109 Gg109 (fits_nar_char _) W110 10 rfl (Nat.le_of_ble_eq_true rfl)
  have N110 := Fr.snoc X110 N108 g_b77
  obtain ⟨_, _, ⟨T111, L111, k111, n111⟩, -, X111, ⟨Lc111, hQ111, l111, y111, z111⟩, st111⟩ := Jvm.LawKit.callS X110 hx (y := mn2) hown (mvT hZ (ww hw 15 rfl)) (mvT hZ (ww hw 16 rfl)) (mvT hZ (ww hw 11 rfl)) (mvT hZ (ww hw 17 rfl)) (by decide) (backOf (W := 5) (rm2 l Z a0 hw [] a1 (11 : Int32) p2 p3 t1 k1 N1 vs1 cs1 11 w_COMPACT_STRINGS fm h110 n0 Z0 S_COMPACT_STRINGS hz S_SIOOBE_FORMATTER rf hcd hr hl rfl (by decide) E_a1 F_coder_a1 F_value_a1 V_t1) hZ (ww hw 17 rfl) (ww hw 11 rfl) (by decide) (by decide)) (g := (mkF m 406 #[.val (.ref a1), .val (.int p2), .val (.int p3), .val (.int (12 : Int32))] [(.int p3), (.int p2), (.int (11 : Int32)), (.ref a1), (.int (11 : Int32)), (.ref b77), (.ref b77), (.ref b76), (.ref b76)])) rfl (by rw [hml]; rfl) (argsL := [(.ref a1), (.int (11 : Int32)), (.int p2), (.int p3)]) (rest := [(.int (11 : Int32)), (.ref b77), (.ref b77), (.ref b76), (.ref b76)]) (lenOf pd_2 rfl) rfl (by show 2 * 0 + _ ≤ _; exact Nat.le_of_eq rfl) (hb hby d1_406) (fun _ _ => ⟨rfl, e110, (by decide : 2 + 0 ≤ _), (by decide : 16 + 0 ≤ _)⟩)
  dsimp only [Pt.U, Pt.locs, Pt.cells, Pt.slots] at X111 l111 y111 z111 st111 hQ111
  rw [l111, y111, z111] at X111
  obtain ⟨rfl, N111q, e111⟩ := hQ111
  have q111 : f2 a1 (11 : Int32) p2 p3 t1 k1 N1 vs1 cs1 11 w_COMPACT_STRINGS fm = (atv cs1 11 (11 : Int32) p2 p3) := rfl
  rw [q111] at st111
  have N111 := Fr.app N110 N111q
  obtain ⟨cl112, Ar112, q112, Sz112, Nn112, Hh112, Gg112⟩ := V_b77
  have hin112 : ¬ ((11 : Int32) < 0 ∨ cl112.slots.size ≤ ((11 : Int32)).toNatClampNeg) := inb_of Sz112 ⟨by decide, by decide⟩
  obtain ⟨T113, h113, X113, e113, W113, st113⟩ := stC X111 hx hZ e111 Ar112 (j := (11 : Int32)) hin112 (g := (mkF m 409 #[.val (.ref a1), .val (.int p2), .val (.int p3), .val (.int (12 : Int32))] [(.int (atv cs1 11 (11 : Int32) p2 p3)), (.int (11 : Int32)), (.ref b77), (.ref b77), (.ref b76), (.ref b76)])) rfl rfl (hb hby d1_409)
  replace E_a1 := E_a1.wr W113
  replace F_coder_a1 := F_coder_a1.other W113 (Or.inl ne_a1_b77)
  replace F_value_a1 := F_value_a1.other W113 (Or.inl ne_a1_b77)
  replace V_t1 := V_t1.other W113 ne_t1_b77
  replace S_COMPACT_STRINGS := S_COMPACT_STRINGS.wr W113
  replace S_SIOOBE_FORMATTER := S_SIOOBE_FORMATTER.wr W113
  replace E_b76 := E_b76.wr W113
  replace F_value_b76 := F_value_b76.other W113 (Or.inl ne_b76_b77)
  replace F_coder_b76 := F_coder_b76.other W113 (Or.inl ne_b76_b77)
  replace Z0 := Nat.le_trans Z0 (Keep.of_wr W113).1
  replace KK := KK.wr W113 (Or.inr sz_b77)
  have V_b77 : Arv Z h113 b77 k77 .char (12 : Int32) [(.int ((atv cs1 0 (0 : Int32) p2 p3).toUInt32.toUInt16.toUInt32.toInt32)), (.int ((atv cs1 1 (1 : Int32) p2 p3).toUInt32.toUInt16.toUInt32.toInt32)), (.int ((atv cs1 2 (2 : Int32) p2 p3).toUInt32.toUInt16.toUInt32.toInt32)), (.int ((atv cs1 3 (3 : Int32) p2 p3).toUInt32.toUInt16.toUInt32.toInt32)), (.int ((atv cs1 4 (4 : Int32) p2 p3).toUInt32.toUInt16.toUInt32.toInt32)), (.int ((atv cs1 5 (5 : Int32) p2 p3).toUInt32.toUInt16.toUInt32.toInt32)), (.int ((atv cs1 6 (6 : Int32) p2 p3).toUInt32.toUInt16.toUInt32.toInt32)), (.int ((atv cs1 7 (7 : Int32) p2 p3).toUInt32.toUInt16.toUInt32.toInt32)), (.int ((atv cs1 8 (8 : Int32) p2 p3).toUInt32.toUInt16.toUInt32.toInt32)), (.int ((atv cs1 9 (9 : Int32) p2 p3).toUInt32.toUInt16.toUInt32.toInt32)), (.int ((atv cs1 10 (10 : Int32) p2 p3).toUInt32.toUInt16.toUInt32.toInt32)), (.int ((atv cs1 11 (11 : Int32) p2 p3).toUInt32.toUInt16.toUInt32.toInt32))] (.int (0 : Int32)) := Arv.set Ar112 q112 Sz112 Nn112 Hh112 Gg112 (fits_nar_char _) W113 11 rfl (Nat.le_of_ble_eq_true rfl)
  have N113 := Fr.snoc X113 N111 g_b77
  obtain ⟨_, _, ⟨T114, L114, k114, n114⟩, -, X114, ⟨Lc114, hQ114, l114, y114, z114⟩, st114⟩ := X113.specialBack hx (y := mn3) rfl hown (mvT hZ (ww hw 53 rfl)) (mvT hZ (ww hw 54 rfl)) (mvT hZ (ww hw 55 rfl)) (by decide) (StrChars.Road.backV (W := 1) hZ hws (kI := 4) (ww hw 2 rfl) (cs := (mkl cs1 p2 p3 12)) (bs := (mkl cs1 p2 p3 12).map StrChars.lo8) (n := 12) g_b76 Z0 E_b76 F_value_b76 F_coder_b76 V_b77 S_COMPACT_STRINGS hz (own_mklen cs1 p2 p3 12) rfl (by decide) (by decide) (own_mkr hr hc 12) rfl (by decide) (by decide)) (g := (mkF m 410 #[.val (.ref a1), .val (.int p2), .val (.int p3), .val (.int (12 : Int32))] [(.ref b77), (.ref b76), (.ref b76)])) rfl (by rw [hml]; rfl) (Steps.refl _) (a := b76) (argsL := [(.ref b77)]) (rest := [(.ref b76)]) (lenOf pd_3 rfl) rfl (by show 2 * 0 + _ ≤ _; exact Nat.le_of_eq rfl) (hb hby d1_410) (fun _ _ => ⟨rfl, e113, (by decide : 2 + 1 ≤ _), (by decide : 16 + 12 ≤ _)⟩)
  dsimp only [Pt.U, Pt.locs, Pt.cells, Pt.slots] at X114 l114 y114 z114 st114 hQ114
  rw [l114, y114, z114] at X114
  obtain ⟨h114, e114⟩ : ∃ z, T114.heap = z := ⟨_, rfl⟩
  rw [e114] at hQ114
  obtain ⟨rfl, N114q, K114, G114E, G114C, B114, kb114, -, szn114, -, G114V, G114A⟩ := hQ114
  have g_B114 : n0 ≤ B114 := Nat.le_trans Z0 szn114
  have sz_B114 : h0.size ≤ B114 := Nat.le_trans KK.1 szn114
  have ne_a1_B114 : a1 ≠ B114 := Nat.ne_of_lt (Nat.lt_of_lt_of_le E_a1.lt szn114)
  have ne_t1_B114 : t1 ≠ B114 := Nat.ne_of_lt (Nat.lt_of_lt_of_le V_t1.lt szn114)
  have ne_b76_B114 : b76 ≠ B114 := Nat.ne_of_lt (Nat.lt_of_lt_of_le E_b76.lt szn114)
  have ne_b77_B114 : b77 ≠ B114 := Nat.ne_of_lt (Nat.lt_of_lt_of_le V_b77.lt szn114)
  replace S_COMPACT_STRINGS := own_stakeep S_COMPACT_STRINGS K114 (nsS (Exa.nostat E_b76) ns0)
  replace S_SIOOBE_FORMATTER := own_stakeep S_SIOOBE_FORMATTER K114 (nsS (Exa.nostat E_b76) ns0)
  replace E_a1 := E_a1.keep K114
  replace F_coder_a1 := F_coder_a1.keep K114 (ninS ne_a1_b76 nin0)
  replace F_value_a1 := F_value_a1.keep K114 (ninS ne_a1_b76 nin0)
  replace V_t1 := V_t1.keep K114 (ninS ne_t1_b76 nin0)
  replace E_b76 := E_b76.keep K114
  replace V_b77 := V_b77.keep K114 (ninS (Ne.symm ne_b76_b77) nin0)
  replace Z0 := Nat.le_trans Z0 K114.1
  replace KK := KK.trans K114 (allS (Or.inr sz_b76) all0)
  have F_coder_b76 : Fld Z h114 b76 "java/lang/String" "coder" "B" (.int (0 : Int32)) := G114C
  have F_value_b76 : Fld Z h114 b76 "java/lang/String" "value" "[B" (.ref B114) := G114V
  have V_B114 : Arv Z h114 B114 kb114 .byte (12 : Int32) (((mkl cs1 p2 p3 12).map StrChars.lo8).map Value.int) (.int (0 : Int32)) := G114A
  have N114 := Fr.app N113 N114q
  obtain ⟨fs, hr, hrun, hended, hW, hsame⟩ := X114.leave (v := some (.ref b76)) (fun h => by rw [Bd.returns] at h; cases h)
  refine ⟨_, _, pre0 _ ?_, hrun, hended, _, _, rfl, ?_, ⟨_, rfl⟩, hW, hsame.mono (by decide) (by decide)⟩
  · refine y_iloadN X0 hx hby d1_0 rfl ?_
    refine y_bipush X0 hx hby (v := (10 : Int32)) d1_1 rfl ?_
    refine y_icmpYes X0 hx hby (pc' := 126) d1_3 (feq (by decide)).2 (by decide) (by decide) ?_
    refine y_iloadN X0 hx hby d1_126 rfl ?_
    refine y_bipush X0 hx hby (v := (11 : Int32)) d1_127 rfl ?_
    refine y_icmpYes X0 hx hby (pc' := 264) d1_129 (feq (by decide)).2 (by decide) (by decide) ?_
    refine y_iloadN X0 hx hby d1_264 rfl ?_
    refine y_bipush X0 hx hby (v := (12 : Int32)) d1_265 rfl ?_
    refine y_icmpNo X0 hx hby d1_267 (teq rfl).2 ?_
    refine st76 _ ?_
    show Steps p.tables e below (T76.setTop (mkF m 273 #[.val (.ref a1), .val (.int p2), .val (.int p3), .val (.int (12 : Int32))] [(.ref b76)])) _
    refine y_dup X76 hx hby d1_273 rfl ?_
    refine y_bipush X76 hx hby (v := (12 : Int32)) d1_274 rfl ?_
    refine st77 _ ?_
    show Steps p.tables e below (T77.setTop (mkF m 278 #[.val (.ref a1), .val (.int p2), .val (.int p3), .val (.int (12 : Int32))] [(.ref b77), (.ref b76), (.ref b76)])) _
    refine y_dup X77 hx hby d1_278 rfl ?_
    refine y_iconst X77 hx hby (v := (0 : Int32)) d1_279 rfl ?_
    refine y_aloadN X77 hx hby d1_280 rfl rfl ?_
    refine y_iconst X77 hx hby (v := (0 : Int32)) d1_281 rfl ?_
    refine y_iloadN X77 hx hby d1_282 rfl ?_
    refine y_iloadN X77 hx hby d1_283 rfl ?_
    refine st78 _ ?_
    show Steps p.tables e below (T78.setTop (mkF m 287 #[.val (.ref a1), .val (.int p2), .val (.int p3), .val (.int (12 : Int32))] [(.int (atv cs1 0 (0 : Int32) p2 p3)), (.int (0 : Int32)), (.ref b77), (.ref b77), (.ref b76), (.ref b76)])) _
    refine st80 _ ?_
    show Steps p.tables e below (T80.setTop (mkF m 288 #[.val (.ref a1), .val (.int p2), .val (.int p3), .val (.int (12 : Int32))] [(.ref b77), (.ref b76), (.ref b76)])) _
    refine y_dup X80 hx hby d1_288 rfl ?_
    refine y_iconst X80 hx hby (v := (1 : Int32)) d1_289 rfl ?_
    refine y_aloadN X80 hx hby d1_290 rfl rfl ?_
    refine y_iconst X80 hx hby (v := (1 : Int32)) d1_291 rfl ?_
    refine y_iloadN X80 hx hby d1_292 rfl ?_
    refine y_iloadN X80 hx hby d1_293 rfl ?_
    refine st81 _ ?_
    show Steps p.tables e below (T81.setTop (mkF m 297 #[.val (.ref a1), .val (.int p2), .val (.int p3), .val (.int (12 : Int32))] [(.int (atv cs1 1 (1 : Int32) p2 p3)), (.int (1 : Int32)), (.ref b77), (.ref b77), (.ref b76), (.ref b76)])) _
    refine st83 _ ?_
    show Steps p.tables e below (T83.setTop (mkF m 298 #[.val (.ref a1), .val (.int p2), .val (.int p3), .val (.int (12 : Int32))] [(.ref b77), (.ref b76), (.ref b76)])) _
    refine y_dup X83 hx hby d1_298 rfl ?_
    refine y_iconst X83 hx hby (v := (2 : Int32)) d1_299 rfl ?_
    refine y_aloadN X83 hx hby d1_300 rfl rfl ?_
    refine y_iconst X83 hx hby (v := (2 : Int32)) d1_301 rfl ?_
    refine y_iloadN X83 hx hby d1_302 rfl ?_
    refine y_iloadN X83 hx hby d1_303 rfl ?_
    refine st84 _ ?_
    show Steps p.tables e below (T84.setTop (mkF m 307 #[.val (.ref a1), .val (.int p2), .val (.int p3), .val (.int (12 : Int32))] [(.int (atv cs1 2 (2 : Int32) p2 p3)), (.int (2 : Int32)), (.ref b77), (.ref b77), (.ref b76), (.ref b76)])) _
    refine st86 _ ?_
    show Steps p.tables e below (T86.setTop (mkF m 308 #[.val (.ref a1), .val (.int p2), .val (.int p3), .val (.int (12 : Int32))] [(.ref b77), (.ref b76), (.ref b76)])) _
    refine y_dup X86 hx hby d1_308 rfl ?_
    refine y_iconst X86 hx hby (v := (3 : Int32)) d1_309 rfl ?_
    refine y_aloadN X86 hx hby d1_310 rfl rfl ?_
    refine y_iconst X86 hx hby (v := (3 : Int32)) d1_311 rfl ?_
    refine y_iloadN X86 hx hby d1_312 rfl ?_
    refine y_iloadN X86 hx hby d1_313 rfl ?_
    refine st87 _ ?_
    show Steps p.tables e below (T87.setTop (mkF m 317 #[.val (.ref a1), .val (.int p2), .val (.int p3), .val (.int (12 : Int32))] [(.int (atv cs1 3 (3 : Int32) p2 p3)), (.int (3 : Int32)), (.ref b77), (.ref b77), (.ref b76), (.ref b76)])) _
    refine st89 _ ?_
    show Steps p.tables e below (T89.setTop (mkF m 318 #[.val (.ref a1), .val (.int p2), .val (.int p3), .val (.int (12 : Int32))] [(.ref b77), (.ref b76), (.ref b76)])) _
    refine y_dup X89 hx hby d1_318 rfl ?_
    refine y_iconst X89 hx hby (v := (4 : Int32)) d1_319 rfl ?_
    refine y_aloadN X89 hx hby d1_320 rfl rfl ?_
    refine y_iconst X89 hx hby (v := (4 : Int32)) d1_321 rfl ?_
    refine y_iloadN X89 hx hby d1_322 rfl ?_
    refine y_iloadN X89 hx hby d1_323 rfl ?_
    refine st90 _ ?_
    show Steps p.tables e below (T90.setTop (mkF m 327 #[.val (.ref a1), .val (.int p2), .val (.int p3), .val (.int (12 : Int32))] [(.int (atv cs1 4 (4 : Int32) p2 p3)), (.int (4 : Int32)), (.ref b77), (.ref b77), (.ref b76), (.ref b76)])) _
    refine st92 _ ?_
    show Steps p.tables e below (T92.setTop (mkF m 328 #[.val (.ref a1), .val (.int p2), .val (.int p3), .val (.int (12 : Int32))] [(.ref b77), (.ref b76), (.ref b76)])) _
    refine y_dup X92 hx hby d1_328 rfl ?_
    refine y_iconst X92 hx hby (v := (5 : Int32)) d1_329 rfl ?_
    refine y_aloadN X92 hx hby d1_330 rfl rfl ?_
    refine y_iconst X92 hx hby (v := (5 : Int32)) d1_331 rfl ?_
    refine y_iloadN X92 hx hby d1_332 rfl ?_
    refine y_iloadN X92 hx hby d1_333 rfl ?_
    refine st93 _ ?_
    show Steps p.tables e below (T93.setTop (mkF m 337 #[.val (.ref a1), .val (.int p2), .val (.int p3), .val (.int (12 : Int32))] [(.int (atv cs1 5 (5 : Int32) p2 p3)), (.int (5 : Int32)), (.ref b77), (.ref b77), (.ref b76), (.ref b76)])) _
    refine st95 _ ?_
    show Steps p.tables e below (T95.setTop (mkF m 338 #[.val (.ref a1), .val (.int p2), .val (.int p3), .val (.int (12 : Int32))] [(.ref b77), (.ref b76), (.ref b76)])) _
    refine y_dup X95 hx hby d1_338 rfl ?_
    refine y_bipush X95 hx hby (v := (6 : Int32)) d1_339 rfl ?_
    refine y_aloadN X95 hx hby d1_341 rfl rfl ?_
    refine y_bipush X95 hx hby (v := (6 : Int32)) d1_342 rfl ?_
    refine y_iloadN X95 hx hby d1_344 rfl ?_
    refine y_iloadN X95 hx hby d1_345 rfl ?_
    refine st96 _ ?_
    show Steps p.tables e below (T96.setTop (mkF m 349 #[.val (.ref a1), .val (.int p2), .val (.int p3), .val (.int (12 : Int32))] [(.int (atv cs1 6 (6 : Int32) p2 p3)), (.int (6 : Int32)), (.ref b77), (.ref b77), (.ref b76), (.ref b76)])) _
    refine st98 _ ?_
    show Steps p.tables e below (T98.setTop (mkF m 350 #[.val (.ref a1), .val (.int p2), .val (.int p3), .val (.int (12 : Int32))] [(.ref b77), (.ref b76), (.ref b76)])) _
    refine y_dup X98 hx hby d1_350 rfl ?_
    refine y_bipush X98 hx hby (v := (7 : Int32)) d1_351 rfl ?_
    refine y_aloadN X98 hx hby d1_353 rfl rfl ?_
    refine y_bipush X98 hx hby (v := (7 : Int32)) d1_354 rfl ?_
    refine y_iloadN X98 hx hby d1_356 rfl ?_
    refine y_iloadN X98 hx hby d1_357 rfl ?_
    refine st99 _ ?_
    show Steps p.tables e below (T99.setTop (mkF m 361 #[.val (.ref a1), .val (.int p2), .val (.int p3), .val (.int (12 : Int32))] [(.int (atv cs1 7 (7 : Int32) p2 p3)), (.int (7 : Int32)), (.ref b77), (.ref b77), (.ref b76), (.ref b76)])) _
    refine st101 _ ?_
    show Steps p.tables e below (T101.setTop (mkF m 362 #[.val (.ref a1), .val (.int p2), .val (.int p3), .val (.int (12 : Int32))] [(.ref b77), (.ref b76), (.ref b76)])) _
    refine y_dup X101 hx hby d1_362 rfl ?_
    refine y_bipush X101 hx hby (v := (8 : Int32)) d1_363 rfl ?_
    refine y_aloadN X101 hx hby d1_365 rfl rfl ?_
    refine y_bipush X101 hx hby (v := (8 : Int32)) d1_366 rfl ?_
    refine y_iloadN X101 hx hby d1_368 rfl ?_
    refine y_iloadN X101 hx hby d1_369 rfl ?_
    refine st102 _ ?_
    show Steps p.tables e below (T102.setTop (mkF m 373 #[.val (.ref a1), .val (.int p2), .val (.int p3), .val (.int (12 : Int32))] [(.int (atv cs1 8 (8 : Int32) p2 p3)), (.int (8 : Int32)), (.ref b77), (.ref b77), (.ref b76), (.ref b76)])) _
    refine st104 _ ?_
    show Steps p.tables e below (T104.setTop (mkF m 374 #[.val (.ref a1), .val (.int p2), .val (.int p3), .val (.int (12 : Int32))] [(.ref b77), (.ref b76), (.ref b76)])) _
    refine y_dup X104 hx hby d1_374 rfl ?_
    refine y_bipush X104 hx hby (v := (9 : Int32)) d1_375 rfl ?_
    refine y_aloadN X104 hx hby d1_377 rfl rfl ?_
    refine y_bipush X104 hx hby (v := (9 : Int32)) d1_378 rfl ?_
    refine y_iloadN X104 hx hby d1_380 rfl ?_
    refine y_iloadN X104 hx hby d1_381 rfl ?_
    refine st105 _ ?_
    show Steps p.tables e below (T105.setTop (mkF m 385 #[.val (.ref a1), .val (.int p2), .val (.int p3), .val (.int (12 : Int32))] [(.int (atv cs1 9 (9 : Int32) p2 p3)), (.int (9 : Int32)), (.ref b77), (.ref b77), (.ref b76), (.ref b76)])) _
    refine st107 _ ?_
    show Steps p.tables e below (T107.setTop (mkF m 386 #[.val (.ref a1), .val (.int p2), .val (.int p3), .val (.int (12 : Int32))] [(.ref b77), (.ref b76), (.ref b76)])) _
    refine y_dup X107 hx hby d1_386 rfl ?_
    refine y_bipush X107 hx hby (v := (10 : Int32)) d1_387 rfl ?_
    refine y_aloadN X107 hx hby d1_389 rfl rfl ?_
    refine y_bipush X107 hx hby (v := (10 : Int32)) d1_390 rfl ?_
    refine y_iloadN X107 hx hby d1_392 rfl ?_
    refine y_iloadN X107 hx hby d1_393 rfl ?_
    refine st108 _ ?_
    show Steps p.tables e below (T108.setTop (mkF m 397 #[.val (.ref a1), .val (.int p2), .val (.int p3), .val (.int (12 : Int32))] [(.int (atv cs1 10 (10 : Int32) p2 p3)), (.int (10 : Int32)), (.ref b77), (.ref b77), (.ref b76), (.ref b76)])) _
    refine st110 _ ?_
    show Steps p.tables e below (T110.setTop (mkF m 398 #[.val (.ref a1), .val (.int p2), .val (.int p3), .val (.int (12 : Int32))] [(.ref b77), (.ref b76), (.ref b76)])) _
    refine y_dup X110 hx hby d1_398 rfl ?_
    refine y_bipush X110 hx hby (v := (11 : Int32)) d1_399 rfl ?_
    refine y_aloadN X110 hx hby d1_401 rfl rfl ?_
    refine y_bipush X110 hx hby (v := (11 : Int32)) d1_402 rfl ?_
    refine y_iloadN X110 hx hby d1_404 rfl ?_
    refine y_iloadN X110 hx hby d1_405 rfl ?_
    refine st111 _ ?_
    show Steps p.tables e below (T111.setTop (mkF m 409 #[.val (.ref a1), .val (.int p2), .val (.int p3), .val (.int (12 : Int32))] [(.int (atv cs1 11 (11 : Int32) p2 p3)), (.int (11 : Int32)), (.ref b77), (.ref b77), (.ref b76), (.ref b76)])) _
    refine st113 _ ?_
    show Steps p.tables e below (T113.setTop (mkF m 410 #[.val (.ref a1), .val (.int p2), .val (.int p3), .val (.int (12 : Int32))] [(.ref b77), (.ref b76), (.ref b76)])) _
    refine st114.trans ?_
    show Steps p.tables e below (T114.setTop (mkF m 413 #[.val (.ref a1), .val (.int p2), .val (.int p3), .val (.int (12 : Int32))] [(.ref b76)])) _
    jvm_step X114.here [X114.here.top, hx, (hb hby d1_413), X114.method', Bd.returns, Value.isRef, FieldType.isReference]
    first | (intro acts; rw [hr _ acts rfl rfl rfl]) | rw [hr _ _ rfl rfl rfl]
    exact Steps.refl _
  · show QM Z _ _ h0 n0 _ T114.heap _
    rw [e114]
    exact ⟨_, _, _, rfl, N114, KK, sz_b76, sz_B114, E_b76, F_coder_b76, F_value_b76, V_B114⟩
theorem d1_414 : decode method_3_code 414 = .ok (.new 8, 3) := by decide +kernel
theorem d1_417 : decode method_3_code 417 = .ok (.dup, 1) := by decide +kernel
theorem d1_418 : decode method_3_code 418 = .ok (.bipush 13, 2) := by decide +kernel
theorem d1_420 : decode method_3_code 420 = .ok (.newarray .char, 2) := by decide +kernel
theorem d1_422 : decode method_3_code 422 = .ok (.dup, 1) := by decide +kernel
theorem d1_423 : decode method_3_code 423 = .ok (.iconst 0, 1) := by decide +kernel
theorem d1_424 : decode method_3_code 424 = .ok (.aload_n 0, 1) := by decide +kernel
theorem d1_425 : decode method_3_code 425 = .ok (.iconst 0, 1) := by decide +kernel
theorem d1_426 : decode method_3_code 426 = .ok (.iload_n 1, 1) := by decide +kernel
theorem d1_427 : decode method_3_code 427 = .ok (.iload_n 2, 1) := by decide +kernel
theorem d1_428 : decode method_3_code 428 = .ok (.invokestatic 17, 3) := by decide +kernel
theorem d1_431 : decode method_3_code 431 = .ok (.castore, 1) := by decide +kernel
theorem d1_432 : decode method_3_code 432 = .ok (.dup, 1) := by decide +kernel
theorem d1_433 : decode method_3_code 433 = .ok (.iconst 1, 1) := by decide +kernel
theorem d1_434 : decode method_3_code 434 = .ok (.aload_n 0, 1) := by decide +kernel
theorem d1_435 : decode method_3_code 435 = .ok (.iconst 1, 1) := by decide +kernel
theorem d1_436 : decode method_3_code 436 = .ok (.iload_n 1, 1) := by decide +kernel
theorem d1_437 : decode method_3_code 437 = .ok (.iload_n 2, 1) := by decide +kernel
theorem d1_438 : decode method_3_code 438 = .ok (.invokestatic 17, 3) := by decide +kernel
theorem d1_441 : decode method_3_code 441 = .ok (.castore, 1) := by decide +kernel
theorem d1_442 : decode method_3_code 442 = .ok (.dup, 1) := by decide +kernel
theorem d1_443 : decode method_3_code 443 = .ok (.iconst 2, 1) := by decide +kernel
theorem d1_444 : decode method_3_code 444 = .ok (.aload_n 0, 1) := by decide +kernel
theorem d1_445 : decode method_3_code 445 = .ok (.iconst 2, 1) := by decide +kernel
theorem d1_446 : decode method_3_code 446 = .ok (.iload_n 1, 1) := by decide +kernel
theorem d1_447 : decode method_3_code 447 = .ok (.iload_n 2, 1) := by decide +kernel
theorem d1_448 : decode method_3_code 448 = .ok (.invokestatic 17, 3) := by decide +kernel
theorem d1_451 : decode method_3_code 451 = .ok (.castore, 1) := by decide +kernel
theorem d1_452 : decode method_3_code 452 = .ok (.dup, 1) := by decide +kernel
theorem d1_453 : decode method_3_code 453 = .ok (.iconst 3, 1) := by decide +kernel
theorem d1_454 : decode method_3_code 454 = .ok (.aload_n 0, 1) := by decide +kernel
theorem d1_455 : decode method_3_code 455 = .ok (.iconst 3, 1) := by decide +kernel
theorem d1_456 : decode method_3_code 456 = .ok (.iload_n 1, 1) := by decide +kernel
theorem d1_457 : decode method_3_code 457 = .ok (.iload_n 2, 1) := by decide +kernel
theorem d1_458 : decode method_3_code 458 = .ok (.invokestatic 17, 3) := by decide +kernel
theorem d1_461 : decode method_3_code 461 = .ok (.castore, 1) := by decide +kernel
theorem d1_462 : decode method_3_code 462 = .ok (.dup, 1) := by decide +kernel
theorem d1_463 : decode method_3_code 463 = .ok (.iconst 4, 1) := by decide +kernel
theorem d1_464 : decode method_3_code 464 = .ok (.aload_n 0, 1) := by decide +kernel
theorem d1_465 : decode method_3_code 465 = .ok (.iconst 4, 1) := by decide +kernel
theorem d1_466 : decode method_3_code 466 = .ok (.iload_n 1, 1) := by decide +kernel
theorem d1_467 : decode method_3_code 467 = .ok (.iload_n 2, 1) := by decide +kernel
theorem d1_468 : decode method_3_code 468 = .ok (.invokestatic 17, 3) := by decide +kernel
theorem d1_471 : decode method_3_code 471 = .ok (.castore, 1) := by decide +kernel
theorem d1_472 : decode method_3_code 472 = .ok (.dup, 1) := by decide +kernel
theorem d1_473 : decode method_3_code 473 = .ok (.iconst 5, 1) := by decide +kernel
theorem d1_474 : decode method_3_code 474 = .ok (.aload_n 0, 1) := by decide +kernel
theorem d1_475 : decode method_3_code 475 = .ok (.iconst 5, 1) := by decide +kernel
theorem d1_476 : decode method_3_code 476 = .ok (.iload_n 1, 1) := by decide +kernel
theorem d1_477 : decode method_3_code 477 = .ok (.iload_n 2, 1) := by decide +kernel
theorem d1_478 : decode method_3_code 478 = .ok (.invokestatic 17, 3) := by decide +kernel
theorem d1_481 : decode method_3_code 481 = .ok (.castore, 1) := by decide +kernel
theorem d1_482 : decode method_3_code 482 = .ok (.dup, 1) := by decide +kernel
theorem d1_483 : decode method_3_code 483 = .ok (.bipush 6, 2) := by decide +kernel
theorem d1_485 : decode method_3_code 485 = .ok (.aload_n 0, 1) := by decide +kernel
theorem d1_486 : decode method_3_code 486 = .ok (.bipush 6, 2) := by decide +kernel
theorem d1_488 : decode method_3_code 488 = .ok (.iload_n 1, 1) := by decide +kernel
theorem d1_489 : decode method_3_code 489 = .ok (.iload_n 2, 1) := by decide +kernel
theorem d1_490 : decode method_3_code 490 = .ok (.invokestatic 17, 3) := by decide +kernel
theorem d1_493 : decode method_3_code 493 = .ok (.castore, 1) := by decide +kernel
theorem d1_494 : decode method_3_code 494 = .ok (.dup, 1) := by decide +kernel
theorem d1_495 : decode method_3_code 495 = .ok (.bipush 7, 2) := by decide +kernel
theorem d1_497 : decode method_3_code 497 = .ok (.aload_n 0, 1) := by decide +kernel
theorem d1_498 : decode method_3_code 498 = .ok (.bipush 7, 2) := by decide +kernel
theorem d1_500 : decode method_3_code 500 = .ok (.iload_n 1, 1) := by decide +kernel
theorem d1_501 : decode method_3_code 501 = .ok (.iload_n 2, 1) := by decide +kernel
theorem d1_502 : decode method_3_code 502 = .ok (.invokestatic 17, 3) := by decide +kernel
theorem d1_505 : decode method_3_code 505 = .ok (.castore, 1) := by decide +kernel
theorem d1_506 : decode method_3_code 506 = .ok (.dup, 1) := by decide +kernel
theorem d1_507 : decode method_3_code 507 = .ok (.bipush 8, 2) := by decide +kernel
theorem d1_509 : decode method_3_code 509 = .ok (.aload_n 0, 1) := by decide +kernel
theorem d1_510 : decode method_3_code 510 = .ok (.bipush 8, 2) := by decide +kernel
theorem d1_512 : decode method_3_code 512 = .ok (.iload_n 1, 1) := by decide +kernel
theorem d1_513 : decode method_3_code 513 = .ok (.iload_n 2, 1) := by decide +kernel
theorem d1_514 : decode method_3_code 514 = .ok (.invokestatic 17, 3) := by decide +kernel
theorem d1_517 : decode method_3_code 517 = .ok (.castore, 1) := by decide +kernel
theorem d1_518 : decode method_3_code 518 = .ok (.dup, 1) := by decide +kernel
theorem d1_519 : decode method_3_code 519 = .ok (.bipush 9, 2) := by decide +kernel
theorem d1_521 : decode method_3_code 521 = .ok (.aload_n 0, 1) := by decide +kernel
theorem d1_522 : decode method_3_code 522 = .ok (.bipush 9, 2) := by decide +kernel
theorem d1_524 : decode method_3_code 524 = .ok (.iload_n 1, 1) := by decide +kernel
theorem d1_525 : decode method_3_code 525 = .ok (.iload_n 2, 1) := by decide +kernel
theorem d1_526 : decode method_3_code 526 = .ok (.invokestatic 17, 3) := by decide +kernel
theorem d1_529 : decode method_3_code 529 = .ok (.castore, 1) := by decide +kernel
theorem d1_530 : decode method_3_code 530 = .ok (.dup, 1) := by decide +kernel
theorem d1_531 : decode method_3_code 531 = .ok (.bipush 10, 2) := by decide +kernel
theorem d1_533 : decode method_3_code 533 = .ok (.aload_n 0, 1) := by decide +kernel
theorem d1_534 : decode method_3_code 534 = .ok (.bipush 10, 2) := by decide +kernel
theorem d1_536 : decode method_3_code 536 = .ok (.iload_n 1, 1) := by decide +kernel
theorem d1_537 : decode method_3_code 537 = .ok (.iload_n 2, 1) := by decide +kernel
theorem d1_538 : decode method_3_code 538 = .ok (.invokestatic 17, 3) := by decide +kernel
theorem d1_541 : decode method_3_code 541 = .ok (.castore, 1) := by decide +kernel
theorem d1_542 : decode method_3_code 542 = .ok (.dup, 1) := by decide +kernel
theorem d1_543 : decode method_3_code 543 = .ok (.bipush 11, 2) := by decide +kernel
theorem d1_545 : decode method_3_code 545 = .ok (.aload_n 0, 1) := by decide +kernel
theorem d1_546 : decode method_3_code 546 = .ok (.bipush 11, 2) := by decide +kernel
theorem d1_548 : decode method_3_code 548 = .ok (.iload_n 1, 1) := by decide +kernel
theorem d1_549 : decode method_3_code 549 = .ok (.iload_n 2, 1) := by decide +kernel
theorem d1_550 : decode method_3_code 550 = .ok (.invokestatic 17, 3) := by decide +kernel
theorem d1_553 : decode method_3_code 553 = .ok (.castore, 1) := by decide +kernel
theorem d1_554 : decode method_3_code 554 = .ok (.dup, 1) := by decide +kernel
theorem d1_555 : decode method_3_code 555 = .ok (.bipush 12, 2) := by decide +kernel
theorem d1_557 : decode method_3_code 557 = .ok (.aload_n 0, 1) := by decide +kernel
theorem d1_558 : decode method_3_code 558 = .ok (.bipush 12, 2) := by decide +kernel
theorem d1_560 : decode method_3_code 560 = .ok (.iload_n 1, 1) := by decide +kernel
theorem d1_561 : decode method_3_code 561 = .ok (.iload_n 2, 1) := by decide +kernel
theorem d1_562 : decode method_3_code 562 = .ok (.invokestatic 17, 3) := by decide +kernel
theorem d1_565 : decode method_3_code 565 = .ok (.castore, 1) := by decide +kernel
theorem d1_566 : decode method_3_code 566 = .ok (.invokespecial 23, 3) := by decide +kernel
theorem d1_569 : decode method_3_code 569 = .ok (.areturn, 1) := by decide +kernel
set_option maxRecDepth 65536 in
set_option maxHeartbeats 40000000 in
theorem rm1_13 (l : Launch) (Z : State) (a0 : Array Value) (hw : HW a0 Z) (ws : List Jvm.Cond) (a1 : Addr) (p2 p3 : Int32) (t1 : Addr) (k1 : ClassId) (N1 : Int32) (vs1 : List Value) (cs1 : List Int32) (w_COMPACT_STRINGS : Int32) (fm : Value) (h0 : Heap) (n0 : Nat) (Z0 : n0 ≤ h0.size) (S_COMPACT_STRINGS : Sta Z h0 "java/lang/String" "COMPACT_STRINGS" "Z" (.int w_COMPACT_STRINGS)) (hz : ¬ w_COMPACT_STRINGS = 0) (S_SIOOBE_FORMATTER : Sta Z h0 "jdk/internal/util/Preconditions" "SIOOBE_FORMATTER" "Ljava/util/function/BiFunction;" fm) (rf : fm.isRef = true) (hcd : StrChars.Road.CodA cs1 0 N1 vs1) (hr : RGs cs1) (hl : cs1.length ≤ 4000) (hc : RG p3) (E_a1 : Exa Z h0 a1 "java/lang/String") (F_coder_a1 : Fld Z h0 a1 "java/lang/String" "coder" "B" (.int (0 : Int32))) (F_value_a1 : Fld Z h0 a1 "java/lang/String" "value" "[B" (.ref t1)) (V_t1 : Arv Z h0 t1 k1 .byte N1 vs1 (.int (0 : Int32))) :
    MF l mn4 method_3_code 4 (some (.object "java/lang/String")) ws ({ frames := 5, cells := 3, slots := 30, locals := 73 } : Room) #[(.ref a1), (.int p2), (.int p3), (.int (13 : Int32))] Z h0 (QM Z (mkl cs1 p2 p3 13) (13 : Int32) h0 n0) := by
  refine MetFree.of_bodySF (plainFor_of_name pn_2) hisR ?_
  intro p e s m args below meth c s₁ Bd hml0 hP hK
  obtain ⟨rfl, hZ, hh⟩ := hP
  have hx := Bd.exec
  have hby := Bd.bytes
  have hml : c.maxLocals = 4 := hml0
  have hown : s.vm.findClass "com/example/assay/assay/config/RoleFromJsonNamePinLaw" = some m.cls := findClass_of_methodNamed Bd.named
  have hnm := (name_of_methodNamed Bd.named Bd.method).1
  have X0 : Stand p l e ({ frames := 5, cells := 3, slots := 30, locals := 73 } : Room) s m #[(.ref a1), (.int p2), (.int p3), (.int (13 : Int32))] below meth c s₁ [] 0 0 := Stand.of_body Bd
  have e0 : s₁.heap = h0 := by rw [← hh, Bd.state]; rfl
  have N0 := Fr.nil n0
  have pre0 : GO p e below (s₁.setTop (mkF m 0 #[.val (.ref a1), .val (.int p2), .val (.int p3), .val (.int (13 : Int32))] [])) (s₁.setTop (entryFrame m #[(.ref a1), (.int p2), (.int p3), (.int (13 : Int32))] 4)) := fun t k => castTop (ef_1 m a1 p2 p3 (13 : Int32)) k
  have KK := Keep.refl h0 []
  have hws : ∀ d ∈ StrChars.Road.words, d.before a0 Z = true := fun d hd => hw d ((by decide +kernel : ∀ d ∈ StrChars.Road.words, d ∈ tables_1) d hd)
  obtain ⟨T115, h115, X115, e115, E115, A115, D115, -, st115⟩ := newO X0 hx hZ hown (ww hw 13 rfl) (ww hw 2 rfl) (ww hw 1 rfl) e0 (g := (mkF m 414 #[.val (.ref a1), .val (.int p2), .val (.int p3), .val (.int (13 : Int32))] [])) rfl (hb hby d1_414) (by decide) (by decide)
  obtain ⟨b115, g115⟩ : ∃ z, z = h0.size := ⟨_, rfl⟩
  rw [← g115] at A115 D115 st115
  have g_b115 : n0 ≤ b115 := Nat.le_trans Z0 (Nat.le_of_eq g115.symm)
  have sz_b115 : h0.size ≤ b115 := Nat.le_trans KK.1 (Nat.le_of_eq g115.symm)
  have ne_a1_b115 : a1 ≠ b115 := Nat.ne_of_lt (Nat.lt_of_lt_of_le E_a1.lt (Nat.le_of_eq g115.symm))
  have ne_t1_b115 : t1 ≠ b115 := Nat.ne_of_lt (Nat.lt_of_lt_of_le V_t1.lt (Nat.le_of_eq g115.symm))
  replace E_a1 := E_a1.ext E115
  replace F_coder_a1 := F_coder_a1.ext E115
  replace F_value_a1 := F_value_a1.ext E115
  replace V_t1 := V_t1.ext E115
  replace S_COMPACT_STRINGS := S_COMPACT_STRINGS.ext E115
  replace S_SIOOBE_FORMATTER := S_SIOOBE_FORMATTER.ext E115
  replace Z0 := Nat.le_trans Z0 E115.1
  replace KK := KK.ext E115
  have E_b115 := A115
  have F_value_b115 : Fld Z h115 b115 "java/lang/String" "value" "[B" .null := D115 (Or.inr (ww hw 4 rfl)) (ty := (.array .byte)) (by decide)
  have F_coder_b115 : Fld Z h115 b115 "java/lang/String" "coder" "B" (.int (0 : Int32)) := D115 (Or.inr (ww hw 5 rfl)) (ty := .byte) (by decide)
  obtain ⟨T116, h116, k116, X116, e116, E116, A116, st116⟩ := newP X115 hx hZ (ww hw 14 rfl) e115 (g := (mkF m 420 #[.val (.ref a1), .val (.int p2), .val (.int p3), .val (.int (13 : Int32))] [(.int (13 : Int32)), (.ref b115), (.ref b115)])) rfl (hb hby d1_420) rfl (by decide) (cap := 13) (by decide) (by decide) (by decide) (by decide)
  obtain ⟨b116, g116⟩ : ∃ z, z = h115.size := ⟨_, rfl⟩
  rw [← g116] at A116 st116
  have g_b116 : n0 ≤ b116 := Nat.le_trans Z0 (Nat.le_of_eq g116.symm)
  have sz_b116 : h0.size ≤ b116 := Nat.le_trans KK.1 (Nat.le_of_eq g116.symm)
  have ne_a1_b116 : a1 ≠ b116 := Nat.ne_of_lt (Nat.lt_of_lt_of_le E_a1.lt (Nat.le_of_eq g116.symm))
  have ne_t1_b116 : t1 ≠ b116 := Nat.ne_of_lt (Nat.lt_of_lt_of_le V_t1.lt (Nat.le_of_eq g116.symm))
  have ne_b115_b116 : b115 ≠ b116 := Nat.ne_of_lt (Nat.lt_of_lt_of_le E_b115.lt (Nat.le_of_eq g116.symm))
  replace E_a1 := E_a1.ext E116
  replace F_coder_a1 := F_coder_a1.ext E116
  replace F_value_a1 := F_value_a1.ext E116
  replace V_t1 := V_t1.ext E116
  replace S_COMPACT_STRINGS := S_COMPACT_STRINGS.ext E116
  replace S_SIOOBE_FORMATTER := S_SIOOBE_FORMATTER.ext E116
  replace E_b115 := E_b115.ext E116
  replace F_value_b115 := F_value_b115.ext E116
  replace F_coder_b115 := F_coder_b115.ext E116
  replace Z0 := Nat.le_trans Z0 E116.1
  replace KK := KK.ext E116
  have V_b116 : Arv Z h116 b116 k116 .char (13 : Int32) [(.int (0 : Int32)), (.int (0 : Int32)), (.int (0 : Int32)), (.int (0 : Int32)), (.int (0 : Int32)), (.int (0 : Int32)), (.int (0 : Int32)), (.int (0 : Int32)), (.int (0 : Int32)), (.int (0 : Int32)), (.int (0 : Int32)), (.int (0 : Int32)), (.int (0 : Int32))] (.int (0 : Int32)) := (Arv.new A116 (by decide)).pad (pad_rep [] (.int (0 : Int32)) 13)
  obtain ⟨_, _, ⟨T117, L117, k117, n117⟩, -, X117, ⟨Lc117, hQ117, l117, y117, z117⟩, st117⟩ := Jvm.LawKit.callS X116 hx (y := mn2) hown (mvT hZ (ww hw 15 rfl)) (mvT hZ (ww hw 16 rfl)) (mvT hZ (ww hw 11 rfl)) (mvT hZ (ww hw 17 rfl)) (by decide) (backOf (W := 5) (rm2 l Z a0 hw [] a1 (0 : Int32) p2 p3 t1 k1 N1 vs1 cs1 0 w_COMPACT_STRINGS fm h116 n0 Z0 S_COMPACT_STRINGS hz S_SIOOBE_FORMATTER rf hcd hr hl rfl (by decide) E_a1 F_coder_a1 F_value_a1 V_t1) hZ (ww hw 17 rfl) (ww hw 11 rfl) (by decide) (by decide)) (g := (mkF m 428 #[.val (.ref a1), .val (.int p2), .val (.int p3), .val (.int (13 : Int32))] [(.int p3), (.int p2), (.int (0 : Int32)), (.ref a1), (.int (0 : Int32)), (.ref b116), (.ref b116), (.ref b115), (.ref b115)])) rfl (by rw [hml]; rfl) (argsL := [(.ref a1), (.int (0 : Int32)), (.int p2), (.int p3)]) (rest := [(.int (0 : Int32)), (.ref b116), (.ref b116), (.ref b115), (.ref b115)]) (lenOf pd_2 rfl) rfl (by show 2 * 0 + _ ≤ _; exact Nat.le_of_eq rfl) (hb hby d1_428) (fun _ _ => ⟨rfl, e116, (by decide : 2 + 0 ≤ _), (by decide : 17 + 0 ≤ _)⟩)
  dsimp only [Pt.U, Pt.locs, Pt.cells, Pt.slots] at X117 l117 y117 z117 st117 hQ117
  rw [l117, y117, z117] at X117
  obtain ⟨rfl, N117q, e117⟩ := hQ117
  have q117 : f2 a1 (0 : Int32) p2 p3 t1 k1 N1 vs1 cs1 0 w_COMPACT_STRINGS fm = (atv cs1 0 (0 : Int32) p2 p3) := rfl
  rw [q117] at st117
  have N117 := Fr.app N0 N117q
  obtain ⟨cl118, Ar118, q118, Sz118, Nn118, Hh118, Gg118⟩ := V_b116
  have hin118 : ¬ ((0 : Int32) < 0 ∨ cl118.slots.size ≤ ((0 : Int32)).toNatClampNeg) := inb_of Sz118 ⟨by decide, by decide⟩
  obtain ⟨T119, h119, X119, e119, W119, st119⟩ := stC X117 hx hZ e117 Ar118 (j := (0 : Int32)) hin118 (g := (mkF m 431 #[.val (.ref a1), .val (.int p2), .val (.int p3), .val (.int (13 : Int32))] [(.int (atv cs1 0 (0 : Int32) p2 p3)), (.int (0 : Int32)), (.ref b116), (.ref b116), (.ref b115), (.ref b115)])) rfl rfl (hb hby d1_431)
  replace E_a1 := E_a1.wr W119
  replace F_coder_a1 := F_coder_a1.other W119 (Or.inl ne_a1_b116)
  replace F_value_a1 := F_value_a1.other W119 (Or.inl ne_a1_b116)
  replace V_t1 := V_t1.other W119 ne_t1_b116
  replace S_COMPACT_STRINGS := S_COMPACT_STRINGS.wr W119
  replace S_SIOOBE_FORMATTER := S_SIOOBE_FORMATTER.wr W119
  replace E_b115 := E_b115.wr W119
  replace F_value_b115 := F_value_b115.other W119 (Or.inl ne_b115_b116)
  replace F_coder_b115 := F_coder_b115.other W119 (Or.inl ne_b115_b116)
  replace Z0 := Nat.le_trans Z0 (Keep.of_wr W119).1
  replace KK := KK.wr W119 (Or.inr sz_b116)
  have V_b116 : Arv Z h119 b116 k116 .char (13 : Int32) [(.int ((atv cs1 0 (0 : Int32) p2 p3).toUInt32.toUInt16.toUInt32.toInt32)), (.int (0 : Int32)), (.int (0 : Int32)), (.int (0 : Int32)), (.int (0 : Int32)), (.int (0 : Int32)), (.int (0 : Int32)), (.int (0 : Int32)), (.int (0 : Int32)), (.int (0 : Int32)), (.int (0 : Int32)), (.int (0 : Int32)), (.int (0 : Int32))] (.int (0 : Int32)) := Arv.set Ar118 q118 Sz118 Nn118 Hh118 Gg118 (fits_nar_char _) W119 0 rfl (Nat.le_of_ble_eq_true rfl)
  have N119 := Fr.snoc X119 N117 g_b116
  obtain ⟨_, _, ⟨T120, L120, k120, n120⟩, -, X120, ⟨Lc120, hQ120, l120, y120, z120⟩, st120⟩ := Jvm.LawKit.callS X119 hx (y := mn2) hown (mvT hZ (ww hw 15 rfl)) (mvT hZ (ww hw 16 rfl)) (mvT hZ (ww hw 11 rfl)) (mvT hZ (ww hw 17 rfl)) (by decide) (backOf (W := 5) (rm2 l Z a0 hw [] a1 (1 : Int32) p2 p3 t1 k1 N1 vs1 cs1 1 w_COMPACT_STRINGS fm h119 n0 Z0 S_COMPACT_STRINGS hz S_SIOOBE_FORMATTER rf hcd hr hl rfl (by decide) E_a1 F_coder_a1 F_value_a1 V_t1) hZ (ww hw 17 rfl) (ww hw 11 rfl) (by decide) (by decide)) (g := (mkF m 438 #[.val (.ref a1), .val (.int p2), .val (.int p3), .val (.int (13 : Int32))] [(.int p3), (.int p2), (.int (1 : Int32)), (.ref a1), (.int (1 : Int32)), (.ref b116), (.ref b116), (.ref b115), (.ref b115)])) rfl (by rw [hml]; rfl) (argsL := [(.ref a1), (.int (1 : Int32)), (.int p2), (.int p3)]) (rest := [(.int (1 : Int32)), (.ref b116), (.ref b116), (.ref b115), (.ref b115)]) (lenOf pd_2 rfl) rfl (by show 2 * 0 + _ ≤ _; exact Nat.le_of_eq rfl) (hb hby d1_438) (fun _ _ => ⟨rfl, e119, (by decide : 2 + 0 ≤ _), (by decide : 17 + 0 ≤ _)⟩)
  dsimp only [Pt.U, Pt.locs, Pt.cells, Pt.slots] at X120 l120 y120 z120 st120 hQ120
  rw [l120, y120, z120] at X120
  obtain ⟨rfl, N120q, e120⟩ := hQ120
  have q120 : f2 a1 (1 : Int32) p2 p3 t1 k1 N1 vs1 cs1 1 w_COMPACT_STRINGS fm = (atv cs1 1 (1 : Int32) p2 p3) := rfl
  rw [q120] at st120
  have N120 := Fr.app N119 N120q
  obtain ⟨cl121, Ar121, q121, Sz121, Nn121, Hh121, Gg121⟩ := V_b116
  have hin121 : ¬ ((1 : Int32) < 0 ∨ cl121.slots.size ≤ ((1 : Int32)).toNatClampNeg) := inb_of Sz121 ⟨by decide, by decide⟩
  obtain ⟨T122, h122, X122, e122, W122, st122⟩ := stC X120 hx hZ e120 Ar121 (j := (1 : Int32)) hin121 (g := (mkF m 441 #[.val (.ref a1), .val (.int p2), .val (.int p3), .val (.int (13 : Int32))] [(.int (atv cs1 1 (1 : Int32) p2 p3)), (.int (1 : Int32)), (.ref b116), (.ref b116), (.ref b115), (.ref b115)])) rfl rfl (hb hby d1_441)
  replace E_a1 := E_a1.wr W122
  replace F_coder_a1 := F_coder_a1.other W122 (Or.inl ne_a1_b116)
  replace F_value_a1 := F_value_a1.other W122 (Or.inl ne_a1_b116)
  replace V_t1 := V_t1.other W122 ne_t1_b116
  replace S_COMPACT_STRINGS := S_COMPACT_STRINGS.wr W122
  replace S_SIOOBE_FORMATTER := S_SIOOBE_FORMATTER.wr W122
  replace E_b115 := E_b115.wr W122
  replace F_value_b115 := F_value_b115.other W122 (Or.inl ne_b115_b116)
  replace F_coder_b115 := F_coder_b115.other W122 (Or.inl ne_b115_b116)
  replace Z0 := Nat.le_trans Z0 (Keep.of_wr W122).1
  replace KK := KK.wr W122 (Or.inr sz_b116)
  have V_b116 : Arv Z h122 b116 k116 .char (13 : Int32) [(.int ((atv cs1 0 (0 : Int32) p2 p3).toUInt32.toUInt16.toUInt32.toInt32)), (.int ((atv cs1 1 (1 : Int32) p2 p3).toUInt32.toUInt16.toUInt32.toInt32)), (.int (0 : Int32)), (.int (0 : Int32)), (.int (0 : Int32)), (.int (0 : Int32)), (.int (0 : Int32)), (.int (0 : Int32)), (.int (0 : Int32)), (.int (0 : Int32)), (.int (0 : Int32)), (.int (0 : Int32)), (.int (0 : Int32))] (.int (0 : Int32)) := Arv.set Ar121 q121 Sz121 Nn121 Hh121 Gg121 (fits_nar_char _) W122 1 rfl (Nat.le_of_ble_eq_true rfl)
  have N122 := Fr.snoc X122 N120 g_b116
  obtain ⟨_, _, ⟨T123, L123, k123, n123⟩, -, X123, ⟨Lc123, hQ123, l123, y123, z123⟩, st123⟩ := Jvm.LawKit.callS X122 hx (y := mn2) hown (mvT hZ (ww hw 15 rfl)) (mvT hZ (ww hw 16 rfl)) (mvT hZ (ww hw 11 rfl)) (mvT hZ (ww hw 17 rfl)) (by decide) (backOf (W := 5) (rm2 l Z a0 hw [] a1 (2 : Int32) p2 p3 t1 k1 N1 vs1 cs1 2 w_COMPACT_STRINGS fm h122 n0 Z0 S_COMPACT_STRINGS hz S_SIOOBE_FORMATTER rf hcd hr hl rfl (by decide) E_a1 F_coder_a1 F_value_a1 V_t1) hZ (ww hw 17 rfl) (ww hw 11 rfl) (by decide) (by decide)) (g := (mkF m 448 #[.val (.ref a1), .val (.int p2), .val (.int p3), .val (.int (13 : Int32))] [(.int p3), (.int p2), (.int (2 : Int32)), (.ref a1), (.int (2 : Int32)), (.ref b116), (.ref b116), (.ref b115), (.ref b115)])) rfl (by rw [hml]; rfl) (argsL := [(.ref a1), (.int (2 : Int32)), (.int p2), (.int p3)]) (rest := [(.int (2 : Int32)), (.ref b116), (.ref b116), (.ref b115), (.ref b115)]) (lenOf pd_2 rfl) rfl (by show 2 * 0 + _ ≤ _; exact Nat.le_of_eq rfl) (hb hby d1_448) (fun _ _ => ⟨rfl, e122, (by decide : 2 + 0 ≤ _), (by decide : 17 + 0 ≤ _)⟩)
  dsimp only [Pt.U, Pt.locs, Pt.cells, Pt.slots] at X123 l123 y123 z123 st123 hQ123
  rw [l123, y123, z123] at X123
  obtain ⟨rfl, N123q, e123⟩ := hQ123
  have q123 : f2 a1 (2 : Int32) p2 p3 t1 k1 N1 vs1 cs1 2 w_COMPACT_STRINGS fm = (atv cs1 2 (2 : Int32) p2 p3) := rfl
  rw [q123] at st123
  have N123 := Fr.app N122 N123q
  obtain ⟨cl124, Ar124, q124, Sz124, Nn124, Hh124, Gg124⟩ := V_b116
  have hin124 : ¬ ((2 : Int32) < 0 ∨ cl124.slots.size ≤ ((2 : Int32)).toNatClampNeg) := inb_of Sz124 ⟨by decide, by decide⟩
  obtain ⟨T125, h125, X125, e125, W125, st125⟩ := stC X123 hx hZ e123 Ar124 (j := (2 : Int32)) hin124 (g := (mkF m 451 #[.val (.ref a1), .val (.int p2), .val (.int p3), .val (.int (13 : Int32))] [(.int (atv cs1 2 (2 : Int32) p2 p3)), (.int (2 : Int32)), (.ref b116), (.ref b116), (.ref b115), (.ref b115)])) rfl rfl (hb hby d1_451)
  replace E_a1 := E_a1.wr W125
  replace F_coder_a1 := F_coder_a1.other W125 (Or.inl ne_a1_b116)
  replace F_value_a1 := F_value_a1.other W125 (Or.inl ne_a1_b116)
  replace V_t1 := V_t1.other W125 ne_t1_b116
  replace S_COMPACT_STRINGS := S_COMPACT_STRINGS.wr W125
  replace S_SIOOBE_FORMATTER := S_SIOOBE_FORMATTER.wr W125
  replace E_b115 := E_b115.wr W125
  replace F_value_b115 := F_value_b115.other W125 (Or.inl ne_b115_b116)
  replace F_coder_b115 := F_coder_b115.other W125 (Or.inl ne_b115_b116)
  replace Z0 := Nat.le_trans Z0 (Keep.of_wr W125).1
  replace KK := KK.wr W125 (Or.inr sz_b116)
  have V_b116 : Arv Z h125 b116 k116 .char (13 : Int32) [(.int ((atv cs1 0 (0 : Int32) p2 p3).toUInt32.toUInt16.toUInt32.toInt32)), (.int ((atv cs1 1 (1 : Int32) p2 p3).toUInt32.toUInt16.toUInt32.toInt32)), (.int ((atv cs1 2 (2 : Int32) p2 p3).toUInt32.toUInt16.toUInt32.toInt32)), (.int (0 : Int32)), (.int (0 : Int32)), (.int (0 : Int32)), (.int (0 : Int32)), (.int (0 : Int32)), (.int (0 : Int32)), (.int (0 : Int32)), (.int (0 : Int32)), (.int (0 : Int32)), (.int (0 : Int32))] (.int (0 : Int32)) := Arv.set Ar124 q124 Sz124 Nn124 Hh124 Gg124 (fits_nar_char _) W125 2 rfl (Nat.le_of_ble_eq_true rfl)
  have N125 := Fr.snoc X125 N123 g_b116
  obtain ⟨_, _, ⟨T126, L126, k126, n126⟩, -, X126, ⟨Lc126, hQ126, l126, y126, z126⟩, st126⟩ := Jvm.LawKit.callS X125 hx (y := mn2) hown (mvT hZ (ww hw 15 rfl)) (mvT hZ (ww hw 16 rfl)) (mvT hZ (ww hw 11 rfl)) (mvT hZ (ww hw 17 rfl)) (by decide) (backOf (W := 5) (rm2 l Z a0 hw [] a1 (3 : Int32) p2 p3 t1 k1 N1 vs1 cs1 3 w_COMPACT_STRINGS fm h125 n0 Z0 S_COMPACT_STRINGS hz S_SIOOBE_FORMATTER rf hcd hr hl rfl (by decide) E_a1 F_coder_a1 F_value_a1 V_t1) hZ (ww hw 17 rfl) (ww hw 11 rfl) (by decide) (by decide)) (g := (mkF m 458 #[.val (.ref a1), .val (.int p2), .val (.int p3), .val (.int (13 : Int32))] [(.int p3), (.int p2), (.int (3 : Int32)), (.ref a1), (.int (3 : Int32)), (.ref b116), (.ref b116), (.ref b115), (.ref b115)])) rfl (by rw [hml]; rfl) (argsL := [(.ref a1), (.int (3 : Int32)), (.int p2), (.int p3)]) (rest := [(.int (3 : Int32)), (.ref b116), (.ref b116), (.ref b115), (.ref b115)]) (lenOf pd_2 rfl) rfl (by show 2 * 0 + _ ≤ _; exact Nat.le_of_eq rfl) (hb hby d1_458) (fun _ _ => ⟨rfl, e125, (by decide : 2 + 0 ≤ _), (by decide : 17 + 0 ≤ _)⟩)
  dsimp only [Pt.U, Pt.locs, Pt.cells, Pt.slots] at X126 l126 y126 z126 st126 hQ126
  rw [l126, y126, z126] at X126
  obtain ⟨rfl, N126q, e126⟩ := hQ126
  have q126 : f2 a1 (3 : Int32) p2 p3 t1 k1 N1 vs1 cs1 3 w_COMPACT_STRINGS fm = (atv cs1 3 (3 : Int32) p2 p3) := rfl
  rw [q126] at st126
  have N126 := Fr.app N125 N126q
  obtain ⟨cl127, Ar127, q127, Sz127, Nn127, Hh127, Gg127⟩ := V_b116
  have hin127 : ¬ ((3 : Int32) < 0 ∨ cl127.slots.size ≤ ((3 : Int32)).toNatClampNeg) := inb_of Sz127 ⟨by decide, by decide⟩
  obtain ⟨T128, h128, X128, e128, W128, st128⟩ := stC X126 hx hZ e126 Ar127 (j := (3 : Int32)) hin127 (g := (mkF m 461 #[.val (.ref a1), .val (.int p2), .val (.int p3), .val (.int (13 : Int32))] [(.int (atv cs1 3 (3 : Int32) p2 p3)), (.int (3 : Int32)), (.ref b116), (.ref b116), (.ref b115), (.ref b115)])) rfl rfl (hb hby d1_461)
  replace E_a1 := E_a1.wr W128
  replace F_coder_a1 := F_coder_a1.other W128 (Or.inl ne_a1_b116)
  replace F_value_a1 := F_value_a1.other W128 (Or.inl ne_a1_b116)
  replace V_t1 := V_t1.other W128 ne_t1_b116
  replace S_COMPACT_STRINGS := S_COMPACT_STRINGS.wr W128
  replace S_SIOOBE_FORMATTER := S_SIOOBE_FORMATTER.wr W128
  replace E_b115 := E_b115.wr W128
  replace F_value_b115 := F_value_b115.other W128 (Or.inl ne_b115_b116)
  replace F_coder_b115 := F_coder_b115.other W128 (Or.inl ne_b115_b116)
  replace Z0 := Nat.le_trans Z0 (Keep.of_wr W128).1
  replace KK := KK.wr W128 (Or.inr sz_b116)
  have V_b116 : Arv Z h128 b116 k116 .char (13 : Int32) [(.int ((atv cs1 0 (0 : Int32) p2 p3).toUInt32.toUInt16.toUInt32.toInt32)), (.int ((atv cs1 1 (1 : Int32) p2 p3).toUInt32.toUInt16.toUInt32.toInt32)), (.int ((atv cs1 2 (2 : Int32) p2 p3).toUInt32.toUInt16.toUInt32.toInt32)), (.int ((atv cs1 3 (3 : Int32) p2 p3).toUInt32.toUInt16.toUInt32.toInt32)), (.int (0 : Int32)), (.int (0 : Int32)), (.int (0 : Int32)), (.int (0 : Int32)), (.int (0 : Int32)), (.int (0 : Int32)), (.int (0 : Int32)), (.int (0 : Int32)), (.int (0 : Int32))] (.int (0 : Int32)) := Arv.set Ar127 q127 Sz127 Nn127 Hh127 Gg127 (fits_nar_char _) W128 3 rfl (Nat.le_of_ble_eq_true rfl)
  have N128 := Fr.snoc X128 N126 g_b116
  obtain ⟨_, _, ⟨T129, L129, k129, n129⟩, -, X129, ⟨Lc129, hQ129, l129, y129, z129⟩, st129⟩ := Jvm.LawKit.callS X128 hx (y := mn2) hown (mvT hZ (ww hw 15 rfl)) (mvT hZ (ww hw 16 rfl)) (mvT hZ (ww hw 11 rfl)) (mvT hZ (ww hw 17 rfl)) (by decide) (backOf (W := 5) (rm2 l Z a0 hw [] a1 (4 : Int32) p2 p3 t1 k1 N1 vs1 cs1 4 w_COMPACT_STRINGS fm h128 n0 Z0 S_COMPACT_STRINGS hz S_SIOOBE_FORMATTER rf hcd hr hl rfl (by decide) E_a1 F_coder_a1 F_value_a1 V_t1) hZ (ww hw 17 rfl) (ww hw 11 rfl) (by decide) (by decide)) (g := (mkF m 468 #[.val (.ref a1), .val (.int p2), .val (.int p3), .val (.int (13 : Int32))] [(.int p3), (.int p2), (.int (4 : Int32)), (.ref a1), (.int (4 : Int32)), (.ref b116), (.ref b116), (.ref b115), (.ref b115)])) rfl (by rw [hml]; rfl) (argsL := [(.ref a1), (.int (4 : Int32)), (.int p2), (.int p3)]) (rest := [(.int (4 : Int32)), (.ref b116), (.ref b116), (.ref b115), (.ref b115)]) (lenOf pd_2 rfl) rfl (by show 2 * 0 + _ ≤ _; exact Nat.le_of_eq rfl) (hb hby d1_468) (fun _ _ => ⟨rfl, e128, (by decide : 2 + 0 ≤ _), (by decide : 17 + 0 ≤ _)⟩)
  dsimp only [Pt.U, Pt.locs, Pt.cells, Pt.slots] at X129 l129 y129 z129 st129 hQ129
  rw [l129, y129, z129] at X129
  obtain ⟨rfl, N129q, e129⟩ := hQ129
  have q129 : f2 a1 (4 : Int32) p2 p3 t1 k1 N1 vs1 cs1 4 w_COMPACT_STRINGS fm = (atv cs1 4 (4 : Int32) p2 p3) := rfl
  rw [q129] at st129
  have N129 := Fr.app N128 N129q
  obtain ⟨cl130, Ar130, q130, Sz130, Nn130, Hh130, Gg130⟩ := V_b116
  have hin130 : ¬ ((4 : Int32) < 0 ∨ cl130.slots.size ≤ ((4 : Int32)).toNatClampNeg) := inb_of Sz130 ⟨by decide, by decide⟩
  obtain ⟨T131, h131, X131, e131, W131, st131⟩ := stC X129 hx hZ e129 Ar130 (j := (4 : Int32)) hin130 (g := (mkF m 471 #[.val (.ref a1), .val (.int p2), .val (.int p3), .val (.int (13 : Int32))] [(.int (atv cs1 4 (4 : Int32) p2 p3)), (.int (4 : Int32)), (.ref b116), (.ref b116), (.ref b115), (.ref b115)])) rfl rfl (hb hby d1_471)
  replace E_a1 := E_a1.wr W131
  replace F_coder_a1 := F_coder_a1.other W131 (Or.inl ne_a1_b116)
  replace F_value_a1 := F_value_a1.other W131 (Or.inl ne_a1_b116)
  replace V_t1 := V_t1.other W131 ne_t1_b116
  replace S_COMPACT_STRINGS := S_COMPACT_STRINGS.wr W131
  replace S_SIOOBE_FORMATTER := S_SIOOBE_FORMATTER.wr W131
  replace E_b115 := E_b115.wr W131
  replace F_value_b115 := F_value_b115.other W131 (Or.inl ne_b115_b116)
  replace F_coder_b115 := F_coder_b115.other W131 (Or.inl ne_b115_b116)
  replace Z0 := Nat.le_trans Z0 (Keep.of_wr W131).1
  replace KK := KK.wr W131 (Or.inr sz_b116)
  have V_b116 : Arv Z h131 b116 k116 .char (13 : Int32) [(.int ((atv cs1 0 (0 : Int32) p2 p3).toUInt32.toUInt16.toUInt32.toInt32)), (.int ((atv cs1 1 (1 : Int32) p2 p3).toUInt32.toUInt16.toUInt32.toInt32)), (.int ((atv cs1 2 (2 : Int32) p2 p3).toUInt32.toUInt16.toUInt32.toInt32)), (.int ((atv cs1 3 (3 : Int32) p2 p3).toUInt32.toUInt16.toUInt32.toInt32)), (.int ((atv cs1 4 (4 : Int32) p2 p3).toUInt32.toUInt16.toUInt32.toInt32)), (.int (0 : Int32)), (.int (0 : Int32)), (.int (0 : Int32)), (.int (0 : Int32)), (.int (0 : Int32)), (.int (0 : Int32)), (.int (0 : Int32)), (.int (0 : Int32))] (.int (0 : Int32)) := Arv.set Ar130 q130 Sz130 Nn130 Hh130 Gg130 (fits_nar_char _) W131 4 rfl (Nat.le_of_ble_eq_true rfl)
  have N131 := Fr.snoc X131 N129 g_b116
  obtain ⟨_, _, ⟨T132, L132, k132, n132⟩, -, X132, ⟨Lc132, hQ132, l132, y132, z132⟩, st132⟩ := Jvm.LawKit.callS X131 hx (y := mn2) hown (mvT hZ (ww hw 15 rfl)) (mvT hZ (ww hw 16 rfl)) (mvT hZ (ww hw 11 rfl)) (mvT hZ (ww hw 17 rfl)) (by decide) (backOf (W := 5) (rm2 l Z a0 hw [] a1 (5 : Int32) p2 p3 t1 k1 N1 vs1 cs1 5 w_COMPACT_STRINGS fm h131 n0 Z0 S_COMPACT_STRINGS hz S_SIOOBE_FORMATTER rf hcd hr hl rfl (by decide) E_a1 F_coder_a1 F_value_a1 V_t1) hZ (ww hw 17 rfl) (ww hw 11 rfl) (by decide) (by decide)) (g := (mkF m 478 #[.val (.ref a1), .val (.int p2), .val (.int p3), .val (.int (13 : Int32))] [(.int p3), (.int p2), (.int (5 : Int32)), (.ref a1), (.int (5 : Int32)), (.ref b116), (.ref b116), (.ref b115), (.ref b115)])) rfl (by rw [hml]; rfl) (argsL := [(.ref a1), (.int (5 : Int32)), (.int p2), (.int p3)]) (rest := [(.int (5 : Int32)), (.ref b116), (.ref b116), (.ref b115), (.ref b115)]) (lenOf pd_2 rfl) rfl (by show 2 * 0 + _ ≤ _; exact Nat.le_of_eq rfl) (hb hby d1_478) (fun _ _ => ⟨rfl, e131, (by decide : 2 + 0 ≤ _), (by decide : 17 + 0 ≤ _)⟩)
  dsimp only [Pt.U, Pt.locs, Pt.cells, Pt.slots] at X132 l132 y132 z132 st132 hQ132
  rw [l132, y132, z132] at X132
  obtain ⟨rfl, N132q, e132⟩ := hQ132
  have q132 : f2 a1 (5 : Int32) p2 p3 t1 k1 N1 vs1 cs1 5 w_COMPACT_STRINGS fm = (atv cs1 5 (5 : Int32) p2 p3) := rfl
  rw [q132] at st132
  have N132 := Fr.app N131 N132q
  obtain ⟨cl133, Ar133, q133, Sz133, Nn133, Hh133, Gg133⟩ := V_b116
  have hin133 : ¬ ((5 : Int32) < 0 ∨ cl133.slots.size ≤ ((5 : Int32)).toNatClampNeg) := inb_of Sz133 ⟨by decide, by decide⟩
  obtain ⟨T134, h134, X134, e134, W134, st134⟩ := stC X132 hx hZ e132 Ar133 (j := (5 : Int32)) hin133 (g := (mkF m 481 #[.val (.ref a1), .val (.int p2), .val (.int p3), .val (.int (13 : Int32))] [(.int (atv cs1 5 (5 : Int32) p2 p3)), (.int (5 : Int32)), (.ref b116), (.ref b116), (.ref b115), (.ref b115)])) rfl rfl (hb hby d1_481)
  replace E_a1 := E_a1.wr W134
  replace F_coder_a1 := F_coder_a1.other W134 (Or.inl ne_a1_b116)
  replace F_value_a1 := F_value_a1.other W134 (Or.inl ne_a1_b116)
  replace V_t1 := V_t1.other W134 ne_t1_b116
  replace S_COMPACT_STRINGS := S_COMPACT_STRINGS.wr W134
  replace S_SIOOBE_FORMATTER := S_SIOOBE_FORMATTER.wr W134
  replace E_b115 := E_b115.wr W134
  replace F_value_b115 := F_value_b115.other W134 (Or.inl ne_b115_b116)
  replace F_coder_b115 := F_coder_b115.other W134 (Or.inl ne_b115_b116)
  replace Z0 := Nat.le_trans Z0 (Keep.of_wr W134).1
  replace KK := KK.wr W134 (Or.inr sz_b116)
  have V_b116 : Arv Z h134 b116 k116 .char (13 : Int32) [(.int ((atv cs1 0 (0 : Int32) p2 p3).toUInt32.toUInt16.toUInt32.toInt32)), (.int ((atv cs1 1 (1 : Int32) p2 p3).toUInt32.toUInt16.toUInt32.toInt32)), (.int ((atv cs1 2 (2 : Int32) p2 p3).toUInt32.toUInt16.toUInt32.toInt32)), (.int ((atv cs1 3 (3 : Int32) p2 p3).toUInt32.toUInt16.toUInt32.toInt32)), (.int ((atv cs1 4 (4 : Int32) p2 p3).toUInt32.toUInt16.toUInt32.toInt32)), (.int ((atv cs1 5 (5 : Int32) p2 p3).toUInt32.toUInt16.toUInt32.toInt32)), (.int (0 : Int32)), (.int (0 : Int32)), (.int (0 : Int32)), (.int (0 : Int32)), (.int (0 : Int32)), (.int (0 : Int32)), (.int (0 : Int32))] (.int (0 : Int32)) := Arv.set Ar133 q133 Sz133 Nn133 Hh133 Gg133 (fits_nar_char _) W134 5 rfl (Nat.le_of_ble_eq_true rfl)
  have N134 := Fr.snoc X134 N132 g_b116
  obtain ⟨_, _, ⟨T135, L135, k135, n135⟩, -, X135, ⟨Lc135, hQ135, l135, y135, z135⟩, st135⟩ := Jvm.LawKit.callS X134 hx (y := mn2) hown (mvT hZ (ww hw 15 rfl)) (mvT hZ (ww hw 16 rfl)) (mvT hZ (ww hw 11 rfl)) (mvT hZ (ww hw 17 rfl)) (by decide) (backOf (W := 5) (rm2 l Z a0 hw [] a1 (6 : Int32) p2 p3 t1 k1 N1 vs1 cs1 6 w_COMPACT_STRINGS fm h134 n0 Z0 S_COMPACT_STRINGS hz S_SIOOBE_FORMATTER rf hcd hr hl rfl (by decide) E_a1 F_coder_a1 F_value_a1 V_t1) hZ (ww hw 17 rfl) (ww hw 11 rfl) (by decide) (by decide)) (g := (mkF m 490 #[.val (.ref a1), .val (.int p2), .val (.int p3), .val (.int (13 : Int32))] [(.int p3), (.int p2), (.int (6 : Int32)), (.ref a1), (.int (6 : Int32)), (.ref b116), (.ref b116), (.ref b115), (.ref b115)])) rfl (by rw [hml]; rfl) (argsL := [(.ref a1), (.int (6 : Int32)), (.int p2), (.int p3)]) (rest := [(.int (6 : Int32)), (.ref b116), (.ref b116), (.ref b115), (.ref b115)]) (lenOf pd_2 rfl) rfl (by show 2 * 0 + _ ≤ _; exact Nat.le_of_eq rfl) (hb hby d1_490) (fun _ _ => ⟨rfl, e134, (by decide : 2 + 0 ≤ _), (by decide : 17 + 0 ≤ _)⟩)
  dsimp only [Pt.U, Pt.locs, Pt.cells, Pt.slots] at X135 l135 y135 z135 st135 hQ135
  rw [l135, y135, z135] at X135
  obtain ⟨rfl, N135q, e135⟩ := hQ135
  have q135 : f2 a1 (6 : Int32) p2 p3 t1 k1 N1 vs1 cs1 6 w_COMPACT_STRINGS fm = (atv cs1 6 (6 : Int32) p2 p3) := rfl
  rw [q135] at st135
  have N135 := Fr.app N134 N135q
  obtain ⟨cl136, Ar136, q136, Sz136, Nn136, Hh136, Gg136⟩ := V_b116
  have hin136 : ¬ ((6 : Int32) < 0 ∨ cl136.slots.size ≤ ((6 : Int32)).toNatClampNeg) := inb_of Sz136 ⟨by decide, by decide⟩
  obtain ⟨T137, h137, X137, e137, W137, st137⟩ := stC X135 hx hZ e135 Ar136 (j := (6 : Int32)) hin136 (g := (mkF m 493 #[.val (.ref a1), .val (.int p2), .val (.int p3), .val (.int (13 : Int32))] [(.int (atv cs1 6 (6 : Int32) p2 p3)), (.int (6 : Int32)), (.ref b116), (.ref b116), (.ref b115), (.ref b115)])) rfl rfl (hb hby d1_493)
  replace E_a1 := E_a1.wr W137
  replace F_coder_a1 := F_coder_a1.other W137 (Or.inl ne_a1_b116)
  replace F_value_a1 := F_value_a1.other W137 (Or.inl ne_a1_b116)
  replace V_t1 := V_t1.other W137 ne_t1_b116
  replace S_COMPACT_STRINGS := S_COMPACT_STRINGS.wr W137
  replace S_SIOOBE_FORMATTER := S_SIOOBE_FORMATTER.wr W137
  replace E_b115 := E_b115.wr W137
  replace F_value_b115 := F_value_b115.other W137 (Or.inl ne_b115_b116)
  replace F_coder_b115 := F_coder_b115.other W137 (Or.inl ne_b115_b116)
  replace Z0 := Nat.le_trans Z0 (Keep.of_wr W137).1
  replace KK := KK.wr W137 (Or.inr sz_b116)
  have V_b116 : Arv Z h137 b116 k116 .char (13 : Int32) [(.int ((atv cs1 0 (0 : Int32) p2 p3).toUInt32.toUInt16.toUInt32.toInt32)), (.int ((atv cs1 1 (1 : Int32) p2 p3).toUInt32.toUInt16.toUInt32.toInt32)), (.int ((atv cs1 2 (2 : Int32) p2 p3).toUInt32.toUInt16.toUInt32.toInt32)), (.int ((atv cs1 3 (3 : Int32) p2 p3).toUInt32.toUInt16.toUInt32.toInt32)), (.int ((atv cs1 4 (4 : Int32) p2 p3).toUInt32.toUInt16.toUInt32.toInt32)), (.int ((atv cs1 5 (5 : Int32) p2 p3).toUInt32.toUInt16.toUInt32.toInt32)), (.int ((atv cs1 6 (6 : Int32) p2 p3).toUInt32.toUInt16.toUInt32.toInt32)), (.int (0 : Int32)), (.int (0 : Int32)), (.int (0 : Int32)), (.int (0 : Int32)), (.int (0 : Int32)), (.int (0 : Int32))] (.int (0 : Int32)) := Arv.set Ar136 q136 Sz136 Nn136 Hh136 Gg136 (fits_nar_char _) W137 6 rfl (Nat.le_of_ble_eq_true rfl)
  have N137 := Fr.snoc X137 N135 g_b116
  obtain ⟨_, _, ⟨T138, L138, k138, n138⟩, -, X138, ⟨Lc138, hQ138, l138, y138, z138⟩, st138⟩ := Jvm.LawKit.callS X137 hx (y := mn2) hown (mvT hZ (ww hw 15 rfl)) (mvT hZ (ww hw 16 rfl)) (mvT hZ (ww hw 11 rfl)) (mvT hZ (ww hw 17 rfl)) (by decide) (backOf (W := 5) (rm2 l Z a0 hw [] a1 (7 : Int32) p2 p3 t1 k1 N1 vs1 cs1 7 w_COMPACT_STRINGS fm h137 n0 Z0 S_COMPACT_STRINGS hz S_SIOOBE_FORMATTER rf hcd hr hl rfl (by decide) E_a1 F_coder_a1 F_value_a1 V_t1) hZ (ww hw 17 rfl) (ww hw 11 rfl) (by decide) (by decide)) (g := (mkF m 502 #[.val (.ref a1), .val (.int p2), .val (.int p3), .val (.int (13 : Int32))] [(.int p3), (.int p2), (.int (7 : Int32)), (.ref a1), (.int (7 : Int32)), (.ref b116), (.ref b116), (.ref b115), (.ref b115)])) rfl (by rw [hml]; rfl) (argsL := [(.ref a1), (.int (7 : Int32)), (.int p2), (.int p3)]) (rest := [(.int (7 : Int32)), (.ref b116), (.ref b116), (.ref b115), (.ref b115)]) (lenOf pd_2 rfl) rfl (by show 2 * 0 + _ ≤ _; exact Nat.le_of_eq rfl) (hb hby d1_502) (fun _ _ => ⟨rfl, e137, (by decide : 2 + 0 ≤ _), (by decide : 17 + 0 ≤ _)⟩)
  dsimp only [Pt.U, Pt.locs, Pt.cells, Pt.slots] at X138 l138 y138 z138 st138 hQ138
  rw [l138, y138, z138] at X138
  obtain ⟨rfl, N138q, e138⟩ := hQ138
  have q138 : f2 a1 (7 : Int32) p2 p3 t1 k1 N1 vs1 cs1 7 w_COMPACT_STRINGS fm = (atv cs1 7 (7 : Int32) p2 p3) := rfl
  rw [q138] at st138
  have N138 := Fr.app N137 N138q
  obtain ⟨cl139, Ar139, q139, Sz139, Nn139, Hh139, Gg139⟩ := V_b116
  have hin139 : ¬ ((7 : Int32) < 0 ∨ cl139.slots.size ≤ ((7 : Int32)).toNatClampNeg) := inb_of Sz139 ⟨by decide, by decide⟩
  obtain ⟨T140, h140, X140, e140, W140, st140⟩ := stC X138 hx hZ e138 Ar139 (j := (7 : Int32)) hin139 (g := (mkF m 505 #[.val (.ref a1), .val (.int p2), .val (.int p3), .val (.int (13 : Int32))] [(.int (atv cs1 7 (7 : Int32) p2 p3)), (.int (7 : Int32)), (.ref b116), (.ref b116), (.ref b115), (.ref b115)])) rfl rfl (hb hby d1_505)
  replace E_a1 := E_a1.wr W140
  replace F_coder_a1 := F_coder_a1.other W140 (Or.inl ne_a1_b116)
  replace F_value_a1 := F_value_a1.other W140 (Or.inl ne_a1_b116)
  replace V_t1 := V_t1.other W140 ne_t1_b116
  replace S_COMPACT_STRINGS := S_COMPACT_STRINGS.wr W140
  replace S_SIOOBE_FORMATTER := S_SIOOBE_FORMATTER.wr W140
  replace E_b115 := E_b115.wr W140
  replace F_value_b115 := F_value_b115.other W140 (Or.inl ne_b115_b116)
  replace F_coder_b115 := F_coder_b115.other W140 (Or.inl ne_b115_b116)
  replace Z0 := Nat.le_trans Z0 (Keep.of_wr W140).1
  replace KK := KK.wr W140 (Or.inr sz_b116)
  have V_b116 : Arv Z h140 b116 k116 .char (13 : Int32) [(.int ((atv cs1 0 (0 : Int32) p2 p3).toUInt32.toUInt16.toUInt32.toInt32)), (.int ((atv cs1 1 (1 : Int32) p2 p3).toUInt32.toUInt16.toUInt32.toInt32)), (.int ((atv cs1 2 (2 : Int32) p2 p3).toUInt32.toUInt16.toUInt32.toInt32)), (.int ((atv cs1 3 (3 : Int32) p2 p3).toUInt32.toUInt16.toUInt32.toInt32)), (.int ((atv cs1 4 (4 : Int32) p2 p3).toUInt32.toUInt16.toUInt32.toInt32)), (.int ((atv cs1 5 (5 : Int32) p2 p3).toUInt32.toUInt16.toUInt32.toInt32)), (.int ((atv cs1 6 (6 : Int32) p2 p3).toUInt32.toUInt16.toUInt32.toInt32)), (.int ((atv cs1 7 (7 : Int32) p2 p3).toUInt32.toUInt16.toUInt32.toInt32)), (.int (0 : Int32)), (.int (0 : Int32)), (.int (0 : Int32)), (.int (0 : Int32)), (.int (0 : Int32))] (.int (0 : Int32)) := Arv.set Ar139 q139 Sz139 Nn139 Hh139 Gg139 (fits_nar_char _) W140 7 rfl (Nat.le_of_ble_eq_true rfl)
  have N140 := Fr.snoc X140 N138 g_b116
  obtain ⟨_, _, ⟨T141, L141, k141, n141⟩, -, X141, ⟨Lc141, hQ141, l141, y141, z141⟩, st141⟩ := Jvm.LawKit.callS X140 hx (y := mn2) hown (mvT hZ (ww hw 15 rfl)) (mvT hZ (ww hw 16 rfl)) (mvT hZ (ww hw 11 rfl)) (mvT hZ (ww hw 17 rfl)) (by decide) (backOf (W := 5) (rm2 l Z a0 hw [] a1 (8 : Int32) p2 p3 t1 k1 N1 vs1 cs1 8 w_COMPACT_STRINGS fm h140 n0 Z0 S_COMPACT_STRINGS hz S_SIOOBE_FORMATTER rf hcd hr hl rfl (by decide) E_a1 F_coder_a1 F_value_a1 V_t1) hZ (ww hw 17 rfl) (ww hw 11 rfl) (by decide) (by decide)) (g := (mkF m 514 #[.val (.ref a1), .val (.int p2), .val (.int p3), .val (.int (13 : Int32))] [(.int p3), (.int p2), (.int (8 : Int32)), (.ref a1), (.int (8 : Int32)), (.ref b116), (.ref b116), (.ref b115), (.ref b115)])) rfl (by rw [hml]; rfl) (argsL := [(.ref a1), (.int (8 : Int32)), (.int p2), (.int p3)]) (rest := [(.int (8 : Int32)), (.ref b116), (.ref b116), (.ref b115), (.ref b115)]) (lenOf pd_2 rfl) rfl (by show 2 * 0 + _ ≤ _; exact Nat.le_of_eq rfl) (hb hby d1_514) (fun _ _ => ⟨rfl, e140, (by decide : 2 + 0 ≤ _), (by decide : 17 + 0 ≤ _)⟩)
  dsimp only [Pt.U, Pt.locs, Pt.cells, Pt.slots] at X141 l141 y141 z141 st141 hQ141
  rw [l141, y141, z141] at X141
  obtain ⟨rfl, N141q, e141⟩ := hQ141
  have q141 : f2 a1 (8 : Int32) p2 p3 t1 k1 N1 vs1 cs1 8 w_COMPACT_STRINGS fm = (atv cs1 8 (8 : Int32) p2 p3) := rfl
  rw [q141] at st141
  have N141 := Fr.app N140 N141q
  obtain ⟨cl142, Ar142, q142, Sz142, Nn142, Hh142, Gg142⟩ := V_b116
  have hin142 : ¬ ((8 : Int32) < 0 ∨ cl142.slots.size ≤ ((8 : Int32)).toNatClampNeg) := inb_of Sz142 ⟨by decide, by decide⟩
  obtain ⟨T143, h143, X143, e143, W143, st143⟩ := stC X141 hx hZ e141 Ar142 (j := (8 : Int32)) hin142 (g := (mkF m 517 #[.val (.ref a1), .val (.int p2), .val (.int p3), .val (.int (13 : Int32))] [(.int (atv cs1 8 (8 : Int32) p2 p3)), (.int (8 : Int32)), (.ref b116), (.ref b116), (.ref b115), (.ref b115)])) rfl rfl (hb hby d1_517)
  replace E_a1 := E_a1.wr W143
  replace F_coder_a1 := F_coder_a1.other W143 (Or.inl ne_a1_b116)
  replace F_value_a1 := F_value_a1.other W143 (Or.inl ne_a1_b116)
  replace V_t1 := V_t1.other W143 ne_t1_b116
  replace S_COMPACT_STRINGS := S_COMPACT_STRINGS.wr W143
  replace S_SIOOBE_FORMATTER := S_SIOOBE_FORMATTER.wr W143
  replace E_b115 := E_b115.wr W143
  replace F_value_b115 := F_value_b115.other W143 (Or.inl ne_b115_b116)
  replace F_coder_b115 := F_coder_b115.other W143 (Or.inl ne_b115_b116)
  replace Z0 := Nat.le_trans Z0 (Keep.of_wr W143).1
  replace KK := KK.wr W143 (Or.inr sz_b116)
  have V_b116 : Arv Z h143 b116 k116 .char (13 : Int32) [(.int ((atv cs1 0 (0 : Int32) p2 p3).toUInt32.toUInt16.toUInt32.toInt32)), (.int ((atv cs1 1 (1 : Int32) p2 p3).toUInt32.toUInt16.toUInt32.toInt32)), (.int ((atv cs1 2 (2 : Int32) p2 p3).toUInt32.toUInt16.toUInt32.toInt32)), (.int ((atv cs1 3 (3 : Int32) p2 p3).toUInt32.toUInt16.toUInt32.toInt32)), (.int ((atv cs1 4 (4 : Int32) p2 p3).toUInt32.toUInt16.toUInt32.toInt32)), (.int ((atv cs1 5 (5 : Int32) p2 p3).toUInt32.toUInt16.toUInt32.toInt32)), (.int ((atv cs1 6 (6 : Int32) p2 p3).toUInt32.toUInt16.toUInt32.toInt32)), (.int ((atv cs1 7 (7 : Int32) p2 p3).toUInt32.toUInt16.toUInt32.toInt32)), (.int ((atv cs1 8 (8 : Int32) p2 p3).toUInt32.toUInt16.toUInt32.toInt32)), (.int (0 : Int32)), (.int (0 : Int32)), (.int (0 : Int32)), (.int (0 : Int32))] (.int (0 : Int32)) := Arv.set Ar142 q142 Sz142 Nn142 Hh142 Gg142 (fits_nar_char _) W143 8 rfl (Nat.le_of_ble_eq_true rfl)
  have N143 := Fr.snoc X143 N141 g_b116
  obtain ⟨_, _, ⟨T144, L144, k144, n144⟩, -, X144, ⟨Lc144, hQ144, l144, y144, z144⟩, st144⟩ := Jvm.LawKit.callS X143 hx (y := mn2) hown (mvT hZ (ww hw 15 rfl)) (mvT hZ (ww hw 16 rfl)) (mvT hZ (ww hw 11 rfl)) (mvT hZ (ww hw 17 rfl)) (by decide) (backOf (W := 5) (rm2 l Z a0 hw [] a1 (9 : Int32) p2 p3 t1 k1 N1 vs1 cs1 9 w_COMPACT_STRINGS fm h143 n0 Z0 S_COMPACT_STRINGS hz S_SIOOBE_FORMATTER rf hcd hr hl rfl (by decide) E_a1 F_coder_a1 F_value_a1 V_t1) hZ (ww hw 17 rfl) (ww hw 11 rfl) (by decide) (by decide)) (g := (mkF m 526 #[.val (.ref a1), .val (.int p2), .val (.int p3), .val (.int (13 : Int32))] [(.int p3), (.int p2), (.int (9 : Int32)), (.ref a1), (.int (9 : Int32)), (.ref b116), (.ref b116), (.ref b115), (.ref b115)])) rfl (by rw [hml]; rfl) (argsL := [(.ref a1), (.int (9 : Int32)), (.int p2), (.int p3)]) (rest := [(.int (9 : Int32)), (.ref b116), (.ref b116), (.ref b115), (.ref b115)]) (lenOf pd_2 rfl) rfl (by show 2 * 0 + _ ≤ _; exact Nat.le_of_eq rfl) (hb hby d1_526) (fun _ _ => ⟨rfl, e143, (by decide : 2 + 0 ≤ _), (by decide : 17 + 0 ≤ _)⟩)
  dsimp only [Pt.U, Pt.locs, Pt.cells, Pt.slots] at X144 l144 y144 z144 st144 hQ144
  rw [l144, y144, z144] at X144
  obtain ⟨rfl, N144q, e144⟩ := hQ144
  have q144 : f2 a1 (9 : Int32) p2 p3 t1 k1 N1 vs1 cs1 9 w_COMPACT_STRINGS fm = (atv cs1 9 (9 : Int32) p2 p3) := rfl
  rw [q144] at st144
  have N144 := Fr.app N143 N144q
  obtain ⟨cl145, Ar145, q145, Sz145, Nn145, Hh145, Gg145⟩ := V_b116
  have hin145 : ¬ ((9 : Int32) < 0 ∨ cl145.slots.size ≤ ((9 : Int32)).toNatClampNeg) := inb_of Sz145 ⟨by decide, by decide⟩
  obtain ⟨T146, h146, X146, e146, W146, st146⟩ := stC X144 hx hZ e144 Ar145 (j := (9 : Int32)) hin145 (g := (mkF m 529 #[.val (.ref a1), .val (.int p2), .val (.int p3), .val (.int (13 : Int32))] [(.int (atv cs1 9 (9 : Int32) p2 p3)), (.int (9 : Int32)), (.ref b116), (.ref b116), (.ref b115), (.ref b115)])) rfl rfl (hb hby d1_529)
  replace E_a1 := E_a1.wr W146
  replace F_coder_a1 := F_coder_a1.other W146 (Or.inl ne_a1_b116)
  replace F_value_a1 := F_value_a1.other W146 (Or.inl ne_a1_b116)
  replace V_t1 := V_t1.other W146 ne_t1_b116
  replace S_COMPACT_STRINGS := S_COMPACT_STRINGS.wr W146
  replace S_SIOOBE_FORMATTER := S_SIOOBE_FORMATTER.wr W146
  replace E_b115 := E_b115.wr W146
  replace F_value_b115 := F_value_b115.other W146 (Or.inl ne_b115_b116)
  replace F_coder_b115 := F_coder_b115.other W146 (Or.inl ne_b115_b116)
  replace Z0 := Nat.le_trans Z0 (Keep.of_wr W146).1
  replace KK := KK.wr W146 (Or.inr sz_b116)
  have V_b116 : Arv Z h146 b116 k116 .char (13 : Int32) [(.int ((atv cs1 0 (0 : Int32) p2 p3).toUInt32.toUInt16.toUInt32.toInt32)), (.int ((atv cs1 1 (1 : Int32) p2 p3).toUInt32.toUInt16.toUInt32.toInt32)), (.int ((atv cs1 2 (2 : Int32) p2 p3).toUInt32.toUInt16.toUInt32.toInt32)), (.int ((atv cs1 3 (3 : Int32) p2 p3).toUInt32.toUInt16.toUInt32.toInt32)), (.int ((atv cs1 4 (4 : Int32) p2 p3).toUInt32.toUInt16.toUInt32.toInt32)), (.int ((atv cs1 5 (5 : Int32) p2 p3).toUInt32.toUInt16.toUInt32.toInt32)), (.int ((atv cs1 6 (6 : Int32) p2 p3).toUInt32.toUInt16.toUInt32.toInt32)), (.int ((atv cs1 7 (7 : Int32) p2 p3).toUInt32.toUInt16.toUInt32.toInt32)), (.int ((atv cs1 8 (8 : Int32) p2 p3).toUInt32.toUInt16.toUInt32.toInt32)), (.int ((atv cs1 9 (9 : Int32) p2 p3).toUInt32.toUInt16.toUInt32.toInt32)), (.int (0 : Int32)), (.int (0 : Int32)), (.int (0 : Int32))] (.int (0 : Int32)) := Arv.set Ar145 q145 Sz145 Nn145 Hh145 Gg145 (fits_nar_char _) W146 9 rfl (Nat.le_of_ble_eq_true rfl)
  have N146 := Fr.snoc X146 N144 g_b116
  obtain ⟨_, _, ⟨T147, L147, k147, n147⟩, -, X147, ⟨Lc147, hQ147, l147, y147, z147⟩, st147⟩ := Jvm.LawKit.callS X146 hx (y := mn2) hown (mvT hZ (ww hw 15 rfl)) (mvT hZ (ww hw 16 rfl)) (mvT hZ (ww hw 11 rfl)) (mvT hZ (ww hw 17 rfl)) (by decide) (backOf (W := 5) (rm2 l Z a0 hw [] a1 (10 : Int32) p2 p3 t1 k1 N1 vs1 cs1 10 w_COMPACT_STRINGS fm h146 n0 Z0 S_COMPACT_STRINGS hz S_SIOOBE_FORMATTER rf hcd hr hl rfl (by decide) E_a1 F_coder_a1 F_value_a1 V_t1) hZ (ww hw 17 rfl) (ww hw 11 rfl) (by decide) (by decide)) (g := (mkF m 538 #[.val (.ref a1), .val (.int p2), .val (.int p3), .val (.int (13 : Int32))] [(.int p3), (.int p2), (.int (10 : Int32)), (.ref a1), (.int (10 : Int32)), (.ref b116), (.ref b116), (.ref b115), (.ref b115)])) rfl (by rw [hml]; rfl) (argsL := [(.ref a1), (.int (10 : Int32)), (.int p2), (.int p3)]) (rest := [(.int (10 : Int32)), (.ref b116), (.ref b116), (.ref b115), (.ref b115)]) (lenOf pd_2 rfl) rfl (by show 2 * 0 + _ ≤ _; exact Nat.le_of_eq rfl) (hb hby d1_538) (fun _ _ => ⟨rfl, e146, (by decide : 2 + 0 ≤ _), (by decide : 17 + 0 ≤ _)⟩)
  dsimp only [Pt.U, Pt.locs, Pt.cells, Pt.slots] at X147 l147 y147 z147 st147 hQ147
  rw [l147, y147, z147] at X147
  obtain ⟨rfl, N147q, e147⟩ := hQ147
  have q147 : f2 a1 (10 : Int32) p2 p3 t1 k1 N1 vs1 cs1 10 w_COMPACT_STRINGS fm = (atv cs1 10 (10 : Int32) p2 p3) := rfl
  rw [q147] at st147
  have N147 := Fr.app N146 N147q
  obtain ⟨cl148, Ar148, q148, Sz148, Nn148, Hh148, Gg148⟩ := V_b116
  have hin148 : ¬ ((10 : Int32) < 0 ∨ cl148.slots.size ≤ ((10 : Int32)).toNatClampNeg) := inb_of Sz148 ⟨by decide, by decide⟩
  obtain ⟨T149, h149, X149, e149, W149, st149⟩ := stC X147 hx hZ e147 Ar148 (j := (10 : Int32)) hin148 (g := (mkF m 541 #[.val (.ref a1), .val (.int p2), .val (.int p3), .val (.int (13 : Int32))] [(.int (atv cs1 10 (10 : Int32) p2 p3)), (.int (10 : Int32)), (.ref b116), (.ref b116), (.ref b115), (.ref b115)])) rfl rfl (hb hby d1_541)
  replace E_a1 := E_a1.wr W149
  replace F_coder_a1 := F_coder_a1.other W149 (Or.inl ne_a1_b116)
  replace F_value_a1 := F_value_a1.other W149 (Or.inl ne_a1_b116)
  replace V_t1 := V_t1.other W149 ne_t1_b116
  replace S_COMPACT_STRINGS := S_COMPACT_STRINGS.wr W149
  replace S_SIOOBE_FORMATTER := S_SIOOBE_FORMATTER.wr W149
  replace E_b115 := E_b115.wr W149
  replace F_value_b115 := F_value_b115.other W149 (Or.inl ne_b115_b116)
  replace F_coder_b115 := F_coder_b115.other W149 (Or.inl ne_b115_b116)
  replace Z0 := Nat.le_trans Z0 (Keep.of_wr W149).1
  replace KK := KK.wr W149 (Or.inr sz_b116)
  have V_b116 : Arv Z h149 b116 k116 .char (13 : Int32) [(.int ((atv cs1 0 (0 : Int32) p2 p3).toUInt32.toUInt16.toUInt32.toInt32)), (.int ((atv cs1 1 (1 : Int32) p2 p3).toUInt32.toUInt16.toUInt32.toInt32)), (.int ((atv cs1 2 (2 : Int32) p2 p3).toUInt32.toUInt16.toUInt32.toInt32)), (.int ((atv cs1 3 (3 : Int32) p2 p3).toUInt32.toUInt16.toUInt32.toInt32)), (.int ((atv cs1 4 (4 : Int32) p2 p3).toUInt32.toUInt16.toUInt32.toInt32)), (.int ((atv cs1 5 (5 : Int32) p2 p3).toUInt32.toUInt16.toUInt32.toInt32)), (.int ((atv cs1 6 (6 : Int32) p2 p3).toUInt32.toUInt16.toUInt32.toInt32)), (.int ((atv cs1 7 (7 : Int32) p2 p3).toUInt32.toUInt16.toUInt32.toInt32)), (.int ((atv cs1 8 (8 : Int32) p2 p3).toUInt32.toUInt16.toUInt32.toInt32)), (.int ((atv cs1 9 (9 : Int32) p2 p3).toUInt32.toUInt16.toUInt32.toInt32)), (.int ((atv cs1 10 (10 : Int32) p2 p3).toUInt32.toUInt16.toUInt32.toInt32)), (.int (0 : Int32)), (.int (0 : Int32))] (.int (0 : Int32)) := Arv.set Ar148 q148 Sz148 Nn148 Hh148 Gg148 (fits_nar_char _) W149 10 rfl (Nat.le_of_ble_eq_true rfl)
  have N149 := Fr.snoc X149 N147 g_b116
  obtain ⟨_, _, ⟨T150, L150, k150, n150⟩, -, X150, ⟨Lc150, hQ150, l150, y150, z150⟩, st150⟩ := Jvm.LawKit.callS X149 hx (y := mn2) hown (mvT hZ (ww hw 15 rfl)) (mvT hZ (ww hw 16 rfl)) (mvT hZ (ww hw 11 rfl)) (mvT hZ (ww hw 17 rfl)) (by decide) (backOf (W := 5) (rm2 l Z a0 hw [] a1 (11 : Int32) p2 p3 t1 k1 N1 vs1 cs1 11 w_COMPACT_STRINGS fm h149 n0 Z0 S_COMPACT_STRINGS hz S_SIOOBE_FORMATTER rf hcd hr hl rfl (by decide) E_a1 F_coder_a1 F_value_a1 V_t1) hZ (ww hw 17 rfl) (ww hw 11 rfl) (by decide) (by decide)) (g := (mkF m 550 #[.val (.ref a1), .val (.int p2), .val (.int p3), .val (.int (13 : Int32))] [(.int p3), (.int p2), (.int (11 : Int32)), (.ref a1), (.int (11 : Int32)), (.ref b116), (.ref b116), (.ref b115), (.ref b115)])) rfl (by rw [hml]; rfl) (argsL := [(.ref a1), (.int (11 : Int32)), (.int p2), (.int p3)]) (rest := [(.int (11 : Int32)), (.ref b116), (.ref b116), (.ref b115), (.ref b115)]) (lenOf pd_2 rfl) rfl (by show 2 * 0 + _ ≤ _; exact Nat.le_of_eq rfl) (hb hby d1_550) (fun _ _ => ⟨rfl, e149, (by decide : 2 + 0 ≤ _), (by decide : 17 + 0 ≤ _)⟩)
  dsimp only [Pt.U, Pt.locs, Pt.cells, Pt.slots] at X150 l150 y150 z150 st150 hQ150
  rw [l150, y150, z150] at X150
  obtain ⟨rfl, N150q, e150⟩ := hQ150
  have q150 : f2 a1 (11 : Int32) p2 p3 t1 k1 N1 vs1 cs1 11 w_COMPACT_STRINGS fm = (atv cs1 11 (11 : Int32) p2 p3) := rfl
  rw [q150] at st150
  have N150 := Fr.app N149 N150q
  obtain ⟨cl151, Ar151, q151, Sz151, Nn151, Hh151, Gg151⟩ := V_b116
  have hin151 : ¬ ((11 : Int32) < 0 ∨ cl151.slots.size ≤ ((11 : Int32)).toNatClampNeg) := inb_of Sz151 ⟨by decide, by decide⟩
  obtain ⟨T152, h152, X152, e152, W152, st152⟩ := stC X150 hx hZ e150 Ar151 (j := (11 : Int32)) hin151 (g := (mkF m 553 #[.val (.ref a1), .val (.int p2), .val (.int p3), .val (.int (13 : Int32))] [(.int (atv cs1 11 (11 : Int32) p2 p3)), (.int (11 : Int32)), (.ref b116), (.ref b116), (.ref b115), (.ref b115)])) rfl rfl (hb hby d1_553)
  replace E_a1 := E_a1.wr W152
  replace F_coder_a1 := F_coder_a1.other W152 (Or.inl ne_a1_b116)
  replace F_value_a1 := F_value_a1.other W152 (Or.inl ne_a1_b116)
  replace V_t1 := V_t1.other W152 ne_t1_b116
  replace S_COMPACT_STRINGS := S_COMPACT_STRINGS.wr W152
  replace S_SIOOBE_FORMATTER := S_SIOOBE_FORMATTER.wr W152
  replace E_b115 := E_b115.wr W152
  replace F_value_b115 := F_value_b115.other W152 (Or.inl ne_b115_b116)
  replace F_coder_b115 := F_coder_b115.other W152 (Or.inl ne_b115_b116)
  replace Z0 := Nat.le_trans Z0 (Keep.of_wr W152).1
  replace KK := KK.wr W152 (Or.inr sz_b116)
  have V_b116 : Arv Z h152 b116 k116 .char (13 : Int32) [(.int ((atv cs1 0 (0 : Int32) p2 p3).toUInt32.toUInt16.toUInt32.toInt32)), (.int ((atv cs1 1 (1 : Int32) p2 p3).toUInt32.toUInt16.toUInt32.toInt32)), (.int ((atv cs1 2 (2 : Int32) p2 p3).toUInt32.toUInt16.toUInt32.toInt32)), (.int ((atv cs1 3 (3 : Int32) p2 p3).toUInt32.toUInt16.toUInt32.toInt32)), (.int ((atv cs1 4 (4 : Int32) p2 p3).toUInt32.toUInt16.toUInt32.toInt32)), (.int ((atv cs1 5 (5 : Int32) p2 p3).toUInt32.toUInt16.toUInt32.toInt32)), (.int ((atv cs1 6 (6 : Int32) p2 p3).toUInt32.toUInt16.toUInt32.toInt32)), (.int ((atv cs1 7 (7 : Int32) p2 p3).toUInt32.toUInt16.toUInt32.toInt32)), (.int ((atv cs1 8 (8 : Int32) p2 p3).toUInt32.toUInt16.toUInt32.toInt32)), (.int ((atv cs1 9 (9 : Int32) p2 p3).toUInt32.toUInt16.toUInt32.toInt32)), (.int ((atv cs1 10 (10 : Int32) p2 p3).toUInt32.toUInt16.toUInt32.toInt32)), (.int ((atv cs1 11 (11 : Int32) p2 p3).toUInt32.toUInt16.toUInt32.toInt32)), (.int (0 : Int32))] (.int (0 : Int32)) := Arv.set Ar151 q151 Sz151 Nn151 Hh151 Gg151 (fits_nar_char _) W152 11 rfl (Nat.le_of_ble_eq_true rfl)
  have N152 := Fr.snoc X152 N150 g_b116
  obtain ⟨_, _, ⟨T153, L153, k153, n153⟩, -, X153, ⟨Lc153, hQ153, l153, y153, z153⟩, st153⟩ := Jvm.LawKit.callS X152 hx (y := mn2) hown (mvT hZ (ww hw 15 rfl)) (mvT hZ (ww hw 16 rfl)) (mvT hZ (ww hw 11 rfl)) (mvT hZ (ww hw 17 rfl)) (by decide) (backOf (W := 5) (rm2 l Z a0 hw [] a1 (12 : Int32) p2 p3 t1 k1 N1 vs1 cs1 12 w_COMPACT_STRINGS fm h152 n0 Z0 S_COMPACT_STRINGS hz S_SIOOBE_FORMATTER rf hcd hr hl rfl (by decide) E_a1 F_coder_a1 F_value_a1 V_t1) hZ (ww hw 17 rfl) (ww hw 11 rfl) (by decide) (by decide)) (g := (mkF m 562 #[.val (.ref a1), .val (.int p2), .val (.int p3), .val (.int (13 : Int32))] [(.int p3), (.int p2), (.int (12 : Int32)), (.ref a1), (.int (12 : Int32)), (.ref b116), (.ref b116), (.ref b115), (.ref b115)])) rfl (by rw [hml]; rfl) (argsL := [(.ref a1), (.int (12 : Int32)), (.int p2), (.int p3)]) (rest := [(.int (12 : Int32)), (.ref b116), (.ref b116), (.ref b115), (.ref b115)]) (lenOf pd_2 rfl) rfl (by show 2 * 0 + _ ≤ _; exact Nat.le_of_eq rfl) (hb hby d1_562) (fun _ _ => ⟨rfl, e152, (by decide : 2 + 0 ≤ _), (by decide : 17 + 0 ≤ _)⟩)
  dsimp only [Pt.U, Pt.locs, Pt.cells, Pt.slots] at X153 l153 y153 z153 st153 hQ153
  rw [l153, y153, z153] at X153
  obtain ⟨rfl, N153q, e153⟩ := hQ153
  have q153 : f2 a1 (12 : Int32) p2 p3 t1 k1 N1 vs1 cs1 12 w_COMPACT_STRINGS fm = (atv cs1 12 (12 : Int32) p2 p3) := rfl
  rw [q153] at st153
  have N153 := Fr.app N152 N153q
  obtain ⟨cl154, Ar154, q154, Sz154, Nn154, Hh154, Gg154⟩ := V_b116
  have hin154 : ¬ ((12 : Int32) < 0 ∨ cl154.slots.size ≤ ((12 : Int32)).toNatClampNeg) := inb_of Sz154 ⟨by decide, by decide⟩
  obtain ⟨T155, h155, X155, e155, W155, st155⟩ := stC X153 hx hZ e153 Ar154 (j := (12 : Int32)) hin154 (g := (mkF m 565 #[.val (.ref a1), .val (.int p2), .val (.int p3), .val (.int (13 : Int32))] [(.int (atv cs1 12 (12 : Int32) p2 p3)), (.int (12 : Int32)), (.ref b116), (.ref b116), (.ref b115), (.ref b115)])) rfl rfl (hb hby d1_565)
  replace E_a1 := E_a1.wr W155
  replace F_coder_a1 := F_coder_a1.other W155 (Or.inl ne_a1_b116)
  replace F_value_a1 := F_value_a1.other W155 (Or.inl ne_a1_b116)
  replace V_t1 := V_t1.other W155 ne_t1_b116
  replace S_COMPACT_STRINGS := S_COMPACT_STRINGS.wr W155
  replace S_SIOOBE_FORMATTER := S_SIOOBE_FORMATTER.wr W155
  replace E_b115 := E_b115.wr W155
  replace F_value_b115 := F_value_b115.other W155 (Or.inl ne_b115_b116)
  replace F_coder_b115 := F_coder_b115.other W155 (Or.inl ne_b115_b116)
  replace Z0 := Nat.le_trans Z0 (Keep.of_wr W155).1
  replace KK := KK.wr W155 (Or.inr sz_b116)
  have V_b116 : Arv Z h155 b116 k116 .char (13 : Int32) [(.int ((atv cs1 0 (0 : Int32) p2 p3).toUInt32.toUInt16.toUInt32.toInt32)), (.int ((atv cs1 1 (1 : Int32) p2 p3).toUInt32.toUInt16.toUInt32.toInt32)), (.int ((atv cs1 2 (2 : Int32) p2 p3).toUInt32.toUInt16.toUInt32.toInt32)), (.int ((atv cs1 3 (3 : Int32) p2 p3).toUInt32.toUInt16.toUInt32.toInt32)), (.int ((atv cs1 4 (4 : Int32) p2 p3).toUInt32.toUInt16.toUInt32.toInt32)), (.int ((atv cs1 5 (5 : Int32) p2 p3).toUInt32.toUInt16.toUInt32.toInt32)), (.int ((atv cs1 6 (6 : Int32) p2 p3).toUInt32.toUInt16.toUInt32.toInt32)), (.int ((atv cs1 7 (7 : Int32) p2 p3).toUInt32.toUInt16.toUInt32.toInt32)), (.int ((atv cs1 8 (8 : Int32) p2 p3).toUInt32.toUInt16.toUInt32.toInt32)), (.int ((atv cs1 9 (9 : Int32) p2 p3).toUInt32.toUInt16.toUInt32.toInt32)), (.int ((atv cs1 10 (10 : Int32) p2 p3).toUInt32.toUInt16.toUInt32.toInt32)), (.int ((atv cs1 11 (11 : Int32) p2 p3).toUInt32.toUInt16.toUInt32.toInt32)), (.int ((atv cs1 12 (12 : Int32) p2 p3).toUInt32.toUInt16.toUInt32.toInt32))] (.int (0 : Int32)) := Arv.set Ar154 q154 Sz154 Nn154 Hh154 Gg154 (fits_nar_char _) W155 12 rfl (Nat.le_of_ble_eq_true rfl)
  have N155 := Fr.snoc X155 N153 g_b116
  obtain ⟨_, _, ⟨T156, L156, k156, n156⟩, -, X156, ⟨Lc156, hQ156, l156, y156, z156⟩, st156⟩ := X155.specialBack hx (y := mn3) rfl hown (mvT hZ (ww hw 53 rfl)) (mvT hZ (ww hw 54 rfl)) (mvT hZ (ww hw 55 rfl)) (by decide) (StrChars.Road.backV (W := 1) hZ hws (kI := 4) (ww hw 2 rfl) (cs := (mkl cs1 p2 p3 13)) (bs := (mkl cs1 p2 p3 13).map StrChars.lo8) (n := 13) g_b115 Z0 E_b115 F_value_b115 F_coder_b115 V_b116 S_COMPACT_STRINGS hz (own_mklen cs1 p2 p3 13) rfl (by decide) (by decide) (own_mkr hr hc 13) rfl (by decide) (by decide)) (g := (mkF m 566 #[.val (.ref a1), .val (.int p2), .val (.int p3), .val (.int (13 : Int32))] [(.ref b116), (.ref b115), (.ref b115)])) rfl (by rw [hml]; rfl) (Steps.refl _) (a := b115) (argsL := [(.ref b116)]) (rest := [(.ref b115)]) (lenOf pd_3 rfl) rfl (by show 2 * 0 + _ ≤ _; exact Nat.le_of_eq rfl) (hb hby d1_566) (fun _ _ => ⟨rfl, e155, (by decide : 2 + 1 ≤ _), (by decide : 17 + 13 ≤ _)⟩)
  dsimp only [Pt.U, Pt.locs, Pt.cells, Pt.slots] at X156 l156 y156 z156 st156 hQ156
  rw [l156, y156, z156] at X156
  obtain ⟨h156, e156⟩ : ∃ z, T156.heap = z := ⟨_, rfl⟩
  rw [e156] at hQ156
  obtain ⟨rfl, N156q, K156, G156E, G156C, B156, kb156, -, szn156, -, G156V, G156A⟩ := hQ156
  have g_B156 : n0 ≤ B156 := Nat.le_trans Z0 szn156
  have sz_B156 : h0.size ≤ B156 := Nat.le_trans KK.1 szn156
  have ne_a1_B156 : a1 ≠ B156 := Nat.ne_of_lt (Nat.lt_of_lt_of_le E_a1.lt szn156)
  have ne_t1_B156 : t1 ≠ B156 := Nat.ne_of_lt (Nat.lt_of_lt_of_le V_t1.lt szn156)
  have ne_b115_B156 : b115 ≠ B156 := Nat.ne_of_lt (Nat.lt_of_lt_of_le E_b115.lt szn156)
  have ne_b116_B156 : b116 ≠ B156 := Nat.ne_of_lt (Nat.lt_of_lt_of_le V_b116.lt szn156)
  replace S_COMPACT_STRINGS := own_stakeep S_COMPACT_STRINGS K156 (nsS (Exa.nostat E_b115) ns0)
  replace S_SIOOBE_FORMATTER := own_stakeep S_SIOOBE_FORMATTER K156 (nsS (Exa.nostat E_b115) ns0)
  replace E_a1 := E_a1.keep K156
  replace F_coder_a1 := F_coder_a1.keep K156 (ninS ne_a1_b115 nin0)
  replace F_value_a1 := F_value_a1.keep K156 (ninS ne_a1_b115 nin0)
  replace V_t1 := V_t1.keep K156 (ninS ne_t1_b115 nin0)
  replace E_b115 := E_b115.keep K156
  replace V_b116 := V_b116.keep K156 (ninS (Ne.symm ne_b115_b116) nin0)
  replace Z0 := Nat.le_trans Z0 K156.1
  replace KK := KK.trans K156 (allS (Or.inr sz_b115) all0)
  have F_coder_b115 : Fld Z h156 b115 "java/lang/String" "coder" "B" (.int (0 : Int32)) := G156C
  have F_value_b115 : Fld Z h156 b115 "java/lang/String" "value" "[B" (.ref B156) := G156V
  have V_B156 : Arv Z h156 B156 kb156 .byte (13 : Int32) (((mkl cs1 p2 p3 13).map StrChars.lo8).map Value.int) (.int (0 : Int32)) := G156A
  have N156 := Fr.app N155 N156q
  obtain ⟨fs, hr, hrun, hended, hW, hsame⟩ := X156.leave (v := some (.ref b115)) (fun h => by rw [Bd.returns] at h; cases h)
  refine ⟨_, _, pre0 _ ?_, hrun, hended, _, _, rfl, ?_, ⟨_, rfl⟩, hW, hsame.mono (by decide) (by decide)⟩
  · refine y_iloadN X0 hx hby d1_0 rfl ?_
    refine y_bipush X0 hx hby (v := (10 : Int32)) d1_1 rfl ?_
    refine y_icmpYes X0 hx hby (pc' := 126) d1_3 (feq (by decide)).2 (by decide) (by decide) ?_
    refine y_iloadN X0 hx hby d1_126 rfl ?_
    refine y_bipush X0 hx hby (v := (11 : Int32)) d1_127 rfl ?_
    refine y_icmpYes X0 hx hby (pc' := 264) d1_129 (feq (by decide)).2 (by decide) (by decide) ?_
    refine y_iloadN X0 hx hby d1_264 rfl ?_
    refine y_bipush X0 hx hby (v := (12 : Int32)) d1_265 rfl ?_
    refine y_icmpYes X0 hx hby (pc' := 414) d1_267 (feq (by decide)).2 (by decide) (by decide) ?_
    refine st115 _ ?_
    show Steps p.tables e below (T115.setTop (mkF m 417 #[.val (.ref a1), .val (.int p2), .val (.int p3), .val (.int (13 : Int32))] [(.ref b115)])) _
    refine y_dup X115 hx hby d1_417 rfl ?_
    refine y_bipush X115 hx hby (v := (13 : Int32)) d1_418 rfl ?_
    refine st116 _ ?_
    show Steps p.tables e below (T116.setTop (mkF m 422 #[.val (.ref a1), .val (.int p2), .val (.int p3), .val (.int (13 : Int32))] [(.ref b116), (.ref b115), (.ref b115)])) _
    refine y_dup X116 hx hby d1_422 rfl ?_
    refine y_iconst X116 hx hby (v := (0 : Int32)) d1_423 rfl ?_
    refine y_aloadN X116 hx hby d1_424 rfl rfl ?_
    refine y_iconst X116 hx hby (v := (0 : Int32)) d1_425 rfl ?_
    refine y_iloadN X116 hx hby d1_426 rfl ?_
    refine y_iloadN X116 hx hby d1_427 rfl ?_
    refine st117 _ ?_
    show Steps p.tables e below (T117.setTop (mkF m 431 #[.val (.ref a1), .val (.int p2), .val (.int p3), .val (.int (13 : Int32))] [(.int (atv cs1 0 (0 : Int32) p2 p3)), (.int (0 : Int32)), (.ref b116), (.ref b116), (.ref b115), (.ref b115)])) _
    refine st119 _ ?_
    show Steps p.tables e below (T119.setTop (mkF m 432 #[.val (.ref a1), .val (.int p2), .val (.int p3), .val (.int (13 : Int32))] [(.ref b116), (.ref b115), (.ref b115)])) _
    refine y_dup X119 hx hby d1_432 rfl ?_
    refine y_iconst X119 hx hby (v := (1 : Int32)) d1_433 rfl ?_
    refine y_aloadN X119 hx hby d1_434 rfl rfl ?_
    refine y_iconst X119 hx hby (v := (1 : Int32)) d1_435 rfl ?_
    refine y_iloadN X119 hx hby d1_436 rfl ?_
    refine y_iloadN X119 hx hby d1_437 rfl ?_
    refine st120 _ ?_
    show Steps p.tables e below (T120.setTop (mkF m 441 #[.val (.ref a1), .val (.int p2), .val (.int p3), .val (.int (13 : Int32))] [(.int (atv cs1 1 (1 : Int32) p2 p3)), (.int (1 : Int32)), (.ref b116), (.ref b116), (.ref b115), (.ref b115)])) _
    refine st122 _ ?_
    show Steps p.tables e below (T122.setTop (mkF m 442 #[.val (.ref a1), .val (.int p2), .val (.int p3), .val (.int (13 : Int32))] [(.ref b116), (.ref b115), (.ref b115)])) _
    refine y_dup X122 hx hby d1_442 rfl ?_
    refine y_iconst X122 hx hby (v := (2 : Int32)) d1_443 rfl ?_
    refine y_aloadN X122 hx hby d1_444 rfl rfl ?_
    refine y_iconst X122 hx hby (v := (2 : Int32)) d1_445 rfl ?_
    refine y_iloadN X122 hx hby d1_446 rfl ?_
    refine y_iloadN X122 hx hby d1_447 rfl ?_
    refine st123 _ ?_
    show Steps p.tables e below (T123.setTop (mkF m 451 #[.val (.ref a1), .val (.int p2), .val (.int p3), .val (.int (13 : Int32))] [(.int (atv cs1 2 (2 : Int32) p2 p3)), (.int (2 : Int32)), (.ref b116), (.ref b116), (.ref b115), (.ref b115)])) _
    refine st125 _ ?_
    show Steps p.tables e below (T125.setTop (mkF m 452 #[.val (.ref a1), .val (.int p2), .val (.int p3), .val (.int (13 : Int32))] [(.ref b116), (.ref b115), (.ref b115)])) _
    refine y_dup X125 hx hby d1_452 rfl ?_
    refine y_iconst X125 hx hby (v := (3 : Int32)) d1_453 rfl ?_
    refine y_aloadN X125 hx hby d1_454 rfl rfl ?_
    refine y_iconst X125 hx hby (v := (3 : Int32)) d1_455 rfl ?_
    refine y_iloadN X125 hx hby d1_456 rfl ?_
    refine y_iloadN X125 hx hby d1_457 rfl ?_
    refine st126 _ ?_
    show Steps p.tables e below (T126.setTop (mkF m 461 #[.val (.ref a1), .val (.int p2), .val (.int p3), .val (.int (13 : Int32))] [(.int (atv cs1 3 (3 : Int32) p2 p3)), (.int (3 : Int32)), (.ref b116), (.ref b116), (.ref b115), (.ref b115)])) _
    refine st128 _ ?_
    show Steps p.tables e below (T128.setTop (mkF m 462 #[.val (.ref a1), .val (.int p2), .val (.int p3), .val (.int (13 : Int32))] [(.ref b116), (.ref b115), (.ref b115)])) _
    refine y_dup X128 hx hby d1_462 rfl ?_
    refine y_iconst X128 hx hby (v := (4 : Int32)) d1_463 rfl ?_
    refine y_aloadN X128 hx hby d1_464 rfl rfl ?_
    refine y_iconst X128 hx hby (v := (4 : Int32)) d1_465 rfl ?_
    refine y_iloadN X128 hx hby d1_466 rfl ?_
    refine y_iloadN X128 hx hby d1_467 rfl ?_
    refine st129 _ ?_
    show Steps p.tables e below (T129.setTop (mkF m 471 #[.val (.ref a1), .val (.int p2), .val (.int p3), .val (.int (13 : Int32))] [(.int (atv cs1 4 (4 : Int32) p2 p3)), (.int (4 : Int32)), (.ref b116), (.ref b116), (.ref b115), (.ref b115)])) _
    refine st131 _ ?_
    show Steps p.tables e below (T131.setTop (mkF m 472 #[.val (.ref a1), .val (.int p2), .val (.int p3), .val (.int (13 : Int32))] [(.ref b116), (.ref b115), (.ref b115)])) _
    refine y_dup X131 hx hby d1_472 rfl ?_
    refine y_iconst X131 hx hby (v := (5 : Int32)) d1_473 rfl ?_
    refine y_aloadN X131 hx hby d1_474 rfl rfl ?_
    refine y_iconst X131 hx hby (v := (5 : Int32)) d1_475 rfl ?_
    refine y_iloadN X131 hx hby d1_476 rfl ?_
    refine y_iloadN X131 hx hby d1_477 rfl ?_
    refine st132 _ ?_
    show Steps p.tables e below (T132.setTop (mkF m 481 #[.val (.ref a1), .val (.int p2), .val (.int p3), .val (.int (13 : Int32))] [(.int (atv cs1 5 (5 : Int32) p2 p3)), (.int (5 : Int32)), (.ref b116), (.ref b116), (.ref b115), (.ref b115)])) _
    refine st134 _ ?_
    show Steps p.tables e below (T134.setTop (mkF m 482 #[.val (.ref a1), .val (.int p2), .val (.int p3), .val (.int (13 : Int32))] [(.ref b116), (.ref b115), (.ref b115)])) _
    refine y_dup X134 hx hby d1_482 rfl ?_
    refine y_bipush X134 hx hby (v := (6 : Int32)) d1_483 rfl ?_
    refine y_aloadN X134 hx hby d1_485 rfl rfl ?_
    refine y_bipush X134 hx hby (v := (6 : Int32)) d1_486 rfl ?_
    refine y_iloadN X134 hx hby d1_488 rfl ?_
    refine y_iloadN X134 hx hby d1_489 rfl ?_
    refine st135 _ ?_
    show Steps p.tables e below (T135.setTop (mkF m 493 #[.val (.ref a1), .val (.int p2), .val (.int p3), .val (.int (13 : Int32))] [(.int (atv cs1 6 (6 : Int32) p2 p3)), (.int (6 : Int32)), (.ref b116), (.ref b116), (.ref b115), (.ref b115)])) _
    refine st137 _ ?_
    show Steps p.tables e below (T137.setTop (mkF m 494 #[.val (.ref a1), .val (.int p2), .val (.int p3), .val (.int (13 : Int32))] [(.ref b116), (.ref b115), (.ref b115)])) _
    refine y_dup X137 hx hby d1_494 rfl ?_
    refine y_bipush X137 hx hby (v := (7 : Int32)) d1_495 rfl ?_
    refine y_aloadN X137 hx hby d1_497 rfl rfl ?_
    refine y_bipush X137 hx hby (v := (7 : Int32)) d1_498 rfl ?_
    refine y_iloadN X137 hx hby d1_500 rfl ?_
    refine y_iloadN X137 hx hby d1_501 rfl ?_
    refine st138 _ ?_
    show Steps p.tables e below (T138.setTop (mkF m 505 #[.val (.ref a1), .val (.int p2), .val (.int p3), .val (.int (13 : Int32))] [(.int (atv cs1 7 (7 : Int32) p2 p3)), (.int (7 : Int32)), (.ref b116), (.ref b116), (.ref b115), (.ref b115)])) _
    refine st140 _ ?_
    show Steps p.tables e below (T140.setTop (mkF m 506 #[.val (.ref a1), .val (.int p2), .val (.int p3), .val (.int (13 : Int32))] [(.ref b116), (.ref b115), (.ref b115)])) _
    refine y_dup X140 hx hby d1_506 rfl ?_
    refine y_bipush X140 hx hby (v := (8 : Int32)) d1_507 rfl ?_
    refine y_aloadN X140 hx hby d1_509 rfl rfl ?_
    refine y_bipush X140 hx hby (v := (8 : Int32)) d1_510 rfl ?_
    refine y_iloadN X140 hx hby d1_512 rfl ?_
    refine y_iloadN X140 hx hby d1_513 rfl ?_
    refine st141 _ ?_
    show Steps p.tables e below (T141.setTop (mkF m 517 #[.val (.ref a1), .val (.int p2), .val (.int p3), .val (.int (13 : Int32))] [(.int (atv cs1 8 (8 : Int32) p2 p3)), (.int (8 : Int32)), (.ref b116), (.ref b116), (.ref b115), (.ref b115)])) _
    refine st143 _ ?_
    show Steps p.tables e below (T143.setTop (mkF m 518 #[.val (.ref a1), .val (.int p2), .val (.int p3), .val (.int (13 : Int32))] [(.ref b116), (.ref b115), (.ref b115)])) _
    refine y_dup X143 hx hby d1_518 rfl ?_
    refine y_bipush X143 hx hby (v := (9 : Int32)) d1_519 rfl ?_
    refine y_aloadN X143 hx hby d1_521 rfl rfl ?_
    refine y_bipush X143 hx hby (v := (9 : Int32)) d1_522 rfl ?_
    refine y_iloadN X143 hx hby d1_524 rfl ?_
    refine y_iloadN X143 hx hby d1_525 rfl ?_
    refine st144 _ ?_
    show Steps p.tables e below (T144.setTop (mkF m 529 #[.val (.ref a1), .val (.int p2), .val (.int p3), .val (.int (13 : Int32))] [(.int (atv cs1 9 (9 : Int32) p2 p3)), (.int (9 : Int32)), (.ref b116), (.ref b116), (.ref b115), (.ref b115)])) _
    refine st146 _ ?_
    show Steps p.tables e below (T146.setTop (mkF m 530 #[.val (.ref a1), .val (.int p2), .val (.int p3), .val (.int (13 : Int32))] [(.ref b116), (.ref b115), (.ref b115)])) _
    refine y_dup X146 hx hby d1_530 rfl ?_
    refine y_bipush X146 hx hby (v := (10 : Int32)) d1_531 rfl ?_
    refine y_aloadN X146 hx hby d1_533 rfl rfl ?_
    refine y_bipush X146 hx hby (v := (10 : Int32)) d1_534 rfl ?_
    refine y_iloadN X146 hx hby d1_536 rfl ?_
    refine y_iloadN X146 hx hby d1_537 rfl ?_
    refine st147 _ ?_
    show Steps p.tables e below (T147.setTop (mkF m 541 #[.val (.ref a1), .val (.int p2), .val (.int p3), .val (.int (13 : Int32))] [(.int (atv cs1 10 (10 : Int32) p2 p3)), (.int (10 : Int32)), (.ref b116), (.ref b116), (.ref b115), (.ref b115)])) _
    refine st149 _ ?_
    show Steps p.tables e below (T149.setTop (mkF m 542 #[.val (.ref a1), .val (.int p2), .val (.int p3), .val (.int (13 : Int32))] [(.ref b116), (.ref b115), (.ref b115)])) _
    refine y_dup X149 hx hby d1_542 rfl ?_
    refine y_bipush X149 hx hby (v := (11 : Int32)) d1_543 rfl ?_
    refine y_aloadN X149 hx hby d1_545 rfl rfl ?_
    refine y_bipush X149 hx hby (v := (11 : Int32)) d1_546 rfl ?_
    refine y_iloadN X149 hx hby d1_548 rfl ?_
    refine y_iloadN X149 hx hby d1_549 rfl ?_
    refine st150 _ ?_
    show Steps p.tables e below (T150.setTop (mkF m 553 #[.val (.ref a1), .val (.int p2), .val (.int p3), .val (.int (13 : Int32))] [(.int (atv cs1 11 (11 : Int32) p2 p3)), (.int (11 : Int32)), (.ref b116), (.ref b116), (.ref b115), (.ref b115)])) _
    refine st152 _ ?_
    show Steps p.tables e below (T152.setTop (mkF m 554 #[.val (.ref a1), .val (.int p2), .val (.int p3), .val (.int (13 : Int32))] [(.ref b116), (.ref b115), (.ref b115)])) _
    refine y_dup X152 hx hby d1_554 rfl ?_
    refine y_bipush X152 hx hby (v := (12 : Int32)) d1_555 rfl ?_
    refine y_aloadN X152 hx hby d1_557 rfl rfl ?_
    refine y_bipush X152 hx hby (v := (12 : Int32)) d1_558 rfl ?_
    refine y_iloadN X152 hx hby d1_560 rfl ?_
    refine y_iloadN X152 hx hby d1_561 rfl ?_
    refine st153 _ ?_
    show Steps p.tables e below (T153.setTop (mkF m 565 #[.val (.ref a1), .val (.int p2), .val (.int p3), .val (.int (13 : Int32))] [(.int (atv cs1 12 (12 : Int32) p2 p3)), (.int (12 : Int32)), (.ref b116), (.ref b116), (.ref b115), (.ref b115)])) _
    refine st155 _ ?_
    show Steps p.tables e below (T155.setTop (mkF m 566 #[.val (.ref a1), .val (.int p2), .val (.int p3), .val (.int (13 : Int32))] [(.ref b116), (.ref b115), (.ref b115)])) _
    refine st156.trans ?_
    show Steps p.tables e below (T156.setTop (mkF m 569 #[.val (.ref a1), .val (.int p2), .val (.int p3), .val (.int (13 : Int32))] [(.ref b115)])) _
    jvm_step X156.here [X156.here.top, hx, (hb hby d1_569), X156.method', Bd.returns, Value.isRef, FieldType.isReference]
    first | (intro acts; rw [hr _ acts rfl rfl rfl]) | rw [hr _ _ rfl rfl rfl]
    exact Steps.refl _
  · show QM Z _ _ h0 n0 _ T156.heap _
    rw [e156]
    exact ⟨_, _, _, rfl, N156, KK, sz_b115, sz_B156, E_b115, F_coder_b115, F_value_b115, V_B156⟩
theorem d24_0 : decode jdk_32_method_2_code 0 = .ok (.aload_n 0, 1) := by decide +kernel
theorem d24_1 : decode jdk_32_method_2_code 1 = .ok (.invokespecial 7, 3) := by decide +kernel
theorem d24_4 : decode jdk_32_method_2_code 4 = .ok (.aload_n 0, 1) := by decide +kernel
theorem d24_5 : decode jdk_32_method_2_code 5 = .ok (.aload_n 1, 1) := by decide +kernel
theorem d24_6 : decode jdk_32_method_2_code 6 = .ok (.putfield 13, 3) := by decide +kernel
theorem d24_9 : decode jdk_32_method_2_code 9 = .ok (.return_, 1) := by decide +kernel
abbrev mn5 : MethodName := ⟨"java/util/Optional", "<init>", "(Ljava/lang/Object;)V"⟩
theorem pn_24 : plainName "java/util/Optional" = true := by first | (simp [plainName, overriddenIn]; done) | decide +kernel
theorem ef_24 (m : MethodId) (x0 : Addr) (x1 : Addr) : entryFrame m #[(.ref x0), (.ref x1)] 2 = mkF m 0 #[.val (.ref x0), .val (.ref x1)] [] := by first | (simp [entryFrame, mkF, argsToLocals, Value.category]; done) | rfl
set_option maxRecDepth 65536 in
set_option maxHeartbeats 40000000 in
theorem rm24 (l : Launch) (Z : State) (a0 : Array Value) (hw : HW a0 Z) (ws : List Jvm.Cond) (a1 a2 : Addr) (h0 : Heap) (n0 : Nat) (Z0 : n0 ≤ h0.size) (E_a1 : Exa Z h0 a1 "java/util/Optional") (F_value_a1 : Fld Z h0 a1 "java/util/Optional" "value" "Ljava/lang/Object;" .null) (g_a1 : n0 ≤ a1) :
    MF l mn5 jdk_32_method_2_code 2 none ws ({ frames := 1, cells := 0, slots := 0, locals := 12 } : Room) #[(.ref a1), (.ref a2)] Z h0 (QK Z a1 (fun h => Fld Z h a1 "java/util/Optional" "value" "Ljava/lang/Object;" (.ref a2)) h0 n0) := by
  refine MetFree.of_bodySF (plainFor_of_name pn_24) hisR ?_
  intro p e s m args below meth c s₁ Bd hml0 hP hK
  obtain ⟨rfl, hZ, hh⟩ := hP
  have hx := Bd.exec
  have hby := Bd.bytes
  have hml : c.maxLocals = 2 := hml0
  have hown : s.vm.findClass "java/util/Optional" = some m.cls := findClass_of_methodNamed Bd.named
  have hnm := (name_of_methodNamed Bd.named Bd.method).1
  have X0 : Stand p l e ({ frames := 1, cells := 0, slots := 0, locals := 12 } : Room) s m #[(.ref a1), (.ref a2)] below meth c s₁ [] 0 0 := Stand.of_body Bd
  have e0 : s₁.heap = h0 := by rw [← hh, Bd.state]; rfl
  have N0 := Fr.nil n0
  have pre0 : GO p e below (s₁.setTop (mkF m 0 #[.val (.ref a1), .val (.ref a2)] [])) (s₁.setTop (entryFrame m #[(.ref a1), (.ref a2)] 2)) := fun t k => castTop (ef_24 m a1 a2) k
  have KK := Keep.refl h0 [a1]
  obtain ⟨T157, X157, e157, st157⟩ := initO X0 hx hZ hown (ww hw 131 rfl) (ww hw 61 rfl) (ww hw 62 rfl) e0 (g := (mkF m 1 #[.val (.ref a1), .val (.ref a2)] [(.ref a1)])) rfl (by rw [hml]; rfl) rfl (hb hby d24_1) (by decide) (W := 0) (by show 2 * 0 + _ ≤ _; exact Nat.le_of_eq rfl) (by decide)
  obtain ⟨T158, h158, X158, e158, W158, st158⟩ := putF X157 hx hZ hown (host := "") (Or.inl (ww hw 115 rfl)) Via.refl e157 F_value_a1 E_a1 (Or.inr ⟨(ww hw 116 rfl), rfl, hnm⟩) (ww hw 122 rfl) (ty := (.object "java/lang/Object")) (by decide) rfl rfl (g := (mkF m 6 #[.val (.ref a1), .val (.ref a2)] [(.ref a2), (.ref a1)])) rfl rfl (hb hby d24_6)
  replace E_a1 := E_a1.wr W158
  replace F_value_a1 := F_value_a1.same W158
  replace Z0 := Nat.le_trans Z0 (Keep.of_wr W158).1
  replace KK := KK.wr W158 (Or.inl (List.mem_of_getElem? (i := 0) rfl))
  have N158 := Fr.snoc X158 N0 g_a1
  obtain ⟨fs, hr, hrun, hended, hW, hsame⟩ := X158.leave (v := none) (fun _ => rfl)
  refine ⟨_, _, pre0 _ ?_, hrun, hended, _, _, rfl, ?_, ⟨_, rfl⟩, hW, hsame.mono (by decide) (by decide)⟩
  · refine y_aloadN X0 hx hby d24_0 rfl rfl ?_
    refine st157 _ ?_
    show Steps p.tables e below (T157.setTop (mkF m 4 #[.val (.ref a1), .val (.ref a2)] [])) _
    refine y_aloadN X157 hx hby d24_4 rfl rfl ?_
    refine y_aloadN X157 hx hby d24_5 rfl rfl ?_
    refine st158 _ ?_
    show Steps p.tables e below (T158.setTop (mkF m 9 #[.val (.ref a1), .val (.ref a2)] [])) _
    exact X158.returnOut hx Bd.returns (hb hby d24_9) hr
  · show QK Z a1 _ h0 n0 _ T158.heap _
    rw [e158]
    exact ⟨rfl, N158, KK, F_value_a1⟩
theorem d28_0 : decode jdk_42_method_151_code 0 = .ok (.aload_n 0, 1) := by decide +kernel
theorem d28_1 : decode jdk_42_method_151_code 1 = .ok (.invokespecial 1, 3) := by decide +kernel
theorem d28_4 : decode jdk_42_method_151_code 4 = .ok (.aload_n 0, 1) := by decide +kernel
theorem d28_5 : decode jdk_42_method_151_code 5 = .ok (.aload_n 1, 1) := by decide +kernel
theorem d28_6 : decode jdk_42_method_151_code 6 = .ok (.putfield 9, 3) := by decide +kernel
theorem d28_9 : decode jdk_42_method_151_code 9 = .ok (.aload_n 0, 1) := by decide +kernel
theorem d28_10 : decode jdk_42_method_151_code 10 = .ok (.iload_n 2, 1) := by decide +kernel
theorem d28_11 : decode jdk_42_method_151_code 11 = .ok (.putfield 15, 3) := by decide +kernel
theorem d28_14 : decode jdk_42_method_151_code 14 = .ok (.return_, 1) := by decide +kernel
abbrev mn6 : MethodName := ⟨"java/lang/String", "<init>", "([BB)V"⟩
theorem pn_28 : plainName "java/lang/String" = true := by first | (simp [plainName, overriddenIn]; done) | decide +kernel
theorem ef_28 (m : MethodId) (x0 : Addr) (x1 : Addr) (x2 : Int32) : entryFrame m #[(.ref x0), (.ref x1), (.int x2)] 3 = mkF m 0 #[.val (.ref x0), .val (.ref x1), .val (.int x2)] [] := by first | (simp [entryFrame, mkF, argsToLocals, Value.category]; done) | rfl
set_option maxRecDepth 65536 in
set_option maxHeartbeats 40000000 in
theorem rm28 (l : Launch) (Z : State) (a0 : Array Value) (hw : HW a0 Z) (ws : List Jvm.Cond) (a1 a2 : Addr) (p3 : Int32) (h0 : Heap) (n0 : Nat) (Z0 : n0 ≤ h0.size) (E_a1 : Exa Z h0 a1 "java/lang/String") (F_value_a1 : Fld Z h0 a1 "java/lang/String" "value" "[B" .null) (F_coder_a1 : Fld Z h0 a1 "java/lang/String" "coder" "B" (.int (0 : Int32))) (g_a1 : n0 ≤ a1) :
    MF l mn6 jdk_42_method_151_code 3 none ws ({ frames := 1, cells := 0, slots := 0, locals := 12 } : Room) #[(.ref a1), (.ref a2), (.int p3)] Z h0 (QK Z a1 (fun h => Fld Z h a1 "java/lang/String" "value" "[B" (.ref a2) ∧ Fld Z h a1 "java/lang/String" "coder" "B" (.int (p3.toInt8.toInt32))) h0 n0) := by
  refine MetFree.of_bodySF (plainFor_of_name pn_28) hisR ?_
  intro p e s m args below meth c s₁ Bd hml0 hP hK
  obtain ⟨rfl, hZ, hh⟩ := hP
  have hx := Bd.exec
  have hby := Bd.bytes
  have hml : c.maxLocals = 3 := hml0
  have hown : s.vm.findClass "java/lang/String" = some m.cls := findClass_of_methodNamed Bd.named
  have hnm := (name_of_methodNamed Bd.named Bd.method).1
  have X0 : Stand p l e ({ frames := 1, cells := 0, slots := 0, locals := 12 } : Room) s m #[(.ref a1), (.ref a2), (.int p3)] below meth c s₁ [] 0 0 := Stand.of_body Bd
  have e0 : s₁.heap = h0 := by rw [← hh, Bd.state]; rfl
  have N0 := Fr.nil n0
  have pre0 : GO p e below (s₁.setTop (mkF m 0 #[.val (.ref a1), .val (.ref a2), .val (.int p3)] [])) (s₁.setTop (entryFrame m #[(.ref a1), (.ref a2), (.int p3)] 3)) := fun t k => castTop (ef_28 m a1 a2 p3) k
  have KK := Keep.refl h0 [a1]
  obtain ⟨T159, X159, e159, st159⟩ := initO X0 hx hZ hown (ww hw 60 rfl) (ww hw 61 rfl) (ww hw 62 rfl) e0 (g := (mkF m 1 #[.val (.ref a1), .val (.ref a2), .val (.int p3)] [(.ref a1)])) rfl (by rw [hml]; rfl) rfl (hb hby d28_1) (by decide) (W := 0) (by show 2 * 0 + _ ≤ _; exact Nat.le_of_eq rfl) (by decide)
  obtain ⟨T160, h160, X160, e160, W160, st160⟩ := putF X159 hx hZ hown (host := "") (Or.inl (ww hw 23 rfl)) Via.refl e159 F_value_a1 E_a1 (Or.inr ⟨(ww hw 4 rfl), rfl, hnm⟩) (ww hw 2 rfl) (ty := (.array .byte)) (by decide) rfl rfl (g := (mkF m 6 #[.val (.ref a1), .val (.ref a2), .val (.int p3)] [(.ref a2), (.ref a1)])) rfl rfl (hb hby d28_6)
  replace E_a1 := E_a1.wr W160
  replace F_value_a1 := F_value_a1.same W160
  replace F_coder_a1 := F_coder_a1.other W160 (Or.inr (slot_ne (Or.inr (ww hw 5 rfl)) (Or.inr (ww hw 4 rfl)) (by decide) (t := .byte) (t' := (.array .byte)) (by decide) (by decide)))
  replace Z0 := Nat.le_trans Z0 (Keep.of_wr W160).1
  replace KK := KK.wr W160 (Or.inl (List.mem_of_getElem? (i := 0) rfl))
  have N160 := Fr.snoc X160 N0 g_a1
  obtain ⟨T161, h161, X161, e161, W161, st161⟩ := putFN X160 hx hZ hown (ww hw 30 rfl) Via.refl e160 F_coder_a1 E_a1 (Or.inr ⟨(ww hw 5 rfl), rfl, hnm⟩) (ww hw 2 rfl) (ty := .byte) (v' := (.int (p3.toInt8.toInt32))) (by decide) rfl (fits_nar_byte _) (g := (mkF m 11 #[.val (.ref a1), .val (.ref a2), .val (.int p3)] [(.int p3), (.ref a1)])) rfl rfl (hb hby d28_11)
  replace E_a1 := E_a1.wr W161
  replace F_value_a1 := F_value_a1.other W161 (Or.inr (slot_ne (Or.inr (ww hw 4 rfl)) (Or.inr (ww hw 5 rfl)) (by decide) (t := (.array .byte)) (t' := .byte) (by decide) (by decide)))
  replace F_coder_a1 := F_coder_a1.same W161
  replace Z0 := Nat.le_trans Z0 (Keep.of_wr W161).1
  replace KK := KK.wr W161 (Or.inl (List.mem_of_getElem? (i := 0) rfl))
  have N161 := Fr.snoc X161 N160 g_a1
  obtain ⟨fs, hr, hrun, hended, hW, hsame⟩ := X161.leave (v := none) (fun _ => rfl)
  refine ⟨_, _, pre0 _ ?_, hrun, hended, _, _, rfl, ?_, ⟨_, rfl⟩, hW, hsame.mono (by decide) (by decide)⟩
  · refine y_aloadN X0 hx hby d28_0 rfl rfl ?_
    refine st159 _ ?_
    show Steps p.tables e below (T159.setTop (mkF m 4 #[.val (.ref a1), .val (.ref a2), .val (.int p3)] [])) _
    refine y_aloadN X159 hx hby d28_4 rfl rfl ?_
    refine y_aloadN X159 hx hby d28_5 rfl rfl ?_
    refine st160 _ ?_
    show Steps p.tables e below (T160.setTop (mkF m 9 #[.val (.ref a1), .val (.ref a2), .val (.int p3)] [])) _
    refine y_aloadN X160 hx hby d28_9 rfl rfl ?_
    refine y_iloadN X160 hx hby d28_10 rfl ?_
    refine st161 _ ?_
    show Steps p.tables e below (T161.setTop (mkF m 14 #[.val (.ref a1), .val (.ref a2), .val (.int p3)] [])) _
    exact X161.returnOut hx Bd.returns (hb hby d28_14) hr
  · show QK Z a1 _ h0 n0 _ T161.heap _
    rw [e161]
    exact ⟨rfl, N161, KK, F_value_a1, F_coder_a1⟩
theorem d23_0 : decode jdk_31_method_10_code 0 = .ok (.aload_n 0, 1) := by decide +kernel
theorem d23_1 : decode jdk_31_method_10_code 1 = .ok (.ifnonnull 11, 3) := by decide +kernel
theorem d23_12 : decode jdk_31_method_10_code 12 = .ok (.aload_n 0, 1) := by decide +kernel
theorem d23_13 : decode jdk_31_method_10_code 13 = .ok (.areturn, 1) := by decide +kernel
abbrev mn7 : MethodName := ⟨"java/util/Objects", "requireNonNull", "(Ljava/lang/Object;)Ljava/lang/Object;"⟩
theorem pn_23 : plainName "java/util/Objects" = true := by first | (simp [plainName, overriddenIn]; done) | decide +kernel
theorem ef_23 (m : MethodId) (x0 : Addr) : entryFrame m #[(.ref x0)] 1 = mkF m 0 #[.val (.ref x0)] [] := by first | (simp [entryFrame, mkF, argsToLocals, Value.category]; done) | rfl
def f23 (a1 : Addr) : Addr := a1
set_option maxRecDepth 65536 in
set_option maxHeartbeats 40000000 in
theorem rm23 (l : Launch) (Z : State) (a0 : Array Value) (hw : HW a0 Z) (ws : List Jvm.Cond) (a1 : Addr) (h0 : Heap) (n0 : Nat) (Z0 : n0 ≤ h0.size) :
    MF l mn7 jdk_31_method_10_code 1 (some (.object "java/lang/Object")) ws ({ frames := 0, cells := 0, slots := 0, locals := 0 } : Room) #[(.ref a1)] Z h0 (QP (some (.ref (f23 a1))) h0 n0) := by
  refine MetFree.of_bodySF (plainFor_of_name pn_23) hisR ?_
  intro p e s m args below meth c s₁ Bd hml0 hP hK
  obtain ⟨rfl, hZ, hh⟩ := hP
  have hx := Bd.exec
  have hby := Bd.bytes
  have hml : c.maxLocals = 1 := hml0
  have hown : s.vm.findClass "java/util/Objects" = some m.cls := findClass_of_methodNamed Bd.named
  have hnm := (name_of_methodNamed Bd.named Bd.method).1
  have X0 : Stand p l e ({ frames := 0, cells := 0, slots := 0, locals := 0 } : Room) s m #[(.ref a1)] below meth c s₁ [] 0 0 := Stand.of_body Bd
  have e0 : s₁.heap = h0 := by rw [← hh, Bd.state]; rfl
  have N0 := Fr.nil n0
  have pre0 : GO p e below (s₁.setTop (mkF m 0 #[.val (.ref a1)] [])) (s₁.setTop (entryFrame m #[(.ref a1)] 1)) := fun t k => castTop (ef_23 m a1) k
  obtain ⟨fs, hr, hrun, hended, hW, hsame⟩ := X0.leave (v := some (.ref a1)) (fun h => by rw [Bd.returns] at h; cases h)
  refine ⟨_, _, pre0 _ ?_, hrun, hended, _, _, rfl, ?_, ⟨_, rfl⟩, hW, hsame.mono (by decide) (by decide)⟩
  · refine y_aloadN X0 hx hby d23_0 rfl rfl ?_
    refine y_ifnonnullYes X0 hx hby (pc' := 12) d23_1 (by decide) (by decide) ?_
    refine y_aloadN X0 hx hby d23_12 rfl rfl ?_
    show Steps p.tables e below (s₁.setTop (mkF m 13 #[.val (.ref a1)] [(.ref a1)])) _
    jvm_step X0.here [X0.here.top, hx, (hb hby d23_13), X0.method', Bd.returns, Value.isRef, FieldType.isReference]
    first | (intro acts; rw [hr _ acts rfl rfl rfl]) | rw [hr _ _ rfl rfl rfl]
    exact Steps.refl _
  · show QP _ h0 n0 _ s₁.heap _
    rw [e0, show f23 a1 = a1 from rfl]
    exact ⟨rfl, N0, rfl⟩
theorem d22_0 : decode jdk_32_method_3_code 0 = .ok (.new 2, 3) := by decide +kernel
theorem d22_3 : decode jdk_32_method_3_code 3 = .ok (.dup, 1) := by decide +kernel
theorem d22_4 : decode jdk_32_method_3_code 4 = .ok (.aload_n 0, 1) := by decide +kernel
theorem d22_5 : decode jdk_32_method_3_code 5 = .ok (.invokestatic 17, 3) := by decide +kernel
theorem pd_4 : parseMethodDescriptor "(Ljava/lang/Object;)Ljava/lang/Object;" = some ⟨[(.object "java/lang/Object")], some (.object "java/lang/Object")⟩ := by decide +kernel
theorem d22_8 : decode jdk_32_method_3_code 8 = .ok (.invokespecial 23, 3) := by decide +kernel
theorem pd_5 : parseMethodDescriptor "(Ljava/lang/Object;)V" = some ⟨[(.object "java/lang/Object")], none⟩ := by decide +kernel
theorem d22_11 : decode jdk_32_method_3_code 11 = .ok (.areturn, 1) := by decide +kernel
abbrev mn8 : MethodName := ⟨"java/util/Optional", "of", "(Ljava/lang/Object;)Ljava/util/Optional;"⟩
theorem ef_22 (m : MethodId) (x0 : Addr) : entryFrame m #[(.ref x0)] 1 = mkF m 0 #[.val (.ref x0)] [] := by first | (simp [entryFrame, mkF, argsToLocals, Value.category]; done) | rfl
set_option maxRecDepth 65536 in
set_option maxHeartbeats 40000000 in
theorem rm22 (l : Launch) (Z : State) (a0 : Array Value) (hw : HW a0 Z) (ws : List Jvm.Cond) (a1 : Addr) (h0 : Heap) (n0 : Nat) (Z0 : n0 ≤ h0.size) :
    MF l mn8 jdk_32_method_3_code 1 (some (.object "java/util/Optional")) ws ({ frames := 2, cells := 1, slots := 1, locals := 26 } : Room) #[(.ref a1)] Z h0 (QA (fun h x => Exa Z h x "java/util/Optional" ∧ Fld Z h x "java/util/Optional" "value" "Ljava/lang/Object;" (.ref a1)) h0 n0) := by
  refine MetFree.of_bodySF (plainFor_of_name pn_24) hisR ?_
  intro p e s m args below meth c s₁ Bd hml0 hP hK
  obtain ⟨rfl, hZ, hh⟩ := hP
  have hx := Bd.exec
  have hby := Bd.bytes
  have hml : c.maxLocals = 1 := hml0
  have hown : s.vm.findClass "java/util/Optional" = some m.cls := findClass_of_methodNamed Bd.named
  have hnm := (name_of_methodNamed Bd.named Bd.method).1
  have X0 : Stand p l e ({ frames := 2, cells := 1, slots := 1, locals := 26 } : Room) s m #[(.ref a1)] below meth c s₁ [] 0 0 := Stand.of_body Bd
  have e0 : s₁.heap = h0 := by rw [← hh, Bd.state]; rfl
  have N0 := Fr.nil n0
  have pre0 : GO p e below (s₁.setTop (mkF m 0 #[.val (.ref a1)] [])) (s₁.setTop (entryFrame m #[(.ref a1)] 1)) := fun t k => castTop (ef_22 m a1) k
  have KK := Keep.refl h0 []
  obtain ⟨T162, h162, X162, e162, E162, A162, D162, -, st162⟩ := newO X0 hx hZ hown (ww hw 121 rfl) (ww hw 122 rfl) (ww hw 107 rfl) e0 (g := (mkF m 0 #[.val (.ref a1)] [])) rfl (hb hby d22_0) (by decide) (by decide)
  obtain ⟨b162, g162⟩ : ∃ z, z = h0.size := ⟨_, rfl⟩
  rw [← g162] at A162 D162 st162
  have g_b162 : n0 ≤ b162 := Nat.le_trans Z0 (Nat.le_of_eq g162.symm)
  have sz_b162 : h0.size ≤ b162 := Nat.le_trans KK.1 (Nat.le_of_eq g162.symm)
  replace Z0 := Nat.le_trans Z0 E162.1
  replace KK := KK.ext E162
  have E_b162 := A162
  have F_value_b162 : Fld Z h162 b162 "java/util/Optional" "value" "Ljava/lang/Object;" .null := D162 (Or.inr (ww hw 116 rfl)) (ty := (.object "java/lang/Object")) (by decide)
  obtain ⟨_, _, ⟨T163, L163, k163, n163⟩, -, X163, ⟨Lc163, hQ163, l163, y163, z163⟩, st163⟩ := Jvm.LawKit.callS X162 hx (y := mn7) hown (mvT hZ (ww hw 123 rfl)) (mvT hZ (ww hw 124 rfl)) (mvT hZ (ww hw 125 rfl)) (mvT hZ (ww hw 126 rfl)) (by decide) (backOf (W := 2) (rm23 l Z a0 hw [] a1 h162 n0 Z0) hZ (ww hw 126 rfl) (ww hw 125 rfl) (by decide) (by decide)) (g := (mkF m 5 #[.val (.ref a1)] [(.ref a1), (.ref b162), (.ref b162)])) rfl (by rw [hml]; rfl) (argsL := [(.ref a1)]) (rest := [(.ref b162), (.ref b162)]) (lenOf pd_4 rfl) rfl (by show 2 * 0 + _ ≤ _; exact Nat.le_of_eq rfl) (hb hby d22_5) (fun _ _ => ⟨rfl, e162, (by decide : 1 + 0 ≤ _), (by decide : 1 + 0 ≤ _)⟩)
  dsimp only [Pt.U, Pt.locs, Pt.cells, Pt.slots] at X163 l163 y163 z163 st163 hQ163
  rw [l163, y163, z163] at X163
  obtain ⟨rfl, N163q, e163⟩ := hQ163
  have N163 := Fr.app N0 N163q
  obtain ⟨_, _, ⟨T164, L164, k164, n164⟩, -, X164, ⟨Lc164, hQ164, l164, y164, z164⟩, st164⟩ := X163.specialBack hx (y := mn5) rfl hown (mvT hZ (ww hw 127 rfl)) (mvT hZ (ww hw 128 rfl)) (mvT hZ (ww hw 130 rfl)) (by decide) (backOf (W := 1) (rm24 l Z a0 hw [] b162 a1 h162 n0 Z0 E_b162 F_value_b162 g_b162) hZ (ww hw 130 rfl) (ww hw 107 rfl) (by decide) (by decide)) (g := (mkF m 8 #[.val (.ref a1)] [(.ref a1), (.ref b162), (.ref b162)])) rfl (by rw [hml]; rfl) (Steps.refl _) (a := b162) (argsL := [(.ref a1)]) (rest := [(.ref b162)]) (lenOf pd_5 rfl) rfl (by show 2 * 0 + _ ≤ _; exact Nat.le_of_eq rfl) (hb hby d22_8) (fun _ _ => ⟨rfl, e163, (by decide : 1 + 0 ≤ _), (by decide : 1 + 0 ≤ _)⟩)
  dsimp only [Pt.U, Pt.locs, Pt.cells, Pt.slots] at X164 l164 y164 z164 st164 hQ164
  rw [l164, y164, z164] at X164
  obtain ⟨h164, e164⟩ : ∃ z, T164.heap = z := ⟨_, rfl⟩
  rw [e164] at hQ164
  obtain ⟨rfl, N164q, K164, G164_0⟩ := hQ164
  replace E_b162 := E_b162.keep K164
  replace Z0 := Nat.le_trans Z0 K164.1
  replace KK := KK.trans K164 (allS (Or.inr sz_b162) all0)
  have F_value_b162 : Fld Z h164 b162 "java/util/Optional" "value" "Ljava/lang/Object;" (.ref a1) := G164_0
  have N164 := Fr.app N163 N164q
  obtain ⟨fs, hr, hrun, hended, hW, hsame⟩ := X164.leave (v := some (.ref b162)) (fun h => by rw [Bd.returns] at h; cases h)
  refine ⟨_, _, pre0 _ ?_, hrun, hended, _, _, rfl, ?_, ⟨_, rfl⟩, hW, hsame.mono (by decide) (by decide)⟩
  · refine st162 _ ?_
    show Steps p.tables e below (T162.setTop (mkF m 3 #[.val (.ref a1)] [(.ref b162)])) _
    refine y_dup X162 hx hby d22_3 rfl ?_
    refine y_aloadN X162 hx hby d22_4 rfl rfl ?_
    refine st163 _ ?_
    show Steps p.tables e below (T163.setTop (mkF m 8 #[.val (.ref a1)] [(.ref a1), (.ref b162), (.ref b162)])) _
    refine st164.trans ?_
    show Steps p.tables e below (T164.setTop (mkF m 11 #[.val (.ref a1)] [(.ref b162)])) _
    jvm_step X164.here [X164.here.top, hx, (hb hby d22_11), X164.method', Bd.returns, Value.isRef, FieldType.isReference]
    first | (intro acts; rw [hr _ acts rfl rfl rfl]) | rw [hr _ _ rfl rfl rfl]
    exact Steps.refl _
  · show QA _ h0 n0 _ T164.heap _
    rw [e164]
    exact ⟨_, rfl, N164, KK, sz_b162, E_b162, F_value_b162⟩
theorem d20_0 : decode jdk_32_method_1_code 0 = .ok (.getstatic 1, 3) := by decide +kernel
theorem d20_3 : decode jdk_32_method_1_code 3 = .ok (.astore_n 0, 1) := by decide +kernel
theorem d20_4 : decode jdk_32_method_1_code 4 = .ok (.aload_n 0, 1) := by decide +kernel
theorem d20_5 : decode jdk_32_method_1_code 5 = .ok (.areturn, 1) := by decide +kernel
abbrev mn9 : MethodName := ⟨"java/util/Optional", "empty", "()Ljava/util/Optional;"⟩
theorem ef_20 (m : MethodId)  : entryFrame m #[] 1 = mkF m 0 #[.unset] [] := by first | (simp [entryFrame, mkF, argsToLocals, Value.category]; done) | rfl
def f20 (w_EMPTY : Addr) : Addr := w_EMPTY
set_option maxRecDepth 65536 in
set_option maxHeartbeats 40000000 in
theorem rm20 (l : Launch) (Z : State) (a0 : Array Value) (hw : HW a0 Z) (ws : List Jvm.Cond) (w_EMPTY : Addr) (h0 : Heap) (n0 : Nat) (Z0 : n0 ≤ h0.size) (S_EMPTY : Sta Z h0 "java/util/Optional" "EMPTY" "Ljava/util/Optional;" (.ref w_EMPTY)) :
    MF l mn9 jdk_32_method_1_code 1 (some (.object "java/util/Optional")) ws ({ frames := 0, cells := 0, slots := 0, locals := 0 } : Room) #[] Z h0 (QP (some (.ref (f20 w_EMPTY))) h0 n0) := by
  refine MetFree.of_bodySF (plainFor_of_name pn_24) hisR ?_
  intro p e s m args below meth c s₁ Bd hml0 hP hK
  obtain ⟨rfl, hZ, hh⟩ := hP
  have hx := Bd.exec
  have hby := Bd.bytes
  have hml : c.maxLocals = 1 := hml0
  have hown : s.vm.findClass "java/util/Optional" = some m.cls := findClass_of_methodNamed Bd.named
  have hnm := (name_of_methodNamed Bd.named Bd.method).1
  have X0 : Stand p l e ({ frames := 0, cells := 0, slots := 0, locals := 0 } : Room) s m #[] below meth c s₁ [] 0 0 := Stand.of_body Bd
  have e0 : s₁.heap = h0 := by rw [← hh, Bd.state]; rfl
  have N0 := Fr.nil n0
  have pre0 : GO p e below (s₁.setTop (mkF m 0 #[.unset] [])) (s₁.setTop (entryFrame m #[] 1)) := fun t k => castTop (ef_20 m ) k
  obtain ⟨T165, X165, e165, st165⟩ := getS2 X0 hx hZ hown (host := "") (Or.inl (ww hw 109 rfl)) Via.refl e0 S_EMPTY (g := (mkF m 0 #[.unset] [])) rfl (hb hby d20_0)
  obtain ⟨fs, hr, hrun, hended, hW, hsame⟩ := X165.leave (v := some (.ref w_EMPTY)) (fun h => by rw [Bd.returns] at h; cases h)
  refine ⟨_, _, pre0 _ ?_, hrun, hended, _, _, rfl, ?_, ⟨_, rfl⟩, hW, hsame.mono (by decide) (by decide)⟩
  · refine st165 _ ?_
    show Steps p.tables e below (T165.setTop (mkF m 3 #[.unset] [(.ref w_EMPTY)])) _
    refine y_astoreN X165 hx hby d20_3 rfl (l' := #[.val (.ref w_EMPTY)]) rfl ?_
    refine y_aloadN X165 hx hby d20_4 rfl rfl ?_
    show Steps p.tables e below (T165.setTop (mkF m 5 #[.val (.ref w_EMPTY)] [(.ref w_EMPTY)])) _
    jvm_step X165.here [X165.here.top, hx, (hb hby d20_5), X165.method', Bd.returns, Value.isRef, FieldType.isReference]
    first | (intro acts; rw [hr _ acts rfl rfl rfl]) | rw [hr _ _ rfl rfl rfl]
    exact Steps.refl _
  · show QP _ h0 n0 _ T165.heap _
    rw [e165, show f20 w_EMPTY = w_EMPTY from rfl]
    exact ⟨rfl, N0, rfl⟩
theorem d21_0 : decode jdk_32_method_15_code 0 = .ok (.aload_n 0, 1) := by decide +kernel
theorem d21_1 : decode jdk_32_method_15_code 1 = .ok (.getfield 13, 3) := by decide +kernel
theorem d21_4 : decode jdk_32_method_15_code 4 = .ok (.ifnull 10, 3) := by decide +kernel
theorem d21_7 : decode jdk_32_method_15_code 7 = .ok (.aload_n 0, 1) := by decide +kernel
theorem d21_8 : decode jdk_32_method_15_code 8 = .ok (.getfield 13, 3) := by decide +kernel
theorem d21_11 : decode jdk_32_method_15_code 11 = .ok (.goto 4, 3) := by decide +kernel
theorem d21_15 : decode jdk_32_method_15_code 15 = .ok (.areturn, 1) := by decide +kernel
abbrev mn10 : MethodName := ⟨"java/util/Optional", "orElse", "(Ljava/lang/Object;)Ljava/lang/Object;"⟩
theorem ef_21z (m : MethodId) (x0 : Addr) : entryFrame m #[(.ref x0), .null] 2 = mkF m 0 #[.val (.ref x0), .val .null] [] := by first | (simp [entryFrame, mkF, argsToLocals, Value.category]; done) | rfl
set_option maxRecDepth 65536 in
set_option maxHeartbeats 40000000 in
theorem rm21_r (l : Launch) (Z : State) (a0 : Array Value) (hw : HW a0 Z) (ws : List Jvm.Cond) (a1 a3 : Addr) (h0 : Heap) (n0 : Nat) (Z0 : n0 ≤ h0.size) (F_value_a1 : Fld Z h0 a1 "java/util/Optional" "value" "Ljava/lang/Object;" (.ref a3)) :
    MF l mn10 jdk_32_method_15_code 2 (some (.object "java/lang/Object")) ws ({ frames := 0, cells := 0, slots := 0, locals := 0 } : Room) #[(.ref a1), .null] Z h0 (QP (some (.ref a3)) h0 n0) := by
  refine MetFree.of_bodySF (plainFor_of_name pn_24) hisR ?_
  intro p e s m args below meth c s₁ Bd hml0 hP hK
  obtain ⟨rfl, hZ, hh⟩ := hP
  have hx := Bd.exec
  have hby := Bd.bytes
  have hml : c.maxLocals = 2 := hml0
  have hown : s.vm.findClass "java/util/Optional" = some m.cls := findClass_of_methodNamed Bd.named
  have hnm := (name_of_methodNamed Bd.named Bd.method).1
  have X0 : Stand p l e ({ frames := 0, cells := 0, slots := 0, locals := 0 } : Room) s m #[(.ref a1), .null] below meth c s₁ [] 0 0 := Stand.of_body Bd
  have e0 : s₁.heap = h0 := by rw [← hh, Bd.state]; rfl
  have N0 := Fr.nil n0
  have pre0 : GO p e below (s₁.setTop (mkF m 0 #[.val (.ref a1), .val .null] [])) (s₁.setTop (entryFrame m #[(.ref a1), .null] 2)) := fun t k => castTop (ef_21z m a1) k
  obtain ⟨T166, X166, e166, st166⟩ := getF X0 hx hZ hown (host := "") (Or.inl (ww hw 115 rfl)) Via.refl e0 F_value_a1 (g := (mkF m 1 #[.val (.ref a1), .val .null] [(.ref a1)])) rfl rfl (hb hby d21_1)
  obtain ⟨T167, X167, e167, st167⟩ := getF X166 hx hZ hown (host := "") (Or.inl (ww hw 115 rfl)) Via.refl e166 F_value_a1 (g := (mkF m 8 #[.val (.ref a1), .val .null] [(.ref a1)])) rfl rfl (hb hby d21_8)
  obtain ⟨fs, hr, hrun, hended, hW, hsame⟩ := X167.leave (v := some (.ref a3)) (fun h => by rw [Bd.returns] at h; cases h)
  refine ⟨_, _, pre0 _ ?_, hrun, hended, _, _, rfl, ?_, ⟨_, rfl⟩, hW, hsame.mono (by decide) (by decide)⟩
  · refine y_aloadN X0 hx hby d21_0 rfl rfl ?_
    refine st166 _ ?_
    show Steps p.tables e below (T166.setTop (mkF m 4 #[.val (.ref a1), .val .null] [(.ref a3)])) _
    refine y_ifnullNo X166 hx hby d21_4 ?_
    refine y_aloadN X166 hx hby d21_7 rfl rfl ?_
    refine st167 _ ?_
    show Steps p.tables e below (T167.setTop (mkF m 11 #[.val (.ref a1), .val .null] [(.ref a3)])) _
    refine y_goto X167 hx hby (pc' := 15) d21_11 (by decide) (by decide) ?_
    show Steps p.tables e below (T167.setTop (mkF m 15 #[.val (.ref a1), .val .null] [(.ref a3)])) _
    jvm_step X167.here [X167.here.top, hx, (hb hby d21_15), X167.method', Bd.returns, Value.isRef, FieldType.isReference]
    first | (intro acts; rw [hr _ acts rfl rfl rfl]) | rw [hr _ _ rfl rfl rfl]
    exact Steps.refl _
  · show QP _ h0 n0 _ T167.heap _
    rw [e167]
    exact ⟨rfl, N0, rfl⟩
theorem d21_14 : decode jdk_32_method_15_code 14 = .ok (.aload_n 1, 1) := by decide +kernel
set_option maxRecDepth 65536 in
set_option maxHeartbeats 40000000 in
theorem rm21_n (l : Launch) (Z : State) (a0 : Array Value) (hw : HW a0 Z) (ws : List Jvm.Cond) (a1 : Addr) (h0 : Heap) (n0 : Nat) (Z0 : n0 ≤ h0.size) (F_value_a1 : Fld Z h0 a1 "java/util/Optional" "value" "Ljava/lang/Object;" .null) :
    MF l mn10 jdk_32_method_15_code 2 (some (.object "java/lang/Object")) ws ({ frames := 0, cells := 0, slots := 0, locals := 0 } : Room) #[(.ref a1), .null] Z h0 (QP (some .null) h0 n0) := by
  refine MetFree.of_bodySF (plainFor_of_name pn_24) hisR ?_
  intro p e s m args below meth c s₁ Bd hml0 hP hK
  obtain ⟨rfl, hZ, hh⟩ := hP
  have hx := Bd.exec
  have hby := Bd.bytes
  have hml : c.maxLocals = 2 := hml0
  have hown : s.vm.findClass "java/util/Optional" = some m.cls := findClass_of_methodNamed Bd.named
  have hnm := (name_of_methodNamed Bd.named Bd.method).1
  have X0 : Stand p l e ({ frames := 0, cells := 0, slots := 0, locals := 0 } : Room) s m #[(.ref a1), .null] below meth c s₁ [] 0 0 := Stand.of_body Bd
  have e0 : s₁.heap = h0 := by rw [← hh, Bd.state]; rfl
  have N0 := Fr.nil n0
  have pre0 : GO p e below (s₁.setTop (mkF m 0 #[.val (.ref a1), .val .null] [])) (s₁.setTop (entryFrame m #[(.ref a1), .null] 2)) := fun t k => castTop (ef_21z m a1) k
  obtain ⟨T168, X168, e168, st168⟩ := getF X0 hx hZ hown (host := "") (Or.inl (ww hw 115 rfl)) Via.refl e0 F_value_a1 (g := (mkF m 1 #[.val (.ref a1), .val .null] [(.ref a1)])) rfl rfl (hb hby d21_1)
  obtain ⟨fs, hr, hrun, hended, hW, hsame⟩ := X168.leave (v := some .null) (fun h => by rw [Bd.returns] at h; cases h)
  refine ⟨_, _, pre0 _ ?_, hrun, hended, _, _, rfl, ?_, ⟨_, rfl⟩, hW, hsame.mono (by decide) (by decide)⟩
  · refine y_aloadN X0 hx hby d21_0 rfl rfl ?_
    refine st168 _ ?_
    show Steps p.tables e below (T168.setTop (mkF m 4 #[.val (.ref a1), .val .null] [.null])) _
    refine y_ifnullYes X168 hx hby (pc' := 14) d21_4 (by decide) (by decide) ?_
    refine y_aloadN X168 hx hby d21_14 rfl rfl ?_
    show Steps p.tables e below (T168.setTop (mkF m 15 #[.val (.ref a1), .val .null] [.null])) _
    jvm_step X168.here [X168.here.top, hx, (hb hby d21_15), X168.method', Bd.returns, Value.isRef, FieldType.isReference]
    first | (intro acts; rw [hr _ acts rfl rfl rfl]) | rw [hr _ _ rfl rfl rfl]
    exact Steps.refl _
  · show QP _ h0 n0 _ T168.heap _
    rw [e168]
    exact ⟨rfl, N0, rfl⟩
theorem d26_0 : decode jdk_43_method_3_code 0 = .ok (.iload_n 0, 1) := by decide +kernel
theorem d26_1 : decode jdk_43_method_3_code 1 = .ok (.sipush 255, 3) := by decide +kernel
theorem d26_4 : decode jdk_43_method_3_code 4 = .ok (.if_icmp .gt 7, 3) := by decide +kernel
theorem d26_11 : decode jdk_43_method_3_code 11 = .ok (.iconst 0, 1) := by decide +kernel
theorem d26_12 : decode jdk_43_method_3_code 12 = .ok (.ireturn, 1) := by decide +kernel
theorem d26_7 : decode jdk_43_method_3_code 7 = .ok (.iconst 1, 1) := by decide +kernel
theorem d26_8 : decode jdk_43_method_3_code 8 = .ok (.goto 4, 3) := by decide +kernel
abbrev mn11 : MethodName := ⟨"java/lang/StringLatin1", "canEncode", "(C)Z"⟩
theorem pn_26 : plainName "java/lang/StringLatin1" = true := by first | (simp [plainName, overriddenIn]; done) | decide +kernel
theorem ef_26 (m : MethodId) (x0 : Int32) : entryFrame m #[(.int x0)] 1 = mkF m 0 #[.val (.int x0)] [] := by first | (simp [entryFrame, mkF, argsToLocals, Value.category]; done) | rfl
def f26 (p1 : Int32) : Int32 := (if (255 : Int32) < p1 then (0 : Int32) else (1 : Int32))
set_option maxRecDepth 65536 in
set_option maxHeartbeats 40000000 in
theorem rm26 (l : Launch) (Z : State) (a0 : Array Value) (hw : HW a0 Z) (ws : List Jvm.Cond) (p1 : Int32) (h0 : Heap) (n0 : Nat) (Z0 : n0 ≤ h0.size) :
    MF l mn11 jdk_43_method_3_code 1 (some .boolean) ws ({ frames := 0, cells := 0, slots := 0, locals := 0 } : Room) #[(.int p1)] Z h0 (QP (some (.int (f26 p1))) h0 n0) := by
  refine MetFree.of_bodySF (plainFor_of_name pn_26) hisR ?_
  intro p e s m args below meth c s₁ Bd hml0 hP hK
  obtain ⟨rfl, hZ, hh⟩ := hP
  have hx := Bd.exec
  have hby := Bd.bytes
  have hml : c.maxLocals = 1 := hml0
  have hown : s.vm.findClass "java/lang/StringLatin1" = some m.cls := findClass_of_methodNamed Bd.named
  have hnm := (name_of_methodNamed Bd.named Bd.method).1
  have X0 : Stand p l e ({ frames := 0, cells := 0, slots := 0, locals := 0 } : Room) s m #[(.int p1)] below meth c s₁ [] 0 0 := Stand.of_body Bd
  have e0 : s₁.heap = h0 := by rw [← hh, Bd.state]; rfl
  have N0 := Fr.nil n0
  have pre0 : GO p e below (s₁.setTop (mkF m 0 #[.val (.int p1)] [])) (s₁.setTop (entryFrame m #[(.int p1)] 1)) := fun t k => castTop (ef_26 m p1) k
  have pre170 : GO p e below (s₁.setTop (mkF m 4 #[.val (.int p1)] [(.int (255 : Int32)), (.int p1)])) (s₁.setTop (entryFrame m #[(.int p1)] 1)) := fun t k => by
    refine pre0 _ ?_
    refine y_iloadN X0 hx hby d26_0 rfl ?_
    refine y_sipush X0 hx hby (v := (255 : Int32)) d26_1 rfl ?_
    exact k
  by_cases hc169 : (255 : Int32) < p1
  · obtain ⟨fs, hr, hrun, hended, hW, hsame⟩ := X0.leave (v := some (.int (0 : Int32))) (fun h => by rw [Bd.returns] at h; cases h)
    refine ⟨_, _, pre170 _ ?_, hrun, hended, _, _, rfl, ?_, ⟨_, rfl⟩, hW, hsame.mono (by decide) (by decide)⟩
    · refine y_icmpYes X0 hx hby (pc' := 11) d26_4 (tlt hc169).2.2.1 (by decide) (by decide) ?_
      refine y_iconst X0 hx hby (v := (0 : Int32)) d26_11 rfl ?_
      exact retN X0 hx (t := .boolean) Bd.returns (by simp) (hb hby d26_12) hr
    · show QP _ h0 n0 _ s₁.heap _
      rw [e0, show f26 p1 = (0 : Int32) from by unfold f26; rw [if_pos hc169]]
      exact ⟨rfl, N0, rfl⟩
  · obtain ⟨fs, hr, hrun, hended, hW, hsame⟩ := X0.leave (v := some (.int (1 : Int32))) (fun h => by rw [Bd.returns] at h; cases h)
    refine ⟨_, _, pre170 _ ?_, hrun, hended, _, _, rfl, ?_, ⟨_, rfl⟩, hW, hsame.mono (by decide) (by decide)⟩
    · refine y_icmpNo X0 hx hby d26_4 (flt hc169).2.2.1 ?_
      refine y_iconst X0 hx hby (v := (1 : Int32)) d26_7 rfl ?_
      refine y_goto X0 hx hby (pc' := 12) d26_8 (by decide) (by decide) ?_
      exact retN X0 hx (t := .boolean) Bd.returns (by simp) (hb hby d26_12) hr
    · show QP _ h0 n0 _ s₁.heap _
      rw [e0, show f26 p1 = (1 : Int32) from by unfold f26; rw [if_neg hc169]]
      exact ⟨rfl, N0, rfl⟩
theorem own_ce {p : Int32} (h : ¬ (255 : Int32) < p) : ¬ f26 p = 0 := by unfold f26; rw [if_neg h]; decide
theorem d27_0 : decode jdk_43_method_46_code 0 = .ok (.iconst 1, 1) := by decide +kernel
theorem d27_1 : decode jdk_43_method_46_code 1 = .ok (.newarray .byte, 2) := by decide +kernel
theorem d27_3 : decode jdk_43_method_46_code 3 = .ok (.dup, 1) := by decide +kernel
theorem d27_4 : decode jdk_43_method_46_code 4 = .ok (.iconst 0, 1) := by decide +kernel
theorem d27_5 : decode jdk_43_method_46_code 5 = .ok (.iload_n 0, 1) := by decide +kernel
theorem d27_6 : decode jdk_43_method_46_code 6 = .ok (.i2b, 1) := by decide +kernel
theorem d27_7 : decode jdk_43_method_46_code 7 = .ok (.bastore, 1) := by decide +kernel
theorem d27_8 : decode jdk_43_method_46_code 8 = .ok (.areturn, 1) := by decide +kernel
abbrev mn12 : MethodName := ⟨"java/lang/StringLatin1", "toBytes", "(C)[B"⟩
theorem ef_27 (m : MethodId) (x0 : Int32) : entryFrame m #[(.int x0)] 1 = mkF m 0 #[.val (.int x0)] [] := by first | (simp [entryFrame, mkF, argsToLocals, Value.category]; done) | rfl
set_option maxRecDepth 65536 in
set_option maxHeartbeats 40000000 in
theorem rm27 (l : Launch) (Z : State) (a0 : Array Value) (hw : HW a0 Z) (ws : List Jvm.Cond) (p1 : Int32) (h0 : Heap) (n0 : Nat) (Z0 : n0 ≤ h0.size) :
    MF l mn12 jdk_43_method_46_code 1 (some (.array .byte)) ws ({ frames := 0, cells := 1, slots := 1, locals := 0 } : Room) #[(.int p1)] Z h0 (QA (fun h x => ∃ k, Arv Z h x k .byte (1 : Int32) [(.int (p1.toInt8.toInt32))] (.int (0 : Int32))) h0 n0) := by
  refine MetFree.of_bodySF (plainFor_of_name pn_26) hisR ?_
  intro p e s m args below meth c s₁ Bd hml0 hP hK
  obtain ⟨rfl, hZ, hh⟩ := hP
  have hx := Bd.exec
  have hby := Bd.bytes
  have hml : c.maxLocals = 1 := hml0
  have hown : s.vm.findClass "java/lang/StringLatin1" = some m.cls := findClass_of_methodNamed Bd.named
  have hnm := (name_of_methodNamed Bd.named Bd.method).1
  have X0 : Stand p l e ({ frames := 0, cells := 1, slots := 1, locals := 0 } : Room) s m #[(.int p1)] below meth c s₁ [] 0 0 := Stand.of_body Bd
  have e0 : s₁.heap = h0 := by rw [← hh, Bd.state]; rfl
  have N0 := Fr.nil n0
  have pre0 : GO p e below (s₁.setTop (mkF m 0 #[.val (.int p1)] [])) (s₁.setTop (entryFrame m #[(.int p1)] 1)) := fun t k => castTop (ef_27 m p1) k
  have KK := Keep.refl h0 []
  obtain ⟨T171, h171, k171, X171, e171, E171, A171, st171⟩ := newP X0 hx hZ (ww hw 3 rfl) e0 (g := (mkF m 1 #[.val (.int p1)] [(.int (1 : Int32))])) rfl (hb hby d27_1) rfl (by decide) (cap := 1) (by decide) (by decide) (by decide) (by decide)
  obtain ⟨b171, g171⟩ : ∃ z, z = h0.size := ⟨_, rfl⟩
  rw [← g171] at A171 st171
  have g_b171 : n0 ≤ b171 := Nat.le_trans Z0 (Nat.le_of_eq g171.symm)
  have sz_b171 : h0.size ≤ b171 := Nat.le_trans KK.1 (Nat.le_of_eq g171.symm)
  replace Z0 := Nat.le_trans Z0 E171.1
  replace KK := KK.ext E171
  have V_b171 : Arv Z h171 b171 k171 .byte (1 : Int32) [(.int (0 : Int32))] (.int (0 : Int32)) := (Arv.new A171 (by decide)).pad (pad_rep [] (.int (0 : Int32)) 1)
  obtain ⟨cl172, Ar172, q172, Sz172, Nn172, Hh172, Gg172⟩ := V_b171
  have hin172 : ¬ ((0 : Int32) < 0 ∨ cl172.slots.size ≤ ((0 : Int32)).toNatClampNeg) := inb_of Sz172 ⟨by decide, by decide⟩
  obtain ⟨T173, h173, X173, e173, W173, st173⟩ := stB X171 hx hZ e171 Ar172 (j := (0 : Int32)) hin172 (g := (mkF m 7 #[.val (.int p1)] [(.int (p1.toInt8.toInt32)), (.int (0 : Int32)), (.ref b171), (.ref b171)])) rfl rfl (hb hby d27_7)
  replace Z0 := Nat.le_trans Z0 (Keep.of_wr W173).1
  replace KK := KK.wr W173 (Or.inr sz_b171)
  have V_b171 : Arv Z h173 b171 k171 .byte (1 : Int32) [(.int ((p1.toInt8.toInt32).toInt8.toInt32))] (.int (0 : Int32)) := Arv.set Ar172 q172 Sz172 Nn172 Hh172 Gg172 (fits_nar_byte _) W173 0 rfl (Nat.le_of_ble_eq_true rfl)
  have N173 := Fr.snoc X173 N0 g_b171
  obtain ⟨fs, hr, hrun, hended, hW, hsame⟩ := X173.leave (v := some (.ref b171)) (fun h => by rw [Bd.returns] at h; cases h)
  refine ⟨_, _, pre0 _ ?_, hrun, hended, _, _, rfl, ?_, ⟨_, rfl⟩, hW, hsame.mono (by decide) (by decide)⟩
  · refine y_iconst X0 hx hby (v := (1 : Int32)) d27_0 rfl ?_
    refine st171 _ ?_
    show Steps p.tables e below (T171.setTop (mkF m 3 #[.val (.int p1)] [(.ref b171)])) _
    refine y_dup X171 hx hby d27_3 rfl ?_
    refine y_iconst X171 hx hby (v := (0 : Int32)) d27_4 rfl ?_
    refine y_iloadN X171 hx hby d27_5 rfl ?_
    refine y_i2b X171 hx hby d27_6 ?_
    refine st173 _ ?_
    show Steps p.tables e below (T173.setTop (mkF m 8 #[.val (.int p1)] [(.ref b171)])) _
    jvm_step X173.here [X173.here.top, hx, (hb hby d27_8), X173.method', Bd.returns, Value.isRef, FieldType.isReference]
    first | (intro acts; rw [hr _ acts rfl rfl rfl]) | rw [hr _ _ rfl rfl rfl]
    exact Steps.refl _
  · show QA _ h0 n0 _ T173.heap _
    rw [e173]
    rw [own_lo] at V_b171
    exact ⟨_, rfl, N173, KK, sz_b171, _, V_b171⟩
theorem d25_0 : decode jdk_42_method_139_code 0 = .ok (.getstatic 38, 3) := by decide +kernel
theorem d25_3 : decode jdk_42_method_139_code 3 = .ok (.ifCond .eq 23, 3) := by decide +kernel
theorem d25_6 : decode jdk_42_method_139_code 6 = .ok (.iload_n 0, 1) := by decide +kernel
theorem d25_7 : decode jdk_42_method_139_code 7 = .ok (.invokestatic 1015, 3) := by decide +kernel
theorem pd_6 : parseMethodDescriptor "(C)Z" = some ⟨[.char], some .boolean⟩ := by decide +kernel
theorem d25_10 : decode jdk_42_method_139_code 10 = .ok (.ifCond .eq 16, 3) := by decide +kernel
theorem d25_13 : decode jdk_42_method_139_code 13 = .ok (.new 10, 3) := by decide +kernel
theorem d25_16 : decode jdk_42_method_139_code 16 = .ok (.dup, 1) := by decide +kernel
theorem d25_17 : decode jdk_42_method_139_code 17 = .ok (.iload_n 0, 1) := by decide +kernel
theorem d25_18 : decode jdk_42_method_139_code 18 = .ok (.invokestatic 1018, 3) := by decide +kernel
theorem pd_7 : parseMethodDescriptor "(C)[B" = some ⟨[.char], some (.array .byte)⟩ := by decide +kernel
theorem d25_21 : decode jdk_42_method_139_code 21 = .ok (.iconst 0, 1) := by decide +kernel
theorem d25_22 : decode jdk_42_method_139_code 22 = .ok (.invokespecial 209, 3) := by decide +kernel
theorem pd_8 : parseMethodDescriptor "([BB)V" = some ⟨[(.array .byte), .byte], none⟩ := by decide +kernel
theorem d25_25 : decode jdk_42_method_139_code 25 = .ok (.areturn, 1) := by decide +kernel
abbrev mn13 : MethodName := ⟨"java/lang/String", "valueOf", "(C)Ljava/lang/String;"⟩
theorem ef_25 (m : MethodId) (x0 : Int32) : entryFrame m #[(.int x0)] 1 = mkF m 0 #[.val (.int x0)] [] := by first | (simp [entryFrame, mkF, argsToLocals, Value.category]; done) | rfl
set_option maxRecDepth 65536 in
set_option maxHeartbeats 40000000 in
theorem rm25 (l : Launch) (Z : State) (a0 : Array Value) (hw : HW a0 Z) (ws : List Jvm.Cond) (p1 w_COMPACT_STRINGS : Int32) (h0 : Heap) (n0 : Nat) (Z0 : n0 ≤ h0.size) (S_COMPACT_STRINGS : Sta Z h0 "java/lang/String" "COMPACT_STRINGS" "Z" (.int w_COMPACT_STRINGS)) (hz : ¬ w_COMPACT_STRINGS = 0) (hc : RG p1) :
    MF l mn13 jdk_42_method_139_code 1 (some (.object "java/lang/String")) ws ({ frames := 2, cells := 2, slots := 5, locals := 27 } : Room) #[(.int p1)] Z h0 (QM Z [p1] (1 : Int32) h0 n0) := by
  refine MetFree.of_bodySF (plainFor_of_name pn_28) hisR ?_
  intro p e s m args below meth c s₁ Bd hml0 hP hK
  obtain ⟨rfl, hZ, hh⟩ := hP
  have hx := Bd.exec
  have hby := Bd.bytes
  have hml : c.maxLocals = 1 := hml0
  have hown : s.vm.findClass "java/lang/String" = some m.cls := findClass_of_methodNamed Bd.named
  have hnm := (name_of_methodNamed Bd.named Bd.method).1
  have X0 : Stand p l e ({ frames := 2, cells := 2, slots := 5, locals := 27 } : Room) s m #[(.int p1)] below meth c s₁ [] 0 0 := Stand.of_body Bd
  have e0 : s₁.heap = h0 := by rw [← hh, Bd.state]; rfl
  have N0 := Fr.nil n0
  have pre0 : GO p e below (s₁.setTop (mkF m 0 #[.val (.int p1)] [])) (s₁.setTop (entryFrame m #[(.int p1)] 1)) := fun t k => castTop (ef_25 m p1) k
  have KK := Keep.refl h0 []
  obtain ⟨T174, X174, e174, st174⟩ := getS2 X0 hx hZ hown (host := "") (Or.inl (ww hw 29 rfl)) Via.refl e0 S_COMPACT_STRINGS (g := (mkF m 0 #[.val (.int p1)] [])) rfl (hb hby d25_0)
  obtain ⟨_, _, ⟨T175, L175, k175, n175⟩, -, X175, ⟨Lc175, hQ175, l175, y175, z175⟩, st175⟩ := Jvm.LawKit.callS X174 hx (y := mn11) hown (mvT hZ (ww hw 135 rfl)) (mvT hZ (ww hw 136 rfl)) (mvT hZ (ww hw 43 rfl)) (mvT hZ (ww hw 137 rfl)) (by decide) (backOf (W := 0) (rm26 l Z a0 hw [] p1 h0 n0 Z0) hZ (ww hw 137 rfl) (ww hw 43 rfl) (by decide) (by decide)) (g := (mkF m 7 #[.val (.int p1)] [(.int p1)])) rfl (by rw [hml]; rfl) (argsL := [(.int p1)]) (rest := []) (lenOf pd_6 rfl) rfl (by show 2 * 0 + _ ≤ _; exact Nat.le_of_eq rfl) (hb hby d25_7) (fun _ _ => ⟨rfl, e174, (by decide : 0 + 0 ≤ _), (by decide : 0 + 0 ≤ _)⟩)
  dsimp only [Pt.U, Pt.locs, Pt.cells, Pt.slots] at X175 l175 y175 z175 st175 hQ175
  rw [l175, y175, z175] at X175
  obtain ⟨rfl, N175q, e175⟩ := hQ175
  have N175 := Fr.app N0 N175q
  obtain ⟨T176, h176, X176, e176, E176, A176, D176, -, st176⟩ := newO X175 hx hZ hown (ww hw 101 rfl) (ww hw 2 rfl) (ww hw 1 rfl) e175 (g := (mkF m 13 #[.val (.int p1)] [])) rfl (hb hby d25_13) (by decide) (by decide)
  obtain ⟨b176, g176⟩ : ∃ z, z = h0.size := ⟨_, rfl⟩
  rw [← g176] at A176 D176 st176
  have g_b176 : n0 ≤ b176 := Nat.le_trans Z0 (Nat.le_of_eq g176.symm)
  have sz_b176 : h0.size ≤ b176 := Nat.le_trans KK.1 (Nat.le_of_eq g176.symm)
  replace S_COMPACT_STRINGS := S_COMPACT_STRINGS.ext E176
  replace Z0 := Nat.le_trans Z0 E176.1
  replace KK := KK.ext E176
  have E_b176 := A176
  have F_value_b176 : Fld Z h176 b176 "java/lang/String" "value" "[B" .null := D176 (Or.inr (ww hw 4 rfl)) (ty := (.array .byte)) (by decide)
  have F_coder_b176 : Fld Z h176 b176 "java/lang/String" "coder" "B" (.int (0 : Int32)) := D176 (Or.inr (ww hw 5 rfl)) (ty := .byte) (by decide)
  obtain ⟨_, _, ⟨T177, L177, k177, n177⟩, -, X177, ⟨Lc177, hQ177, l177, y177, z177⟩, st177⟩ := Jvm.LawKit.callS X176 hx (y := mn12) hown (mvT hZ (ww hw 138 rfl)) (mvT hZ (ww hw 139 rfl)) (mvT hZ (ww hw 43 rfl)) (mvT hZ (ww hw 140 rfl)) (by decide) (backOf (W := 2) (rm27 l Z a0 hw [] p1 h176 n0 Z0) hZ (ww hw 140 rfl) (ww hw 43 rfl) (by decide) (by decide)) (g := (mkF m 18 #[.val (.int p1)] [(.int p1), (.ref b176), (.ref b176)])) rfl (by rw [hml]; rfl) (argsL := [(.int p1)]) (rest := [(.ref b176), (.ref b176)]) (lenOf pd_7 rfl) rfl (by show 2 * 0 + _ ≤ _; exact Nat.le_of_eq rfl) (hb hby d25_18) (fun _ _ => ⟨rfl, e176, (by decide : 1 + 1 ≤ _), (by decide : 4 + 1 ≤ _)⟩)
  dsimp only [Pt.U, Pt.locs, Pt.cells, Pt.slots] at X177 l177 y177 z177 st177 hQ177
  rw [l177, y177, z177] at X177
  obtain ⟨h177, e177⟩ : ∃ z, T177.heap = z := ⟨_, rfl⟩
  rw [e177] at hQ177
  obtain ⟨B177, rfl, N177q, K177, szn177, kb177, G177_0⟩ := hQ177
  have g_B177 : n0 ≤ B177 := Nat.le_trans Z0 szn177
  have sz_B177 : h0.size ≤ B177 := Nat.le_trans KK.1 szn177
  have ne_b176_B177 : b176 ≠ B177 := Nat.ne_of_lt (Nat.lt_of_lt_of_le E_b176.lt szn177)
  replace S_COMPACT_STRINGS := own_stakeep S_COMPACT_STRINGS K177 ns0
  replace E_b176 := E_b176.keep K177
  replace F_value_b176 := F_value_b176.keep K177 nin0
  replace F_coder_b176 := F_coder_b176.keep K177 nin0
  replace Z0 := Nat.le_trans Z0 K177.1
  replace KK := KK.trans K177 all0
  have V_B177 : Arv Z h177 B177 kb177 .byte (1 : Int32) [(.int (p1.toInt8.toInt32))] (.int (0 : Int32)) := G177_0
  have N177 := Fr.app N175 N177q
  obtain ⟨_, _, ⟨T178, L178, k178, n178⟩, -, X178, ⟨Lc178, hQ178, l178, y178, z178⟩, st178⟩ := X177.specialBack hx (y := mn6) rfl hown (mvT hZ (ww hw 141 rfl)) (mvT hZ (ww hw 142 rfl)) (mvT hZ (ww hw 143 rfl)) (by decide) (backOf (W := 1) (rm28 l Z a0 hw [] b176 B177 (0 : Int32) h177 n0 Z0 E_b176 F_value_b176 F_coder_b176 g_b176) hZ (ww hw 143 rfl) (ww hw 1 rfl) (by decide) (by decide)) (g := (mkF m 22 #[.val (.int p1)] [(.int (0 : Int32)), (.ref B177), (.ref b176), (.ref b176)])) rfl (by rw [hml]; rfl) (Steps.refl _) (a := b176) (argsL := [(.ref B177), (.int (0 : Int32))]) (rest := [(.ref b176)]) (lenOf pd_8 rfl) rfl (by show 2 * 0 + _ ≤ _; exact Nat.le_of_eq rfl) (hb hby d25_22) (fun _ _ => ⟨rfl, e177, (by decide : 2 + 0 ≤ _), (by decide : 5 + 0 ≤ _)⟩)
  dsimp only [Pt.U, Pt.locs, Pt.cells, Pt.slots] at X178 l178 y178 z178 st178 hQ178
  rw [l178, y178, z178] at X178
  obtain ⟨h178, e178⟩ : ∃ z, T178.heap = z := ⟨_, rfl⟩
  rw [e178] at hQ178
  obtain ⟨rfl, N178q, K178, G178_0, G178_1⟩ := hQ178
  replace S_COMPACT_STRINGS := own_stakeep S_COMPACT_STRINGS K178 (nsS (Exa.nostat E_b176) ns0)
  replace E_b176 := E_b176.keep K178
  replace V_B177 := V_B177.keep K178 (ninS (Ne.symm ne_b176_B177) nin0)
  replace Z0 := Nat.le_trans Z0 K178.1
  replace KK := KK.trans K178 (allS (Or.inr sz_b176) all0)
  have F_value_b176 : Fld Z h178 b176 "java/lang/String" "value" "[B" (.ref B177) := G178_0
  have F_coder_b176 : Fld Z h178 b176 "java/lang/String" "coder" "B" (.int ((0 : Int32).toInt8.toInt32)) := G178_1
  have N178 := Fr.app N177 N178q
  obtain ⟨fs, hr, hrun, hended, hW, hsame⟩ := X178.leave (v := some (.ref b176)) (fun h => by rw [Bd.returns] at h; cases h)
  refine ⟨_, _, pre0 _ ?_, hrun, hended, _, _, rfl, ?_, ⟨_, rfl⟩, hW, hsame.mono (by decide) (by decide)⟩
  · refine st174 _ ?_
    show Steps p.tables e below (T174.setTop (mkF m 3 #[.val (.int p1)] [(.int w_COMPACT_STRINGS)])) _
    refine y_ifNo X174 hx hby d25_3 ((if0 _ _).trans (feq hz).1) ?_
    refine y_iloadN X174 hx hby d25_6 rfl ?_
    refine st175 _ ?_
    show Steps p.tables e below (T175.setTop (mkF m 10 #[.val (.int p1)] [(.int (f26 p1))])) _
    refine y_ifNo X175 hx hby d25_10 ((if0 _ _).trans (feq (own_ce hc.2)).1) ?_
    refine st176 _ ?_
    show Steps p.tables e below (T176.setTop (mkF m 16 #[.val (.int p1)] [(.ref b176)])) _
    refine y_dup X176 hx hby d25_16 rfl ?_
    refine y_iloadN X176 hx hby d25_17 rfl ?_
    refine st177 _ ?_
    show Steps p.tables e below (T177.setTop (mkF m 21 #[.val (.int p1)] [(.ref B177), (.ref b176), (.ref b176)])) _
    refine y_iconst X177 hx hby (v := (0 : Int32)) d25_21 rfl ?_
    refine st178.trans ?_
    show Steps p.tables e below (T178.setTop (mkF m 25 #[.val (.int p1)] [(.ref b176)])) _
    jvm_step X178.here [X178.here.top, hx, (hb hby d25_25), X178.method', Bd.returns, Value.isRef, FieldType.isReference]
    first | (intro acts; rw [hr _ acts rfl rfl rfl]) | rw [hr _ _ rfl rfl rfl]
    exact Steps.refl _
  · show QM Z _ _ h0 n0 _ T178.heap _
    rw [e178]
    rw [show ((0 : Int32).toInt8.toInt32) = 0 from by decide] at F_coder_b176
    exact ⟨_, _, _, rfl, N178, KK, sz_b176, sz_B177, E_b176, F_coder_b176, F_value_b176, V_B177⟩
theorem d18_0 : decode jdk_42_method_66_code 0 = .ok (.aload_n 0, 1) := by decide +kernel
theorem d18_1 : decode jdk_42_method_66_code 1 = .ok (.aload_n 1, 1) := by decide +kernel
theorem d18_2 : decode jdk_42_method_66_code 2 = .ok (.if_acmp .ne 5, 3) := by decide +kernel
theorem d18_7 : decode jdk_42_method_66_code 7 = .ok (.aload_n 1, 1) := by decide +kernel
theorem d18_8 : decode jdk_42_method_66_code 8 = .ok (.instanceof 10, 3) := by decide +kernel
theorem d18_11 : decode jdk_42_method_66_code 11 = .ok (.ifCond .eq 43, 3) := by decide +kernel
theorem d18_54 : decode jdk_42_method_66_code 54 = .ok (.iconst 0, 1) := by decide +kernel
theorem d18_55 : decode jdk_42_method_66_code 55 = .ok (.ireturn, 1) := by decide +kernel
abbrev mn14 : MethodName := ⟨"java/lang/String", "equals", "(Ljava/lang/Object;)Z"⟩
theorem ef_18z (m : MethodId) (x0 : Addr) : entryFrame m #[(.ref x0), .null] 3 = mkF m 0 #[.val (.ref x0), .val .null, .unset] [] := by first | (simp [entryFrame, mkF, argsToLocals, Value.category]; done) | rfl
def f18_z (a1 : Addr) (w_COMPACT_STRINGS : Int32) : Int32 := (0 : Int32)
set_option maxRecDepth 65536 in
set_option maxHeartbeats 40000000 in
theorem rm18_z (l : Launch) (Z : State) (a0 : Array Value) (hw : HW a0 Z) (ws : List Jvm.Cond) (a1 : Addr) (w_COMPACT_STRINGS : Int32) (h0 : Heap) (n0 : Nat) (Z0 : n0 ≤ h0.size) (S_COMPACT_STRINGS : Sta Z h0 "java/lang/String" "COMPACT_STRINGS" "Z" (.int w_COMPACT_STRINGS)) :
    MF l mn14 jdk_42_method_66_code 3 (some .boolean) ws ({ frames := 0, cells := 0, slots := 0, locals := 0 } : Room) #[(.ref a1), .null] Z h0 (QP (some (.int (f18_z a1 w_COMPACT_STRINGS))) h0 n0) := by
  refine MetFree.of_bodySF (plainFor_of_name pn_28) hisR ?_
  intro p e s m args below meth c s₁ Bd hml0 hP hK
  obtain ⟨rfl, hZ, hh⟩ := hP
  have hx := Bd.exec
  have hby := Bd.bytes
  have hml : c.maxLocals = 3 := hml0
  have hown : s.vm.findClass "java/lang/String" = some m.cls := findClass_of_methodNamed Bd.named
  have hnm := (name_of_methodNamed Bd.named Bd.method).1
  have X0 : Stand p l e ({ frames := 0, cells := 0, slots := 0, locals := 0 } : Room) s m #[(.ref a1), .null] below meth c s₁ [] 0 0 := Stand.of_body Bd
  have e0 : s₁.heap = h0 := by rw [← hh, Bd.state]; rfl
  have N0 := Fr.nil n0
  have pre0 : GO p e below (s₁.setTop (mkF m 0 #[.val (.ref a1), .val .null, .unset] [])) (s₁.setTop (entryFrame m #[(.ref a1), .null] 3)) := fun t k => castTop (ef_18z m a1) k
  obtain ⟨fs, hr, hrun, hended, hW, hsame⟩ := X0.leave (v := some (.int (0 : Int32))) (fun h => by rw [Bd.returns] at h; cases h)
  refine ⟨_, _, pre0 _ ?_, hrun, hended, _, _, rfl, ?_, ⟨_, rfl⟩, hW, hsame.mono (by decide) (by decide)⟩
  · refine y_aloadN X0 hx hby d18_0 rfl rfl ?_
    refine y_aloadN X0 hx hby d18_1 rfl rfl ?_
    show Steps p.tables e below (s₁.setTop (mkF m 2 #[.val (.ref a1), .val .null, .unset] [.null, (.ref a1)])) _
    refine Jvm.RoadKit.acmp (g := (mkF m 2 #[.val (.ref a1), .val .null, .unset] [.null, (.ref a1)])) X0 hx rfl rfl rfl (pc0 := 2) (pc' := 7) (same := false) rfl (hb hby d18_2) rfl (decide_eq_false fun q => Value.noConfusion q) (by decide) (by decide) ?_
    show Steps p.tables e below (s₁.setTop (mkF m 7 #[.val (.ref a1), .val .null, .unset] [])) _
    refine y_aloadN X0 hx hby d18_7 rfl rfl ?_
    refine X0.instanceofNull hx (g := (mkF m 8 #[.val (.ref a1), .val .null, .unset] [.null])) rfl rfl (hb hby d18_8) _ ?_
    show Steps p.tables e below (s₁.setTop (mkF m 11 #[.val (.ref a1), .val .null, .unset] [(.int (0 : Int32))])) _
    refine y_ifYes X0 hx hby (pc' := 54) d18_11 ((if0 _ _).trans (teq rfl).1) (by decide) (by decide) ?_
    refine y_iconst X0 hx hby (v := (0 : Int32)) d18_54 rfl ?_
    exact retN X0 hx (t := .boolean) Bd.returns (by simp) (hb hby d18_55) hr
  · show QP _ h0 n0 _ s₁.heap _
    rw [e0, show f18_z a1 w_COMPACT_STRINGS = (0 : Int32) from rfl]
    exact ⟨rfl, N0, rfl⟩
theorem d17_0 : decode prog_25_method_1_code 0 = .ok (.getstatic 10, 3) := by decide +kernel
theorem d17_3 : decode prog_25_method_1_code 3 = .ok (.invokevirtual 14, 3) := by decide +kernel
theorem d17_6 : decode prog_25_method_1_code 6 = .ok (.checkcast 15, 3) := by decide +kernel
theorem d17_9 : decode prog_25_method_1_code 9 = .ok (.areturn, 1) := by decide +kernel
abbrev mn15 : MethodName := ⟨"com/example/assay/assay/config/TlsClient$Role", "values", "()[Lcom/example/assay/assay/config/TlsClient$Role;"⟩
theorem pn_17 : plainName "com/example/assay/assay/config/TlsClient$Role" = true := by first | (simp [plainName, overriddenIn]; done) | decide +kernel
theorem ef_17 (m : MethodId)  : entryFrame m #[] 0 = mkF m 0 #[] [] := by first | (simp [entryFrame, mkF, argsToLocals, Value.category]; done) | rfl
set_option maxRecDepth 65536 in
set_option maxHeartbeats 40000000 in
theorem rm17 (l : Launch) (Z : State) (a0 : Array Value) (hw : HW a0 Z) (ws : List Jvm.Cond) (wM wA : Addr) (kV : ClassId) (w__VALUES : Addr) (h0 : Heap) (n0 : Nat) (Z0 : n0 ≤ h0.size) (S__VALUES : Sta Z h0 "com/example/assay/assay/config/TlsClient$Role" "$VALUES" "[Lcom/example/assay/assay/config/TlsClient$Role;" (.ref w__VALUES)) (E_w__VALUES : Exa Z h0 w__VALUES "[Lcom/example/assay/assay/config/TlsClient$Role;") (V_w__VALUES : Arv Z h0 w__VALUES kV (.object "com/example/assay/assay/config/TlsClient$Role") (2 : Int32) [(.ref wM), (.ref wA)] .null) :
    MF l mn15 prog_25_method_1_code 0 (some (.array (.object "com/example/assay/assay/config/TlsClient$Role"))) ws ({ frames := 1, cells := 1, slots := 2, locals := 14 } : Room) #[] Z h0 (QA (fun h x => Arv Z h x kV (.object "com/example/assay/assay/config/TlsClient$Role") (2 : Int32) [(.ref wM), (.ref wA)] .null) h0 n0) := by
  refine MetFree.of_bodySF (plainFor_of_name pn_17) hisR ?_
  intro p e s m args below meth c s₁ Bd hml0 hP hK
  obtain ⟨rfl, hZ, hh⟩ := hP
  have hx := Bd.exec
  have hby := Bd.bytes
  have hml : c.maxLocals = 0 := hml0
  have hown : s.vm.findClass "com/example/assay/assay/config/TlsClient$Role" = some m.cls := findClass_of_methodNamed Bd.named
  have hnm := (name_of_methodNamed Bd.named Bd.method).1
  have X0 : Stand p l e ({ frames := 1, cells := 1, slots := 2, locals := 14 } : Room) s m #[] below meth c s₁ [] 0 0 := Stand.of_body Bd
  have e0 : s₁.heap = h0 := by rw [← hh, Bd.state]; rfl
  have N0 := Fr.nil n0
  have pre0 : GO p e below (s₁.setTop (mkF m 0 #[] [])) (s₁.setTop (entryFrame m #[] 0)) := fun t k => castTop (ef_17 m ) k
  have KK := Keep.refl h0 []
  obtain ⟨T179, X179, e179, st179⟩ := getS2 X0 hx hZ hown (host := "") (Or.inl (ww hw 80 rfl)) Via.refl e0 S__VALUES (g := (mkF m 0 #[] [])) rfl (hb hby d17_0)
  obtain ⟨T180, h180, X180, e180, E180, A180, Ex180, st180⟩ := cloneH X179 hx hZ hown (ww hw 82 rfl) (ww hw 83 rfl) (ww hw 87 rfl) (ww hw 85 rfl) (ww hw 86 rfl) (ww hw 88 rfl) e179 (Arv.arh V_w__VALUES) E_w__VALUES (g := (mkF m 3 #[] [(.ref w__VALUES)])) rfl (by rw [hml]; rfl) rfl (hb hby d17_3) (by decide) (W := 0) (cap := 2) (by show 2 * 0 + _ ≤ _; exact Nat.le_of_eq rfl) (by decide) (by decide) (by decide) (by decide)
  obtain ⟨b180, g180⟩ : ∃ z, z = h0.size := ⟨_, rfl⟩
  rw [← g180] at A180 Ex180 st180
  have g_b180 : n0 ≤ b180 := Nat.le_trans Z0 (Nat.le_of_eq g180.symm)
  have sz_b180 : h0.size ≤ b180 := Nat.le_trans KK.1 (Nat.le_of_eq g180.symm)
  have ne_w__VALUES_b180 : w__VALUES ≠ b180 := Nat.ne_of_lt (Nat.lt_of_lt_of_le E_w__VALUES.lt (Nat.le_of_eq g180.symm))
  replace E_w__VALUES := E_w__VALUES.ext E180
  replace V_w__VALUES := V_w__VALUES.ext E180
  replace S__VALUES := S__VALUES.ext E180
  replace Z0 := Nat.le_trans Z0 E180.1
  replace KK := KK.ext E180
  have V_b180 : Arv Z h180 b180 kV (.object "com/example/assay/assay/config/TlsClient$Role") (2 : Int32) [(.ref wM), (.ref wA)] .null := A180
  have E_b180 := Ex180
  obtain ⟨T181, X181, e181, st181⟩ := castY X180 hx hZ hown (ww hw 92 rfl) e180 (Ins.self E_b180) (g := (mkF m 6 #[] [(.ref b180)])) rfl rfl (hb hby d17_6)
  obtain ⟨fs, hr, hrun, hended, hW, hsame⟩ := X181.leave (v := some (.ref b180)) (fun h => by rw [Bd.returns] at h; cases h)
  refine ⟨_, _, pre0 _ ?_, hrun, hended, _, _, rfl, ?_, ⟨_, rfl⟩, hW, hsame.mono (by decide) (by decide)⟩
  · refine st179 _ ?_
    show Steps p.tables e below (T179.setTop (mkF m 3 #[] [(.ref w__VALUES)])) _
    refine st180 _ ?_
    show Steps p.tables e below (T180.setTop (mkF m 6 #[] [(.ref b180)])) _
    refine st181 _ ?_
    show Steps p.tables e below (T181.setTop (mkF m 9 #[] [(.ref b180)])) _
    jvm_step X181.here [X181.here.top, hx, (hb hby d17_9), X181.method', Bd.returns, Value.isRef, FieldType.isReference]
    first | (intro acts; rw [hr _ acts rfl rfl rfl]) | rw [hr _ _ rfl rfl rfl]
    exact Steps.refl _
  · show QA _ h0 n0 _ T181.heap _
    rw [e181]
    exact ⟨_, rfl, N0, KK, sz_b180, V_b180⟩
theorem d16_0 : decode prog_25_method_5_code 0 = .ok (.invokestatic 33, 3) := by decide +kernel
theorem pd_9 : parseMethodDescriptor "()[Lcom/example/assay/assay/config/TlsClient$Role;" = some ⟨[], some (.array (.object "com/example/assay/assay/config/TlsClient$Role"))⟩ := by decide +kernel
theorem d16_3 : decode prog_25_method_5_code 3 = .ok (.astore_n 1, 1) := by decide +kernel
theorem d16_4 : decode prog_25_method_5_code 4 = .ok (.aload_n 1, 1) := by decide +kernel
theorem d16_5 : decode prog_25_method_5_code 5 = .ok (.arraylength, 1) := by decide +kernel
theorem d16_6 : decode prog_25_method_5_code 6 = .ok (.istore_n 2, 1) := by decide +kernel
theorem d16_7 : decode prog_25_method_5_code 7 = .ok (.iconst 0, 1) := by decide +kernel
theorem d16_8 : decode prog_25_method_5_code 8 = .ok (.istore_n 3, 1) := by decide +kernel
theorem d16_9 : decode prog_25_method_5_code 9 = .ok (.iload_n 3, 1) := by decide +kernel
theorem d16_10 : decode prog_25_method_5_code 10 = .ok (.iload_n 2, 1) := by decide +kernel
theorem d16_11 : decode prog_25_method_5_code 11 = .ok (.if_icmp .ge 32, 3) := by decide +kernel
theorem d16_14 : decode prog_25_method_5_code 14 = .ok (.aload_n 1, 1) := by decide +kernel
theorem d16_15 : decode prog_25_method_5_code 15 = .ok (.iload_n 3, 1) := by decide +kernel
theorem d16_16 : decode prog_25_method_5_code 16 = .ok (.aaload, 1) := by decide +kernel
theorem d16_17 : decode prog_25_method_5_code 17 = .ok (.astore 4, 2) := by decide +kernel
theorem d16_19 : decode prog_25_method_5_code 19 = .ok (.aload 4, 2) := by decide +kernel
theorem d16_21 : decode prog_25_method_5_code 21 = .ok (.getfield 29, 3) := by decide +kernel
theorem d16_24 : decode prog_25_method_5_code 24 = .ok (.aload_n 0, 1) := by decide +kernel
theorem d16_25 : decode prog_25_method_5_code 25 = .ok (.invokevirtual 37, 3) := by decide +kernel
theorem pd_10 : parseMethodDescriptor "(Ljava/lang/Object;)Z" = some ⟨[(.object "java/lang/Object")], some .boolean⟩ := by decide +kernel
theorem d16_28 : decode prog_25_method_5_code 28 = .ok (.ifCond .eq 9, 3) := by decide +kernel
theorem d16_37 : decode prog_25_method_5_code 37 = .ok (.iinc 3 1, 3) := by decide +kernel
theorem d16_40 : decode prog_25_method_5_code 40 = .ok (.goto (-31), 3) := by decide +kernel
theorem d16_43 : decode prog_25_method_5_code 43 = .ok (.invokestatic 49, 3) := by decide +kernel
theorem pd_11 : parseMethodDescriptor "()Ljava/util/Optional;" = some ⟨[], some (.object "java/util/Optional")⟩ := by decide +kernel
theorem d16_46 : decode prog_25_method_5_code 46 = .ok (.areturn, 1) := by decide +kernel
theorem d16_31 : decode prog_25_method_5_code 31 = .ok (.aload 4, 2) := by decide +kernel
theorem d16_33 : decode prog_25_method_5_code 33 = .ok (.invokestatic 43, 3) := by decide +kernel
theorem pd_12 : parseMethodDescriptor "(Ljava/lang/Object;)Ljava/util/Optional;" = some ⟨[(.object "java/lang/Object")], some (.object "java/util/Optional")⟩ := by decide +kernel
theorem d16_36 : decode prog_25_method_5_code 36 = .ok (.areturn, 1) := by decide +kernel
abbrev mn16 : MethodName := ⟨"com/example/assay/assay/config/TlsClient$Role", "fromJsonName", "(Ljava/lang/String;)Ljava/util/Optional;"⟩
theorem ef_16 (m : MethodId) (x0 : Addr) : entryFrame m #[(.ref x0)] 5 = mkF m 0 #[.val (.ref x0), .unset, .unset, .unset, .unset] [] := by first | (simp [entryFrame, mkF, argsToLocals, Value.category]; done) | rfl
abbrev lo16_s_0 (a1 B182 wM : Addr) : Array Slot := #[.val (.ref a1), .val (.ref B182), .val (.int (2 : Int32)), .val (.int (0 : Int32)), .val (.ref wM)]
abbrev lo16_s_1 (a1 B182 wM : Addr) : Array Slot := #[.val (.ref a1), .val (.ref B182), .val (.int (2 : Int32)), .val (.int (1 : Int32)), .val (.ref wM)]
abbrev lo16_s_2 (a1 B182 wA : Addr) : Array Slot := #[.val (.ref a1), .val (.ref B182), .val (.int (2 : Int32)), .val (.int (1 : Int32)), .val (.ref wA)]
abbrev lo16_s_3 (a1 B182 wA : Addr) : Array Slot := #[.val (.ref a1), .val (.ref B182), .val (.int (2 : Int32)), .val (.int (2 : Int32)), .val (.ref wA)]
set_option maxRecDepth 65536 in
set_option maxHeartbeats 40000000 in
theorem rm16_s (l : Launch) (Z : State) (a0 : Array Value) (hw : HW a0 Z) (ws : List Jvm.Cond) (a1 t1 : Addr) (k1 : ClassId) (N1 : Int32) (vs1 : List Value) (cs1 : List Int32) (wM wA : Addr) (kV : ClassId) (w__VALUES sM tM : Addr) (kM : ClassId) (sA tA : Addr) (kA : ClassId) (w_EMPTY : Addr) (w_COMPACT_STRINGS : Int32) (h0 : Heap) (n0 : Nat) (Z0 : n0 ≤ h0.size) (S__VALUES : Sta Z h0 "com/example/assay/assay/config/TlsClient$Role" "$VALUES" "[Lcom/example/assay/assay/config/TlsClient$Role;" (.ref w__VALUES)) (S_EMPTY : Sta Z h0 "java/util/Optional" "EMPTY" "Ljava/util/Optional;" (.ref w_EMPTY)) (S_COMPACT_STRINGS : Sta Z h0 "java/lang/String" "COMPACT_STRINGS" "Z" (.int w_COMPACT_STRINGS)) (hz : ¬ w_COMPACT_STRINGS = 0) (hcd : StrChars.Road.CodA cs1 0 N1 vs1) (hr : RGs cs1) (hl : cs1.length ≤ 4000) (E_a1 : Exa Z h0 a1 "java/lang/String") (F_coder_a1 : Fld Z h0 a1 "java/lang/String" "coder" "B" (.int (0 : Int32))) (F_value_a1 : Fld Z h0 a1 "java/lang/String" "value" "[B" (.ref t1)) (V_t1 : Arv Z h0 t1 k1 .byte N1 vs1 (.int (0 : Int32))) (E_w__VALUES : Exa Z h0 w__VALUES "[Lcom/example/assay/assay/config/TlsClient$Role;") (V_w__VALUES : Arv Z h0 w__VALUES kV (.object "com/example/assay/assay/config/TlsClient$Role") (2 : Int32) [(.ref wM), (.ref wA)] .null) (F_jsonName_wM : Fld Z h0 wM "com/example/assay/assay/config/TlsClient$Role" "jsonName" "Ljava/lang/String;" (.ref sM)) (F_jsonName_wA : Fld Z h0 wA "com/example/assay/assay/config/TlsClient$Role" "jsonName" "Ljava/lang/String;" (.ref sA)) (E_sM : Exa Z h0 sM "java/lang/String") (F_coder_sM : Fld Z h0 sM "java/lang/String" "coder" "B" (.int (0 : Int32))) (F_value_sM : Fld Z h0 sM "java/lang/String" "value" "[B" (.ref tM)) (V_tM : Arv Z h0 tM kM .byte (10 : Int32) ((C1.map StrChars.lo8).map Value.int) (.int (0 : Int32))) (E_sA : Exa Z h0 sA "java/lang/String") (F_coder_sA : Fld Z h0 sA "java/lang/String" "coder" "B" (.int (0 : Int32))) (F_value_sA : Fld Z h0 sA "java/lang/String" "value" "[B" (.ref tA)) (V_tA : Arv Z h0 tA kA .byte (12 : Int32) ((C2.map StrChars.lo8).map Value.int) (.int (0 : Int32))) (E_w_EMPTY : Exa Z h0 w_EMPTY "java/util/Optional") (F_value_w_EMPTY : Fld Z h0 w_EMPTY "java/util/Optional" "value" "Ljava/lang/Object;" .null) :
    MF l mn16 prog_25_method_5_code 5 (some (.object "java/util/Optional")) ws ({ frames := 3, cells := 2, slots := 3, locals := 38 } : Room) #[(.ref a1)] Z h0 (QF Z (RV cs1 wM wA) h0 n0) := by
  refine MetFree.of_bodySF (plainFor_of_name pn_17) hisR ?_
  intro p e s m args below meth c s₁ Bd hml0 hP hK
  obtain ⟨rfl, hZ, hh⟩ := hP
  have hx := Bd.exec
  have hby := Bd.bytes
  have hml : c.maxLocals = 5 := hml0
  have hown : s.vm.findClass "com/example/assay/assay/config/TlsClient$Role" = some m.cls := findClass_of_methodNamed Bd.named
  have hnm := (name_of_methodNamed Bd.named Bd.method).1
  have X0 : Stand p l e ({ frames := 3, cells := 2, slots := 3, locals := 38 } : Room) s m #[(.ref a1)] below meth c s₁ [] 0 0 := Stand.of_body Bd
  have e0 : s₁.heap = h0 := by rw [← hh, Bd.state]; rfl
  have N0 := Fr.nil n0
  have pre0 : GO p e below (s₁.setTop (mkF m 0 #[.val (.ref a1), .unset, .unset, .unset, .unset] [])) (s₁.setTop (entryFrame m #[(.ref a1)] 5)) := fun t k => castTop (ef_16 m a1) k
  have KK := Keep.refl h0 []
  have heq : ∀ d ∈ StrChars.Road.wordsEq, d.before a0 Z = true := fun d hd => hw d ((by decide +kernel : ∀ d ∈ StrChars.Road.wordsEq, d ∈ tables_1) d hd)
  obtain ⟨_, _, ⟨T182, L182, k182, n182⟩, -, X182, ⟨Lc182, hQ182, l182, y182, z182⟩, st182⟩ := Jvm.LawKit.callS X0 hx (y := mn15) hown (mvT hZ (ww hw 77 rfl)) (mvT hZ (ww hw 78 rfl)) (mvT hZ (ww hw 75 rfl)) (mvT hZ (ww hw 79 rfl)) (by decide) (backOf (W := 0) (rm17 l Z a0 hw [] wM wA kV w__VALUES h0 n0 Z0 S__VALUES E_w__VALUES V_w__VALUES) hZ (ww hw 79 rfl) (ww hw 75 rfl) (by decide) (by decide)) (g := (mkF m 0 #[.val (.ref a1), .unset, .unset, .unset, .unset] [])) rfl (by rw [hml]; rfl) (argsL := []) (rest := []) (lenOf pd_9 rfl) rfl (by show 2 * 0 + _ ≤ _; exact Nat.le_of_eq rfl) (hb hby d16_0) (fun _ _ => ⟨rfl, e0, (by decide : 0 + 1 ≤ _), (by decide : 0 + 2 ≤ _)⟩)
  dsimp only [Pt.U, Pt.locs, Pt.cells, Pt.slots] at X182 l182 y182 z182 st182 hQ182
  rw [l182, y182, z182] at X182
  obtain ⟨h182, e182⟩ : ∃ z, T182.heap = z := ⟨_, rfl⟩
  rw [e182] at hQ182
  obtain ⟨B182, rfl, N182q, K182, szn182, G182_0⟩ := hQ182
  have g_B182 : n0 ≤ B182 := Nat.le_trans Z0 szn182
  have sz_B182 : h0.size ≤ B182 := Nat.le_trans KK.1 szn182
  have ne_a1_B182 : a1 ≠ B182 := Nat.ne_of_lt (Nat.lt_of_lt_of_le E_a1.lt szn182)
  have ne_t1_B182 : t1 ≠ B182 := Nat.ne_of_lt (Nat.lt_of_lt_of_le V_t1.lt szn182)
  have ne_w__VALUES_B182 : w__VALUES ≠ B182 := Nat.ne_of_lt (Nat.lt_of_lt_of_le E_w__VALUES.lt szn182)
  have ne_sM_B182 : sM ≠ B182 := Nat.ne_of_lt (Nat.lt_of_lt_of_le E_sM.lt szn182)
  have ne_tM_B182 : tM ≠ B182 := Nat.ne_of_lt (Nat.lt_of_lt_of_le V_tM.lt szn182)
  have ne_sA_B182 : sA ≠ B182 := Nat.ne_of_lt (Nat.lt_of_lt_of_le E_sA.lt szn182)
  have ne_tA_B182 : tA ≠ B182 := Nat.ne_of_lt (Nat.lt_of_lt_of_le V_tA.lt szn182)
  have ne_w_EMPTY_B182 : w_EMPTY ≠ B182 := Nat.ne_of_lt (Nat.lt_of_lt_of_le E_w_EMPTY.lt szn182)
  replace S__VALUES := own_stakeep S__VALUES K182 ns0
  replace S_EMPTY := own_stakeep S_EMPTY K182 ns0
  replace S_COMPACT_STRINGS := own_stakeep S_COMPACT_STRINGS K182 ns0
  replace E_a1 := E_a1.keep K182
  replace F_coder_a1 := F_coder_a1.keep K182 nin0
  replace F_value_a1 := F_value_a1.keep K182 nin0
  replace V_t1 := V_t1.keep K182 nin0
  replace E_w__VALUES := E_w__VALUES.keep K182
  replace V_w__VALUES := V_w__VALUES.keep K182 nin0
  replace F_jsonName_wM := F_jsonName_wM.keep K182 nin0
  replace F_jsonName_wA := F_jsonName_wA.keep K182 nin0
  replace E_sM := E_sM.keep K182
  replace F_coder_sM := F_coder_sM.keep K182 nin0
  replace F_value_sM := F_value_sM.keep K182 nin0
  replace V_tM := V_tM.keep K182 nin0
  replace E_sA := E_sA.keep K182
  replace F_coder_sA := F_coder_sA.keep K182 nin0
  replace F_value_sA := F_value_sA.keep K182 nin0
  replace V_tA := V_tA.keep K182 nin0
  replace E_w_EMPTY := E_w_EMPTY.keep K182
  replace F_value_w_EMPTY := F_value_w_EMPTY.keep K182 nin0
  replace Z0 := Nat.le_trans Z0 K182.1
  replace KK := KK.trans K182 all0
  have V_B182 : Arv Z h182 B182 kV (.object "com/example/assay/assay/config/TlsClient$Role") (2 : Int32) [(.ref wM), (.ref wA)] .null := G182_0
  have N182 := Fr.app N0 N182q
  obtain ⟨cl183, Ar183, q183, Sz183, Nn183, Hh183, Gg183⟩ := id V_B182
  obtain ⟨cl184, Ar184, q184, Sz184, Nn184, Hh184, Gg184⟩ := id V_B182
  have hin184 : ¬ ((0 : Int32) < 0 ∨ cl184.slots.size ≤ ((0 : Int32)).toNatClampNeg) := inb_of Sz184 ⟨by decide, by decide⟩
  have hat184 : cl184.slots[((0 : Int32)).toNatClampNeg]? = some (.ref wM) := Hh184.at hin184 rfl
  obtain ⟨T185, X185, e185, st185⟩ := getF X182 hx hZ hown (host := "") (Or.inl (ww hw 94 rfl)) Via.refl e182 F_jsonName_wM (g := (mkF m 21 (lo16_s_0 a1 B182 wM) [(.ref wM)])) rfl rfl (hb hby d16_21)
  obtain ⟨cq186, kq186, q186a, q186b, q186c⟩ := isOf hZ e185 E_sM
  obtain ⟨_, _, ⟨T186, L186, k186, n186⟩, -, X186, ⟨Lc186, hQ186, l186, y186, z186⟩, st186⟩ := X185.virtualBack hx (y := mn14) (z := mn14) hown (mvT hZ (ww hw 96 rfl)) (mvT hZ (ww hw 97 rfl)) (notFace_of_selects (args := #[]) (mvT hZ (ww hw 99 rfl))) (mvT hZ (ww hw 99 rfl)) (mvT hZ (ww hw 98 rfl)) (by decide) (StrChars.Road.eqW (W := 0) hZ heq (kI := 4) (ww hw 2 rfl) E_sM F_value_sM F_coder_sM V_tM (own_cod (n := 10) rfl own_rc1) (own_up own_rc1) (by decide) E_a1 F_value_a1 F_coder_a1 V_t1 hcd (own_up hr) hl S_COMPACT_STRINGS hz (by decide) (by decide)) q186a q186c (g := (mkF m 25 (lo16_s_0 a1 B182 wM) [(.ref a1), (.ref sM)])) rfl (by rw [hml]; rfl) (Steps.refl _) (argsL := [(.ref a1)]) (rest := []) (lenOf pd_10 rfl) rfl (by show 2 * 0 + _ ≤ _; exact Nat.le_of_eq rfl) (hb hby d16_25) (fun _ _ => ⟨rfl, e185, (by decide : 1 + 0 ≤ _), (by decide : 2 + 0 ≤ _)⟩)
  dsimp only [Pt.U, Pt.locs, Pt.cells, Pt.slots] at X186 l186 y186 z186 st186 hQ186
  rw [l186, y186, z186] at X186
  obtain ⟨hv186, rfl, e186⟩ := hQ186
  obtain rfl := own_eqv hv186
  have N186q := Fr.nil n0
  have N186 := Fr.app N182 N186q
  have pre188 : GO p e below (T186.setTop (mkF m 28 (lo16_s_0 a1 B182 wM) [(.int (eqv C1 cs1))])) (s₁.setTop (entryFrame m #[(.ref a1)] 5)) := fun t k => by
    refine pre0 _ ?_
    refine st182 _ ?_
    show Steps p.tables e below (T182.setTop (mkF m 3 #[.val (.ref a1), .unset, .unset, .unset, .unset] [(.ref B182)])) _
    refine y_astoreN X182 hx hby d16_3 rfl (l' := #[.val (.ref a1), .val (.ref B182), .unset, .unset, .unset]) rfl ?_
    refine y_aloadN X182 hx hby d16_4 rfl rfl ?_
    refine X182.arraylength hx (by rw [e182]; exact Ar183.1) (State.isArrayOf_alike hZ.alike Ar183.2.1) (g := (mkF m 5 #[.val (.ref a1), .val (.ref B182), .unset, .unset, .unset] [(.ref B182)])) rfl rfl (hb hby d16_5) _ ?_
    rw [len_of Sz183 Nn183]
    show Steps p.tables e below (T182.setTop (mkF m 6 #[.val (.ref a1), .val (.ref B182), .unset, .unset, .unset] [(.int (2 : Int32))])) _
    refine y_istoreN X182 hx hby d16_6 (l' := #[.val (.ref a1), .val (.ref B182), .val (.int (2 : Int32)), .unset, .unset]) rfl ?_
    refine y_iconst X182 hx hby (v := (0 : Int32)) d16_7 rfl ?_
    refine y_istoreN X182 hx hby d16_8 (l' := #[.val (.ref a1), .val (.ref B182), .val (.int (2 : Int32)), .val (.int (0 : Int32)), .unset]) rfl ?_
    refine y_iloadN X182 hx hby d16_9 rfl ?_
    refine y_iloadN X182 hx hby d16_10 rfl ?_
    refine y_icmpNo X182 hx hby d16_11 (tlt (by decide)).2.1 ?_
    refine y_aloadN X182 hx hby d16_14 rfl rfl ?_
    refine y_iloadN X182 hx hby d16_15 rfl ?_
    refine X182.aaload hx (j := (0 : Int32)) (v := (.ref wM)) (by rw [e182]; exact Ar184.1) (State.isArrayOf_alike hZ.alike Ar184.2.1) rfl Ar184.2.2 hin184 hat184 (g := (mkF m 16 #[.val (.ref a1), .val (.ref B182), .val (.int (2 : Int32)), .val (.int (0 : Int32)), .unset] [(.int (0 : Int32)), (.ref B182)])) rfl rfl (hb hby d16_16) _ ?_
    show Steps p.tables e below (T182.setTop (mkF m 17 #[.val (.ref a1), .val (.ref B182), .val (.int (2 : Int32)), .val (.int (0 : Int32)), .unset] [(.ref wM)])) _
    refine y_astore X182 hx hby d16_17 rfl (l' := (lo16_s_0 a1 B182 wM)) rfl ?_
    refine y_aload X182 hx hby d16_19 rfl rfl ?_
    refine st185 _ ?_
    show Steps p.tables e below (T185.setTop (mkF m 24 (lo16_s_0 a1 B182 wM) [(.ref sM)])) _
    refine y_aloadN X185 hx hby d16_24 rfl rfl ?_
    refine st186.trans ?_
    show Steps p.tables e below (T186.setTop (mkF m 28 (lo16_s_0 a1 B182 wM) [(.int (eqv C1 cs1))])) _
    exact k
  by_cases hc187 : (eqv C1 cs1) = (0 : Int32)
  · obtain ⟨cl189, Ar189, q189, Sz189, Nn189, Hh189, Gg189⟩ := id V_B182
    have hin189 : ¬ ((1 : Int32) < 0 ∨ cl189.slots.size ≤ ((1 : Int32)).toNatClampNeg) := inb_of Sz189 ⟨by decide, by decide⟩
    have hat189 : cl189.slots[((1 : Int32)).toNatClampNeg]? = some (.ref wA) := Hh189.at hin189 rfl
    obtain ⟨T190, X190, e190, st190⟩ := getF X186 hx hZ hown (host := "") (Or.inl (ww hw 94 rfl)) Via.refl e186 F_jsonName_wA (g := (mkF m 21 (lo16_s_2 a1 B182 wA) [(.ref wA)])) rfl rfl (hb hby d16_21)
    obtain ⟨cq191, kq191, q191a, q191b, q191c⟩ := isOf hZ e190 E_sA
    obtain ⟨_, _, ⟨T191, L191, k191, n191⟩, -, X191, ⟨Lc191, hQ191, l191, y191, z191⟩, st191⟩ := X190.virtualBack hx (y := mn14) (z := mn14) hown (mvT hZ (ww hw 96 rfl)) (mvT hZ (ww hw 97 rfl)) (notFace_of_selects (args := #[]) (mvT hZ (ww hw 99 rfl))) (mvT hZ (ww hw 99 rfl)) (mvT hZ (ww hw 98 rfl)) (by decide) (StrChars.Road.eqW (W := 0) hZ heq (kI := 4) (ww hw 2 rfl) E_sA F_value_sA F_coder_sA V_tA (own_cod (n := 12) rfl own_rc2) (own_up own_rc2) (by decide) E_a1 F_value_a1 F_coder_a1 V_t1 hcd (own_up hr) hl S_COMPACT_STRINGS hz (by decide) (by decide)) q191a q191c (g := (mkF m 25 (lo16_s_2 a1 B182 wA) [(.ref a1), (.ref sA)])) rfl (by rw [hml]; rfl) (Steps.refl _) (argsL := [(.ref a1)]) (rest := []) (lenOf pd_10 rfl) rfl (by show 2 * 0 + _ ≤ _; exact Nat.le_of_eq rfl) (hb hby d16_25) (fun _ _ => ⟨rfl, e190, (by decide : 1 + 0 ≤ _), (by decide : 2 + 0 ≤ _)⟩)
    dsimp only [Pt.U, Pt.locs, Pt.cells, Pt.slots] at X191 l191 y191 z191 st191 hQ191
    rw [l191, y191, z191] at X191
    obtain ⟨hv191, rfl, e191⟩ := hQ191
    obtain rfl := own_eqv hv191
    have N191q := Fr.nil n0
    have N191 := Fr.app N186 N191q
    have pre193 : GO p e below (T191.setTop (mkF m 28 (lo16_s_2 a1 B182 wA) [(.int (eqv C2 cs1))])) (s₁.setTop (entryFrame m #[(.ref a1)] 5)) := fun t k => by
      refine pre188 _ ?_
      refine y_ifYes X186 hx hby (pc' := 37) d16_28 ((if0 _ _).trans (teq hc187).1) (by decide) (by decide) ?_
      refine y_iinc X186 hx hby d16_37 rfl (l' := (lo16_s_1 a1 B182 wM)) rfl ?_
      refine y_goto X186 hx hby (pc' := 9) d16_40 (by decide) (by decide) ?_
      refine y_iloadN X186 hx hby d16_9 rfl ?_
      refine y_iloadN X186 hx hby d16_10 rfl ?_
      refine y_icmpNo X186 hx hby d16_11 (tlt (by decide)).2.1 ?_
      refine y_aloadN X186 hx hby d16_14 rfl rfl ?_
      refine y_iloadN X186 hx hby d16_15 rfl ?_
      refine X186.aaload hx (j := (1 : Int32)) (v := (.ref wA)) (by rw [e186]; exact Ar189.1) (State.isArrayOf_alike hZ.alike Ar189.2.1) rfl Ar189.2.2 hin189 hat189 (g := (mkF m 16 (lo16_s_1 a1 B182 wM) [(.int (1 : Int32)), (.ref B182)])) rfl rfl (hb hby d16_16) _ ?_
      show Steps p.tables e below (T186.setTop (mkF m 17 (lo16_s_1 a1 B182 wM) [(.ref wA)])) _
      refine y_astore X186 hx hby d16_17 rfl (l' := (lo16_s_2 a1 B182 wA)) rfl ?_
      refine y_aload X186 hx hby d16_19 rfl rfl ?_
      refine st190 _ ?_
      show Steps p.tables e below (T190.setTop (mkF m 24 (lo16_s_2 a1 B182 wA) [(.ref sA)])) _
      refine y_aloadN X190 hx hby d16_24 rfl rfl ?_
      refine st191.trans ?_
      show Steps p.tables e below (T191.setTop (mkF m 28 (lo16_s_2 a1 B182 wA) [(.int (eqv C2 cs1))])) _
      exact k
    by_cases hc192 : (eqv C2 cs1) = (0 : Int32)
    · obtain ⟨_, _, ⟨T194, L194, k194, n194⟩, -, X194, ⟨Lc194, hQ194, l194, y194, z194⟩, st194⟩ := Jvm.LawKit.callS X191 hx (y := mn9) hown (mvT hZ (ww hw 105 rfl)) (mvT hZ (ww hw 106 rfl)) (mvT hZ (ww hw 107 rfl)) (mvT hZ (ww hw 108 rfl)) (by decide) (backOf (W := 0) (rm20 l Z a0 hw [] w_EMPTY h182 n0 Z0 S_EMPTY) hZ (ww hw 108 rfl) (ww hw 107 rfl) (by decide) (by decide)) (g := (mkF m 43 (lo16_s_3 a1 B182 wA) [])) rfl (by rw [hml]; rfl) (argsL := []) (rest := []) (lenOf pd_11 rfl) rfl (by show 2 * 0 + _ ≤ _; exact Nat.le_of_eq rfl) (hb hby d16_43) (fun _ _ => ⟨rfl, e191, (by decide : 1 + 0 ≤ _), (by decide : 2 + 0 ≤ _)⟩)
      dsimp only [Pt.U, Pt.locs, Pt.cells, Pt.slots] at X194 l194 y194 z194 st194 hQ194
      rw [l194, y194, z194] at X194
      obtain ⟨rfl, N194q, e194⟩ := hQ194
      have N194 := Fr.app N191 N194q
      obtain ⟨fs, hr, hrun, hended, hW, hsame⟩ := X194.leave (v := some (.ref w_EMPTY)) (fun h => by rw [Bd.returns] at h; cases h)
      refine ⟨_, _, pre193 _ ?_, hrun, hended, _, _, rfl, ?_, ⟨_, rfl⟩, hW, hsame.mono (by decide) (by decide)⟩
      · refine y_ifYes X191 hx hby (pc' := 37) d16_28 ((if0 _ _).trans (teq hc192).1) (by decide) (by decide) ?_
        refine y_iinc X191 hx hby d16_37 rfl (l' := (lo16_s_3 a1 B182 wA)) rfl ?_
        refine y_goto X191 hx hby (pc' := 9) d16_40 (by decide) (by decide) ?_
        refine y_iloadN X191 hx hby d16_9 rfl ?_
        refine y_iloadN X191 hx hby d16_10 rfl ?_
        refine y_icmpYes X191 hx hby (pc' := 43) d16_11 (flt (by decide)).2.1 (by decide) (by decide) ?_
        refine st194 _ ?_
        show Steps p.tables e below (T194.setTop (mkF m 46 (lo16_s_3 a1 B182 wA) [(.ref w_EMPTY)])) _
        jvm_step X194.here [X194.here.top, hx, (hb hby d16_46), X194.method', Bd.returns, Value.isRef, FieldType.isReference]
        first | (intro acts; rw [hr _ acts rfl rfl rfl]) | rw [hr _ _ rfl rfl rfl]
        exact Steps.refl _
      · show QF Z _ h0 n0 _ T194.heap _
        rw [e194]
        exact ⟨_, _, rfl, N194, KK, E_w_EMPTY, F_value_w_EMPTY, Or.inr (Or.inr ⟨own_eqn hc187, own_eqn hc192, rfl⟩)⟩
    · obtain ⟨_, _, ⟨T195, L195, k195, n195⟩, -, X195, ⟨Lc195, hQ195, l195, y195, z195⟩, st195⟩ := Jvm.LawKit.callS X191 hx (y := mn8) hown (mvT hZ (ww hw 118 rfl)) (mvT hZ (ww hw 119 rfl)) (mvT hZ (ww hw 107 rfl)) (mvT hZ (ww hw 120 rfl)) (by decide) (backOf (W := 0) (rm22 l Z a0 hw [] wA h182 n0 Z0) hZ (ww hw 120 rfl) (ww hw 107 rfl) (by decide) (by decide)) (g := (mkF m 33 (lo16_s_2 a1 B182 wA) [(.ref wA)])) rfl (by rw [hml]; rfl) (argsL := [(.ref wA)]) (rest := []) (lenOf pd_12 rfl) rfl (by show 2 * 0 + _ ≤ _; exact Nat.le_of_eq rfl) (hb hby d16_33) (fun _ _ => ⟨rfl, e191, (by decide : 1 + 1 ≤ _), (by decide : 2 + 1 ≤ _)⟩)
      dsimp only [Pt.U, Pt.locs, Pt.cells, Pt.slots] at X195 l195 y195 z195 st195 hQ195
      rw [l195, y195, z195] at X195
      obtain ⟨h195, e195⟩ : ∃ z, T195.heap = z := ⟨_, rfl⟩
      rw [e195] at hQ195
      obtain ⟨B195, rfl, N195q, K195, szn195, G195_0, G195_1⟩ := hQ195
      have g_B195 : n0 ≤ B195 := Nat.le_trans Z0 szn195
      have sz_B195 : h0.size ≤ B195 := Nat.le_trans KK.1 szn195
      have ne_a1_B195 : a1 ≠ B195 := Nat.ne_of_lt (Nat.lt_of_lt_of_le E_a1.lt szn195)
      have ne_t1_B195 : t1 ≠ B195 := Nat.ne_of_lt (Nat.lt_of_lt_of_le V_t1.lt szn195)
      have ne_w__VALUES_B195 : w__VALUES ≠ B195 := Nat.ne_of_lt (Nat.lt_of_lt_of_le E_w__VALUES.lt szn195)
      have ne_sM_B195 : sM ≠ B195 := Nat.ne_of_lt (Nat.lt_of_lt_of_le E_sM.lt szn195)
      have ne_tM_B195 : tM ≠ B195 := Nat.ne_of_lt (Nat.lt_of_lt_of_le V_tM.lt szn195)
      have ne_sA_B195 : sA ≠ B195 := Nat.ne_of_lt (Nat.lt_of_lt_of_le E_sA.lt szn195)
      have ne_tA_B195 : tA ≠ B195 := Nat.ne_of_lt (Nat.lt_of_lt_of_le V_tA.lt szn195)
      have ne_w_EMPTY_B195 : w_EMPTY ≠ B195 := Nat.ne_of_lt (Nat.lt_of_lt_of_le E_w_EMPTY.lt szn195)
      have ne_B182_B195 : B182 ≠ B195 := Nat.ne_of_lt (Nat.lt_of_lt_of_le V_B182.lt szn195)
      replace S__VALUES := own_stakeep S__VALUES K195 ns0
      replace S_EMPTY := own_stakeep S_EMPTY K195 ns0
      replace S_COMPACT_STRINGS := own_stakeep S_COMPACT_STRINGS K195 ns0
      replace E_a1 := E_a1.keep K195
      replace F_coder_a1 := F_coder_a1.keep K195 nin0
      replace F_value_a1 := F_value_a1.keep K195 nin0
      replace V_t1 := V_t1.keep K195 nin0
      replace E_w__VALUES := E_w__VALUES.keep K195
      replace V_w__VALUES := V_w__VALUES.keep K195 nin0
      replace F_jsonName_wM := F_jsonName_wM.keep K195 nin0
      replace F_jsonName_wA := F_jsonName_wA.keep K195 nin0
      replace E_sM := E_sM.keep K195
      replace F_coder_sM := F_coder_sM.keep K195 nin0
      replace F_value_sM := F_value_sM.keep K195 nin0
      replace V_tM := V_tM.keep K195 nin0
      replace E_sA := E_sA.keep K195
      replace F_coder_sA := F_coder_sA.keep K195 nin0
      replace F_value_sA := F_value_sA.keep K195 nin0
      replace V_tA := V_tA.keep K195 nin0
      replace E_w_EMPTY := E_w_EMPTY.keep K195
      replace F_value_w_EMPTY := F_value_w_EMPTY.keep K195 nin0
      replace V_B182 := V_B182.keep K195 nin0
      replace Z0 := Nat.le_trans Z0 K195.1
      replace KK := KK.trans K195 all0
      have E_B195 : Exa Z h195 B195 "java/util/Optional" := G195_0
      have F_value_B195 : Fld Z h195 B195 "java/util/Optional" "value" "Ljava/lang/Object;" (.ref wA) := G195_1
      have N195 := Fr.app N191 N195q
      obtain ⟨fs, hr, hrun, hended, hW, hsame⟩ := X195.leave (v := some (.ref B195)) (fun h => by rw [Bd.returns] at h; cases h)
      refine ⟨_, _, pre193 _ ?_, hrun, hended, _, _, rfl, ?_, ⟨_, rfl⟩, hW, hsame.mono (by decide) (by decide)⟩
      · refine y_ifNo X191 hx hby d16_28 ((if0 _ _).trans (feq hc192).1) ?_
        refine y_aload X191 hx hby d16_31 rfl rfl ?_
        refine st195 _ ?_
        show Steps p.tables e below (T195.setTop (mkF m 36 (lo16_s_2 a1 B182 wA) [(.ref B195)])) _
        jvm_step X195.here [X195.here.top, hx, (hb hby d16_36), X195.method', Bd.returns, Value.isRef, FieldType.isReference]
        first | (intro acts; rw [hr _ acts rfl rfl rfl]) | rw [hr _ _ rfl rfl rfl]
        exact Steps.refl _
      · show QF Z _ h0 n0 _ T195.heap _
        rw [e195]
        exact ⟨_, _, rfl, N195, KK, E_B195, F_value_B195, Or.inr (Or.inl ⟨own_eqn hc187, own_eqy hc192, rfl⟩)⟩
  · obtain ⟨_, _, ⟨T196, L196, k196, n196⟩, -, X196, ⟨Lc196, hQ196, l196, y196, z196⟩, st196⟩ := Jvm.LawKit.callS X186 hx (y := mn8) hown (mvT hZ (ww hw 118 rfl)) (mvT hZ (ww hw 119 rfl)) (mvT hZ (ww hw 107 rfl)) (mvT hZ (ww hw 120 rfl)) (by decide) (backOf (W := 0) (rm22 l Z a0 hw [] wM h182 n0 Z0) hZ (ww hw 120 rfl) (ww hw 107 rfl) (by decide) (by decide)) (g := (mkF m 33 (lo16_s_0 a1 B182 wM) [(.ref wM)])) rfl (by rw [hml]; rfl) (argsL := [(.ref wM)]) (rest := []) (lenOf pd_12 rfl) rfl (by show 2 * 0 + _ ≤ _; exact Nat.le_of_eq rfl) (hb hby d16_33) (fun _ _ => ⟨rfl, e186, (by decide : 1 + 1 ≤ _), (by decide : 2 + 1 ≤ _)⟩)
    dsimp only [Pt.U, Pt.locs, Pt.cells, Pt.slots] at X196 l196 y196 z196 st196 hQ196
    rw [l196, y196, z196] at X196
    obtain ⟨h196, e196⟩ : ∃ z, T196.heap = z := ⟨_, rfl⟩
    rw [e196] at hQ196
    obtain ⟨B196, rfl, N196q, K196, szn196, G196_0, G196_1⟩ := hQ196
    have g_B196 : n0 ≤ B196 := Nat.le_trans Z0 szn196
    have sz_B196 : h0.size ≤ B196 := Nat.le_trans KK.1 szn196
    have ne_a1_B196 : a1 ≠ B196 := Nat.ne_of_lt (Nat.lt_of_lt_of_le E_a1.lt szn196)
    have ne_t1_B196 : t1 ≠ B196 := Nat.ne_of_lt (Nat.lt_of_lt_of_le V_t1.lt szn196)
    have ne_w__VALUES_B196 : w__VALUES ≠ B196 := Nat.ne_of_lt (Nat.lt_of_lt_of_le E_w__VALUES.lt szn196)
    have ne_sM_B196 : sM ≠ B196 := Nat.ne_of_lt (Nat.lt_of_lt_of_le E_sM.lt szn196)
    have ne_tM_B196 : tM ≠ B196 := Nat.ne_of_lt (Nat.lt_of_lt_of_le V_tM.lt szn196)
    have ne_sA_B196 : sA ≠ B196 := Nat.ne_of_lt (Nat.lt_of_lt_of_le E_sA.lt szn196)
    have ne_tA_B196 : tA ≠ B196 := Nat.ne_of_lt (Nat.lt_of_lt_of_le V_tA.lt szn196)
    have ne_w_EMPTY_B196 : w_EMPTY ≠ B196 := Nat.ne_of_lt (Nat.lt_of_lt_of_le E_w_EMPTY.lt szn196)
    have ne_B182_B196 : B182 ≠ B196 := Nat.ne_of_lt (Nat.lt_of_lt_of_le V_B182.lt szn196)
    replace S__VALUES := own_stakeep S__VALUES K196 ns0
    replace S_EMPTY := own_stakeep S_EMPTY K196 ns0
    replace S_COMPACT_STRINGS := own_stakeep S_COMPACT_STRINGS K196 ns0
    replace E_a1 := E_a1.keep K196
    replace F_coder_a1 := F_coder_a1.keep K196 nin0
    replace F_value_a1 := F_value_a1.keep K196 nin0
    replace V_t1 := V_t1.keep K196 nin0
    replace E_w__VALUES := E_w__VALUES.keep K196
    replace V_w__VALUES := V_w__VALUES.keep K196 nin0
    replace F_jsonName_wM := F_jsonName_wM.keep K196 nin0
    replace F_jsonName_wA := F_jsonName_wA.keep K196 nin0
    replace E_sM := E_sM.keep K196
    replace F_coder_sM := F_coder_sM.keep K196 nin0
    replace F_value_sM := F_value_sM.keep K196 nin0
    replace V_tM := V_tM.keep K196 nin0
    replace E_sA := E_sA.keep K196
    replace F_coder_sA := F_coder_sA.keep K196 nin0
    replace F_value_sA := F_value_sA.keep K196 nin0
    replace V_tA := V_tA.keep K196 nin0
    replace E_w_EMPTY := E_w_EMPTY.keep K196
    replace F_value_w_EMPTY := F_value_w_EMPTY.keep K196 nin0
    replace V_B182 := V_B182.keep K196 nin0
    replace Z0 := Nat.le_trans Z0 K196.1
    replace KK := KK.trans K196 all0
    have E_B196 : Exa Z h196 B196 "java/util/Optional" := G196_0
    have F_value_B196 : Fld Z h196 B196 "java/util/Optional" "value" "Ljava/lang/Object;" (.ref wM) := G196_1
    have N196 := Fr.app N186 N196q
    obtain ⟨fs, hr, hrun, hended, hW, hsame⟩ := X196.leave (v := some (.ref B196)) (fun h => by rw [Bd.returns] at h; cases h)
    refine ⟨_, _, pre188 _ ?_, hrun, hended, _, _, rfl, ?_, ⟨_, rfl⟩, hW, hsame.mono (by decide) (by decide)⟩
    · refine y_ifNo X186 hx hby d16_28 ((if0 _ _).trans (feq hc187).1) ?_
      refine y_aload X186 hx hby d16_31 rfl rfl ?_
      refine st196 _ ?_
      show Steps p.tables e below (T196.setTop (mkF m 36 (lo16_s_0 a1 B182 wM) [(.ref B196)])) _
      jvm_step X196.here [X196.here.top, hx, (hb hby d16_36), X196.method', Bd.returns, Value.isRef, FieldType.isReference]
      first | (intro acts; rw [hr _ acts rfl rfl rfl]) | rw [hr _ _ rfl rfl rfl]
      exact Steps.refl _
    · show QF Z _ h0 n0 _ T196.heap _
      rw [e196]
      exact ⟨_, _, rfl, N196, KK, E_B196, F_value_B196, Or.inl ⟨own_eqy hc187, rfl⟩⟩
theorem ef_16z (m : MethodId)  : entryFrame m #[.null] 5 = mkF m 0 #[.val .null, .unset, .unset, .unset, .unset] [] := by first | (simp [entryFrame, mkF, argsToLocals, Value.category]; done) | rfl
set_option maxRecDepth 65536 in
set_option maxHeartbeats 40000000 in
theorem rm16_z (l : Launch) (Z : State) (a0 : Array Value) (hw : HW a0 Z) (ws : List Jvm.Cond) (wM wA : Addr) (kV : ClassId) (w__VALUES sM tM : Addr) (kM : ClassId) (sA tA : Addr) (kA : ClassId) (w_EMPTY : Addr) (w_COMPACT_STRINGS : Int32) (h0 : Heap) (n0 : Nat) (Z0 : n0 ≤ h0.size) (S__VALUES : Sta Z h0 "com/example/assay/assay/config/TlsClient$Role" "$VALUES" "[Lcom/example/assay/assay/config/TlsClient$Role;" (.ref w__VALUES)) (S_EMPTY : Sta Z h0 "java/util/Optional" "EMPTY" "Ljava/util/Optional;" (.ref w_EMPTY)) (S_COMPACT_STRINGS : Sta Z h0 "java/lang/String" "COMPACT_STRINGS" "Z" (.int w_COMPACT_STRINGS)) (hz : ¬ w_COMPACT_STRINGS = 0) (E_w__VALUES : Exa Z h0 w__VALUES "[Lcom/example/assay/assay/config/TlsClient$Role;") (V_w__VALUES : Arv Z h0 w__VALUES kV (.object "com/example/assay/assay/config/TlsClient$Role") (2 : Int32) [(.ref wM), (.ref wA)] .null) (F_jsonName_wM : Fld Z h0 wM "com/example/assay/assay/config/TlsClient$Role" "jsonName" "Ljava/lang/String;" (.ref sM)) (F_jsonName_wA : Fld Z h0 wA "com/example/assay/assay/config/TlsClient$Role" "jsonName" "Ljava/lang/String;" (.ref sA)) (E_sM : Exa Z h0 sM "java/lang/String") (F_coder_sM : Fld Z h0 sM "java/lang/String" "coder" "B" (.int (0 : Int32))) (F_value_sM : Fld Z h0 sM "java/lang/String" "value" "[B" (.ref tM)) (V_tM : Arv Z h0 tM kM .byte (10 : Int32) ((C1.map StrChars.lo8).map Value.int) (.int (0 : Int32))) (E_sA : Exa Z h0 sA "java/lang/String") (F_coder_sA : Fld Z h0 sA "java/lang/String" "coder" "B" (.int (0 : Int32))) (F_value_sA : Fld Z h0 sA "java/lang/String" "value" "[B" (.ref tA)) (V_tA : Arv Z h0 tA kA .byte (12 : Int32) ((C2.map StrChars.lo8).map Value.int) (.int (0 : Int32))) (E_w_EMPTY : Exa Z h0 w_EMPTY "java/util/Optional") (F_value_w_EMPTY : Fld Z h0 w_EMPTY "java/util/Optional" "value" "Ljava/lang/Object;" .null) :
    MF l mn16 prog_25_method_5_code 5 (some (.object "java/util/Optional")) ws ({ frames := 2, cells := 1, slots := 2, locals := 25 } : Room) #[.null] Z h0 (QF Z (fun w => w = .null) h0 n0) := by
  refine MetFree.of_bodySF (plainFor_of_name pn_17) hisR ?_
  intro p e s m args below meth c s₁ Bd hml0 hP hK
  obtain ⟨rfl, hZ, hh⟩ := hP
  have hx := Bd.exec
  have hby := Bd.bytes
  have hml : c.maxLocals = 5 := hml0
  have hown : s.vm.findClass "com/example/assay/assay/config/TlsClient$Role" = some m.cls := findClass_of_methodNamed Bd.named
  have hnm := (name_of_methodNamed Bd.named Bd.method).1
  have X0 : Stand p l e ({ frames := 2, cells := 1, slots := 2, locals := 25 } : Room) s m #[.null] below meth c s₁ [] 0 0 := Stand.of_body Bd
  have e0 : s₁.heap = h0 := by rw [← hh, Bd.state]; rfl
  have N0 := Fr.nil n0
  have pre0 : GO p e below (s₁.setTop (mkF m 0 #[.val .null, .unset, .unset, .unset, .unset] [])) (s₁.setTop (entryFrame m #[.null] 5)) := fun t k => castTop (ef_16z m ) k
  have KK := Keep.refl h0 []
  have heq : ∀ d ∈ StrChars.Road.wordsEq, d.before a0 Z = true := fun d hd => hw d ((by decide +kernel : ∀ d ∈ StrChars.Road.wordsEq, d ∈ tables_1) d hd)
  obtain ⟨_, _, ⟨T197, L197, k197, n197⟩, -, X197, ⟨Lc197, hQ197, l197, y197, z197⟩, st197⟩ := Jvm.LawKit.callS X0 hx (y := mn15) hown (mvT hZ (ww hw 77 rfl)) (mvT hZ (ww hw 78 rfl)) (mvT hZ (ww hw 75 rfl)) (mvT hZ (ww hw 79 rfl)) (by decide) (backOf (W := 0) (rm17 l Z a0 hw [] wM wA kV w__VALUES h0 n0 Z0 S__VALUES E_w__VALUES V_w__VALUES) hZ (ww hw 79 rfl) (ww hw 75 rfl) (by decide) (by decide)) (g := (mkF m 0 #[.val .null, .unset, .unset, .unset, .unset] [])) rfl (by rw [hml]; rfl) (argsL := []) (rest := []) (lenOf pd_9 rfl) rfl (by show 2 * 0 + _ ≤ _; exact Nat.le_of_eq rfl) (hb hby d16_0) (fun _ _ => ⟨rfl, e0, (by decide : 0 + 1 ≤ _), (by decide : 0 + 2 ≤ _)⟩)
  dsimp only [Pt.U, Pt.locs, Pt.cells, Pt.slots] at X197 l197 y197 z197 st197 hQ197
  rw [l197, y197, z197] at X197
  obtain ⟨h197, e197⟩ : ∃ z, T197.heap = z := ⟨_, rfl⟩
  rw [e197] at hQ197
  obtain ⟨B197, rfl, N197q, K197, szn197, G197_0⟩ := hQ197
  have g_B197 : n0 ≤ B197 := Nat.le_trans Z0 szn197
  have sz_B197 : h0.size ≤ B197 := Nat.le_trans KK.1 szn197
  have ne_w__VALUES_B197 : w__VALUES ≠ B197 := Nat.ne_of_lt (Nat.lt_of_lt_of_le E_w__VALUES.lt szn197)
  have ne_sM_B197 : sM ≠ B197 := Nat.ne_of_lt (Nat.lt_of_lt_of_le E_sM.lt szn197)
  have ne_tM_B197 : tM ≠ B197 := Nat.ne_of_lt (Nat.lt_of_lt_of_le V_tM.lt szn197)
  have ne_sA_B197 : sA ≠ B197 := Nat.ne_of_lt (Nat.lt_of_lt_of_le E_sA.lt szn197)
  have ne_tA_B197 : tA ≠ B197 := Nat.ne_of_lt (Nat.lt_of_lt_of_le V_tA.lt szn197)
  have ne_w_EMPTY_B197 : w_EMPTY ≠ B197 := Nat.ne_of_lt (Nat.lt_of_lt_of_le E_w_EMPTY.lt szn197)
  replace S__VALUES := own_stakeep S__VALUES K197 ns0
  replace S_EMPTY := own_stakeep S_EMPTY K197 ns0
  replace S_COMPACT_STRINGS := own_stakeep S_COMPACT_STRINGS K197 ns0
  replace E_w__VALUES := E_w__VALUES.keep K197
  replace V_w__VALUES := V_w__VALUES.keep K197 nin0
  replace F_jsonName_wM := F_jsonName_wM.keep K197 nin0
  replace F_jsonName_wA := F_jsonName_wA.keep K197 nin0
  replace E_sM := E_sM.keep K197
  replace F_coder_sM := F_coder_sM.keep K197 nin0
  replace F_value_sM := F_value_sM.keep K197 nin0
  replace V_tM := V_tM.keep K197 nin0
  replace E_sA := E_sA.keep K197
  replace F_coder_sA := F_coder_sA.keep K197 nin0
  replace F_value_sA := F_value_sA.keep K197 nin0
  replace V_tA := V_tA.keep K197 nin0
  replace E_w_EMPTY := E_w_EMPTY.keep K197
  replace F_value_w_EMPTY := F_value_w_EMPTY.keep K197 nin0
  replace Z0 := Nat.le_trans Z0 K197.1
  replace KK := KK.trans K197 all0
  have V_B197 : Arv Z h197 B197 kV (.object "com/example/assay/assay/config/TlsClient$Role") (2 : Int32) [(.ref wM), (.ref wA)] .null := G197_0
  have N197 := Fr.app N0 N197q
  obtain ⟨cl198, Ar198, q198, Sz198, Nn198, Hh198, Gg198⟩ := id V_B197
  obtain ⟨cl199, Ar199, q199, Sz199, Nn199, Hh199, Gg199⟩ := id V_B197
  have hin199 : ¬ ((0 : Int32) < 0 ∨ cl199.slots.size ≤ ((0 : Int32)).toNatClampNeg) := inb_of Sz199 ⟨by decide, by decide⟩
  have hat199 : cl199.slots[((0 : Int32)).toNatClampNeg]? = some (.ref wM) := Hh199.at hin199 rfl
  obtain ⟨T200, X200, e200, st200⟩ := getF X197 hx hZ hown (host := "") (Or.inl (ww hw 94 rfl)) Via.refl e197 F_jsonName_wM (g := (mkF m 21 #[.val .null, .val (.ref B197), .val (.int (2 : Int32)), .val (.int (0 : Int32)), .val (.ref wM)] [(.ref wM)])) rfl rfl (hb hby d16_21)
  obtain ⟨cq201, kq201, q201a, q201b, q201c⟩ := isOf hZ e200 E_sM
  obtain ⟨_, _, ⟨T201, L201, k201, n201⟩, -, X201, ⟨Lc201, hQ201, l201, y201, z201⟩, st201⟩ := X200.virtualBack hx (y := mn14) (z := mn14) hown (mvT hZ (ww hw 96 rfl)) (mvT hZ (ww hw 97 rfl)) (notFace_of_selects (args := #[]) (mvT hZ (ww hw 99 rfl))) (mvT hZ (ww hw 99 rfl)) (mvT hZ (ww hw 98 rfl)) (by decide) (backOf (W := 0) (rm18_z l Z a0 hw [] sM w_COMPACT_STRINGS h197 n0 Z0 S_COMPACT_STRINGS) hZ (ww hw 100 rfl) (ww hw 1 rfl) (by decide) (by decide)) q201a q201c (g := (mkF m 25 #[.val .null, .val (.ref B197), .val (.int (2 : Int32)), .val (.int (0 : Int32)), .val (.ref wM)] [.null, (.ref sM)])) rfl (by rw [hml]; rfl) (Steps.refl _) (argsL := [.null]) (rest := []) (lenOf pd_10 rfl) rfl (by show 2 * 0 + _ ≤ _; exact Nat.le_of_eq rfl) (hb hby d16_25) (fun _ _ => ⟨rfl, e200, (by decide : 1 + 0 ≤ _), (by decide : 2 + 0 ≤ _)⟩)
  dsimp only [Pt.U, Pt.locs, Pt.cells, Pt.slots] at X201 l201 y201 z201 st201 hQ201
  rw [l201, y201, z201] at X201
  obtain ⟨rfl, N201q, e201⟩ := hQ201
  have N201 := Fr.app N197 N201q
  obtain ⟨cl202, Ar202, q202, Sz202, Nn202, Hh202, Gg202⟩ := id V_B197
  have hin202 : ¬ ((1 : Int32) < 0 ∨ cl202.slots.size ≤ ((1 : Int32)).toNatClampNeg) := inb_of Sz202 ⟨by decide, by decide⟩
  have hat202 : cl202.slots[((1 : Int32)).toNatClampNeg]? = some (.ref wA) := Hh202.at hin202 rfl
  obtain ⟨T203, X203, e203, st203⟩ := getF X201 hx hZ hown (host := "") (Or.inl (ww hw 94 rfl)) Via.refl e201 F_jsonName_wA (g := (mkF m 21 #[.val .null, .val (.ref B197), .val (.int (2 : Int32)), .val (.int (1 : Int32)), .val (.ref wA)] [(.ref wA)])) rfl rfl (hb hby d16_21)
  obtain ⟨cq204, kq204, q204a, q204b, q204c⟩ := isOf hZ e203 E_sA
  obtain ⟨_, _, ⟨T204, L204, k204, n204⟩, -, X204, ⟨Lc204, hQ204, l204, y204, z204⟩, st204⟩ := X203.virtualBack hx (y := mn14) (z := mn14) hown (mvT hZ (ww hw 96 rfl)) (mvT hZ (ww hw 97 rfl)) (notFace_of_selects (args := #[]) (mvT hZ (ww hw 99 rfl))) (mvT hZ (ww hw 99 rfl)) (mvT hZ (ww hw 98 rfl)) (by decide) (backOf (W := 0) (rm18_z l Z a0 hw [] sA w_COMPACT_STRINGS h197 n0 Z0 S_COMPACT_STRINGS) hZ (ww hw 100 rfl) (ww hw 1 rfl) (by decide) (by decide)) q204a q204c (g := (mkF m 25 #[.val .null, .val (.ref B197), .val (.int (2 : Int32)), .val (.int (1 : Int32)), .val (.ref wA)] [.null, (.ref sA)])) rfl (by rw [hml]; rfl) (Steps.refl _) (argsL := [.null]) (rest := []) (lenOf pd_10 rfl) rfl (by show 2 * 0 + _ ≤ _; exact Nat.le_of_eq rfl) (hb hby d16_25) (fun _ _ => ⟨rfl, e203, (by decide : 1 + 0 ≤ _), (by decide : 2 + 0 ≤ _)⟩)
  dsimp only [Pt.U, Pt.locs, Pt.cells, Pt.slots] at X204 l204 y204 z204 st204 hQ204
  rw [l204, y204, z204] at X204
  obtain ⟨rfl, N204q, e204⟩ := hQ204
  have N204 := Fr.app N201 N204q
  obtain ⟨_, _, ⟨T205, L205, k205, n205⟩, -, X205, ⟨Lc205, hQ205, l205, y205, z205⟩, st205⟩ := Jvm.LawKit.callS X204 hx (y := mn9) hown (mvT hZ (ww hw 105 rfl)) (mvT hZ (ww hw 106 rfl)) (mvT hZ (ww hw 107 rfl)) (mvT hZ (ww hw 108 rfl)) (by decide) (backOf (W := 0) (rm20 l Z a0 hw [] w_EMPTY h197 n0 Z0 S_EMPTY) hZ (ww hw 108 rfl) (ww hw 107 rfl) (by decide) (by decide)) (g := (mkF m 43 #[.val .null, .val (.ref B197), .val (.int (2 : Int32)), .val (.int (2 : Int32)), .val (.ref wA)] [])) rfl (by rw [hml]; rfl) (argsL := []) (rest := []) (lenOf pd_11 rfl) rfl (by show 2 * 0 + _ ≤ _; exact Nat.le_of_eq rfl) (hb hby d16_43) (fun _ _ => ⟨rfl, e204, (by decide : 1 + 0 ≤ _), (by decide : 2 + 0 ≤ _)⟩)
  dsimp only [Pt.U, Pt.locs, Pt.cells, Pt.slots] at X205 l205 y205 z205 st205 hQ205
  rw [l205, y205, z205] at X205
  obtain ⟨rfl, N205q, e205⟩ := hQ205
  have N205 := Fr.app N204 N205q
  obtain ⟨fs, hr, hrun, hended, hW, hsame⟩ := X205.leave (v := some (.ref w_EMPTY)) (fun h => by rw [Bd.returns] at h; cases h)
  refine ⟨_, _, pre0 _ ?_, hrun, hended, _, _, rfl, ?_, ⟨_, rfl⟩, hW, hsame.mono (by decide) (by decide)⟩
  · refine st197 _ ?_
    show Steps p.tables e below (T197.setTop (mkF m 3 #[.val .null, .unset, .unset, .unset, .unset] [(.ref B197)])) _
    refine y_astoreN X197 hx hby d16_3 rfl (l' := #[.val .null, .val (.ref B197), .unset, .unset, .unset]) rfl ?_
    refine y_aloadN X197 hx hby d16_4 rfl rfl ?_
    refine X197.arraylength hx (by rw [e197]; exact Ar198.1) (State.isArrayOf_alike hZ.alike Ar198.2.1) (g := (mkF m 5 #[.val .null, .val (.ref B197), .unset, .unset, .unset] [(.ref B197)])) rfl rfl (hb hby d16_5) _ ?_
    rw [len_of Sz198 Nn198]
    show Steps p.tables e below (T197.setTop (mkF m 6 #[.val .null, .val (.ref B197), .unset, .unset, .unset] [(.int (2 : Int32))])) _
    refine y_istoreN X197 hx hby d16_6 (l' := #[.val .null, .val (.ref B197), .val (.int (2 : Int32)), .unset, .unset]) rfl ?_
    refine y_iconst X197 hx hby (v := (0 : Int32)) d16_7 rfl ?_
    refine y_istoreN X197 hx hby d16_8 (l' := #[.val .null, .val (.ref B197), .val (.int (2 : Int32)), .val (.int (0 : Int32)), .unset]) rfl ?_
    refine y_iloadN X197 hx hby d16_9 rfl ?_
    refine y_iloadN X197 hx hby d16_10 rfl ?_
    refine y_icmpNo X197 hx hby d16_11 (tlt (by decide)).2.1 ?_
    refine y_aloadN X197 hx hby d16_14 rfl rfl ?_
    refine y_iloadN X197 hx hby d16_15 rfl ?_
    refine X197.aaload hx (j := (0 : Int32)) (v := (.ref wM)) (by rw [e197]; exact Ar199.1) (State.isArrayOf_alike hZ.alike Ar199.2.1) rfl Ar199.2.2 hin199 hat199 (g := (mkF m 16 #[.val .null, .val (.ref B197), .val (.int (2 : Int32)), .val (.int (0 : Int32)), .unset] [(.int (0 : Int32)), (.ref B197)])) rfl rfl (hb hby d16_16) _ ?_
    show Steps p.tables e below (T197.setTop (mkF m 17 #[.val .null, .val (.ref B197), .val (.int (2 : Int32)), .val (.int (0 : Int32)), .unset] [(.ref wM)])) _
    refine y_astore X197 hx hby d16_17 rfl (l' := #[.val .null, .val (.ref B197), .val (.int (2 : Int32)), .val (.int (0 : Int32)), .val (.ref wM)]) rfl ?_
    refine y_aload X197 hx hby d16_19 rfl rfl ?_
    refine st200 _ ?_
    show Steps p.tables e below (T200.setTop (mkF m 24 #[.val .null, .val (.ref B197), .val (.int (2 : Int32)), .val (.int (0 : Int32)), .val (.ref wM)] [(.ref sM)])) _
    refine y_aloadN X200 hx hby d16_24 rfl rfl ?_
    refine st201.trans ?_
    show Steps p.tables e below (T201.setTop (mkF m 28 #[.val .null, .val (.ref B197), .val (.int (2 : Int32)), .val (.int (0 : Int32)), .val (.ref wM)] [(.int (0 : Int32))])) _
    refine y_ifYes X201 hx hby (pc' := 37) d16_28 ((if0 _ _).trans (teq rfl).1) (by decide) (by decide) ?_
    refine y_iinc X201 hx hby d16_37 rfl (l' := #[.val .null, .val (.ref B197), .val (.int (2 : Int32)), .val (.int (1 : Int32)), .val (.ref wM)]) rfl ?_
    refine y_goto X201 hx hby (pc' := 9) d16_40 (by decide) (by decide) ?_
    refine y_iloadN X201 hx hby d16_9 rfl ?_
    refine y_iloadN X201 hx hby d16_10 rfl ?_
    refine y_icmpNo X201 hx hby d16_11 (tlt (by decide)).2.1 ?_
    refine y_aloadN X201 hx hby d16_14 rfl rfl ?_
    refine y_iloadN X201 hx hby d16_15 rfl ?_
    refine X201.aaload hx (j := (1 : Int32)) (v := (.ref wA)) (by rw [e201]; exact Ar202.1) (State.isArrayOf_alike hZ.alike Ar202.2.1) rfl Ar202.2.2 hin202 hat202 (g := (mkF m 16 #[.val .null, .val (.ref B197), .val (.int (2 : Int32)), .val (.int (1 : Int32)), .val (.ref wM)] [(.int (1 : Int32)), (.ref B197)])) rfl rfl (hb hby d16_16) _ ?_
    show Steps p.tables e below (T201.setTop (mkF m 17 #[.val .null, .val (.ref B197), .val (.int (2 : Int32)), .val (.int (1 : Int32)), .val (.ref wM)] [(.ref wA)])) _
    refine y_astore X201 hx hby d16_17 rfl (l' := #[.val .null, .val (.ref B197), .val (.int (2 : Int32)), .val (.int (1 : Int32)), .val (.ref wA)]) rfl ?_
    refine y_aload X201 hx hby d16_19 rfl rfl ?_
    refine st203 _ ?_
    show Steps p.tables e below (T203.setTop (mkF m 24 #[.val .null, .val (.ref B197), .val (.int (2 : Int32)), .val (.int (1 : Int32)), .val (.ref wA)] [(.ref sA)])) _
    refine y_aloadN X203 hx hby d16_24 rfl rfl ?_
    refine st204.trans ?_
    show Steps p.tables e below (T204.setTop (mkF m 28 #[.val .null, .val (.ref B197), .val (.int (2 : Int32)), .val (.int (1 : Int32)), .val (.ref wA)] [(.int (0 : Int32))])) _
    refine y_ifYes X204 hx hby (pc' := 37) d16_28 ((if0 _ _).trans (teq rfl).1) (by decide) (by decide) ?_
    refine y_iinc X204 hx hby d16_37 rfl (l' := #[.val .null, .val (.ref B197), .val (.int (2 : Int32)), .val (.int (2 : Int32)), .val (.ref wA)]) rfl ?_
    refine y_goto X204 hx hby (pc' := 9) d16_40 (by decide) (by decide) ?_
    refine y_iloadN X204 hx hby d16_9 rfl ?_
    refine y_iloadN X204 hx hby d16_10 rfl ?_
    refine y_icmpYes X204 hx hby (pc' := 43) d16_11 (flt (by decide)).2.1 (by decide) (by decide) ?_
    refine st205 _ ?_
    show Steps p.tables e below (T205.setTop (mkF m 46 #[.val .null, .val (.ref B197), .val (.int (2 : Int32)), .val (.int (2 : Int32)), .val (.ref wA)] [(.ref w_EMPTY)])) _
    jvm_step X205.here [X205.here.top, hx, (hb hby d16_46), X205.method', Bd.returns, Value.isRef, FieldType.isReference]
    first | (intro acts; rw [hr _ acts rfl rfl rfl]) | rw [hr _ _ rfl rfl rfl]
    exact Steps.refl _
  · show QF Z _ h0 n0 _ T205.heap _
    rw [e205]
    exact ⟨_, _, rfl, N205, KK, E_w_EMPTY, F_value_w_EMPTY, rfl⟩
def C0 : List Int32 := []
theorem own_rc0 : RGs C0 := fun c hc => by cases hc
theorem own_r1 {c : Int32} (h : RG c) : RGs [c] := fun z hz => by
  simp only [List.mem_cons, List.not_mem_nil, or_false] at hz
  subst hz
  exact h
theorem own_r2 {c d : Int32} (h : RG c) (k : RG d) : RGs [c, d] := fun z hz => by
  simp only [List.mem_cons, List.not_mem_nil, or_false] at hz
  rcases hz with rfl | rfl
  · exact h
  · exact k
theorem own_lne {a b : List Int32} {n m : Nat} (ha : a.length = n) (hb : b.length = m) (h : n ≠ m) : ¬ a = b := fun q => h (by rw [← ha, ← hb, q])
theorem own_EW {Z : State} {a0 : Array Value} (hw : HW a0 Z) : EW Z a0 consts_1 := EW.cons (ww hw 0 rfl) (by decide) (EW.cons (ww hw 8 rfl) (by decide) (EW.cons (ww hw 145 rfl) (by decide) (EW.cons (ww hw 146 rfl) (by decide) (EW.nil))))
theorem pd_13 : parseMethodDescriptor "(Ljava/lang/String;ICI)Ljava/lang/String;" = some ⟨[(.object "java/lang/String"), .int, .char, .int], some (.object "java/lang/String")⟩ := by decide +kernel
theorem pd_14 : parseMethodDescriptor "(Ljava/lang/String;)Ljava/util/Optional;" = some ⟨[(.object "java/lang/String")], some (.object "java/util/Optional")⟩ := by decide +kernel
theorem pd_15 : parseMethodDescriptor "(C)Ljava/lang/String;" = some ⟨[.char], some (.object "java/lang/String")⟩ := by decide +kernel
theorem ef_0 (m : MethodId) (x0 : Int32) (x1 : Int32) (x2 : Int32) (x3 : Int32) : entryFrame m #[(.int x0), (.int x1), (.int x2), (.int x3)] maxLocals = mkF m 0 #[.val (.int x0), .val (.int x1), .val (.int x2), .val (.int x3), .unset, .unset, .unset, .unset, .unset, .unset, .unset, .unset, .unset] [] := by first | (simp [entryFrame, mkF, argsToLocals, Value.category, maxLocals]; done) | rfl
abbrev lo0_0 (p1 p2 p3 p4 : Int32) : Array Slot := #[.val (.int p1), .val (.int p2), .val (.int p3), .val (.int p4), .unset, .unset, .unset, .unset, .unset, .unset, .unset, .unset, .unset]
abbrev lo0_1 (p1 p2 p3 p4 : Int32) (b206 : Addr) : Array Slot := #[.val (.int p1), .val (.int p2), .val (.int p3), .val (.int p4), .val (.ref b206), .unset, .unset, .unset, .unset, .unset, .unset, .unset, .unset]
abbrev lo0_2 (p1 p2 p3 p4 : Int32) (b206 b207 : Addr) : Array Slot := #[.val (.int p1), .val (.int p2), .val (.int p3), .val (.int p4), .val (.ref b206), .val (.ref b207), .unset, .unset, .unset, .unset, .unset, .unset, .unset]
abbrev lo0_3 (p1 p2 p3 p4 : Int32) (b206 b207 : Addr) : Array Slot := #[.val (.int p1), .val (.int p2), .val (.int p3), .val (.int p4), .val (.ref b206), .val (.ref b207), .val (.int (p1 &&& (7 : Int32))), .unset, .unset, .unset, .unset, .unset, .unset]
abbrev lo0_4 (p1 p2 p3 p4 : Int32) (b206 b207 : Addr) : Array Slot := #[.val (.int p1), .val (.int p2), .val (.int p3), .val (.int p4), .val (.ref b206), .val (.ref b207), .val (.int (p1 &&& (7 : Int32))), .val (.int (p2 &&& (15 : Int32))), .unset, .unset, .unset, .unset, .unset]
abbrev lo0_5 (p1 p2 p3 p4 : Int32) (b206 b207 : Addr) : Array Slot := #[.val (.int p1), .val (.int p2), .val (.int p3), .val (.int p4), .val (.ref b206), .val (.ref b207), .val (.int (p1 &&& (7 : Int32))), .val (.int (p2 &&& (15 : Int32))), .val (.int ((p3 &&& (255 : Int32)).toUInt32.toUInt16.toUInt32.toInt32)), .unset, .unset, .unset, .unset]
abbrev lo0_6 (p1 p2 p3 p4 : Int32) (b206 b207 b214 : Addr) : Array Slot := #[.val (.int p1), .val (.int p2), .val (.int p3), .val (.int p4), .val (.ref b206), .val (.ref b207), .val (.int (p1 &&& (7 : Int32))), .val (.int (p2 &&& (15 : Int32))), .val (.int ((p3 &&& (255 : Int32)).toUInt32.toUInt16.toUInt32.toInt32)), .val (.ref b214), .unset, .unset, .unset]
abbrev lo0_7 (p1 p2 p3 p4 : Int32) (b206 b207 b214 : Addr) : Array Slot := #[.val (.int p1), .val (.int p2), .val (.int p3), .val (.int p4), .val (.ref b206), .val (.ref b207), .val (.int (p1 &&& (7 : Int32))), .val (.int (p2 &&& (15 : Int32))), .val (.int ((p3 &&& (255 : Int32)).toUInt32.toUInt16.toUInt32.toInt32)), .val (.ref b214), .val .null, .unset, .unset]
abbrev lo0_8 (p1 p2 p3 p4 : Int32) (b206 b207 b214 B215 : Addr) : Array Slot := #[.val (.int p1), .val (.int p2), .val (.int p3), .val (.int p4), .val (.ref b206), .val (.ref b207), .val (.int (p1 &&& (7 : Int32))), .val (.int (p2 &&& (15 : Int32))), .val (.int ((p3 &&& (255 : Int32)).toUInt32.toUInt16.toUInt32.toInt32)), .val (.ref b214), .val .null, .val (.ref B215), .unset]
abbrev lo0_9 (p1 p2 p3 p4 : Int32) (b206 b207 b219 : Addr) : Array Slot := #[.val (.int p1), .val (.int p2), .val (.int p3), .val (.int p4), .val (.ref b206), .val (.ref b207), .val (.int (p1 &&& (7 : Int32))), .val (.int (p2 &&& (15 : Int32))), .val (.int ((p3 &&& (255 : Int32)).toUInt32.toUInt16.toUInt32.toInt32)), .val (.ref b219), .unset, .unset, .unset]
abbrev lo0_10 (p1 p2 p3 p4 : Int32) (b206 b207 b219 : Addr) : Array Slot := #[.val (.int p1), .val (.int p2), .val (.int p3), .val (.int p4), .val (.ref b206), .val (.ref b207), .val (.int (p1 &&& (7 : Int32))), .val (.int (p2 &&& (15 : Int32))), .val (.int ((p3 &&& (255 : Int32)).toUInt32.toUInt16.toUInt32.toInt32)), .val (.ref b219), .val .null, .unset, .unset]
abbrev lo0_11 (p1 p2 p3 p4 : Int32) (b206 b207 b219 B220 : Addr) : Array Slot := #[.val (.int p1), .val (.int p2), .val (.int p3), .val (.int p4), .val (.ref b206), .val (.ref b207), .val (.int (p1 &&& (7 : Int32))), .val (.int (p2 &&& (15 : Int32))), .val (.int ((p3 &&& (255 : Int32)).toUInt32.toUInt16.toUInt32.toInt32)), .val (.ref b219), .val .null, .val (.ref B220), .unset]
abbrev lo0_12 (p1 p2 p3 p4 : Int32) (b206 b207 b226 : Addr) : Array Slot := #[.val (.int p1), .val (.int p2), .val (.int p3), .val (.int p4), .val (.ref b206), .val (.ref b207), .val (.int (p1 &&& (7 : Int32))), .val (.int (p2 &&& (15 : Int32))), .val (.int ((p3 &&& (255 : Int32)).toUInt32.toUInt16.toUInt32.toInt32)), .val (.ref b226), .unset, .unset, .unset]
abbrev lo0_13 (p1 p2 p3 p4 : Int32) (b206 b207 b226 : Addr) : Array Slot := #[.val (.int p1), .val (.int p2), .val (.int p3), .val (.int p4), .val (.ref b206), .val (.ref b207), .val (.int (p1 &&& (7 : Int32))), .val (.int (p2 &&& (15 : Int32))), .val (.int ((p3 &&& (255 : Int32)).toUInt32.toUInt16.toUInt32.toInt32)), .val (.ref b226), .val .null, .unset, .unset]
abbrev lo0_14 (p1 p2 p3 p4 : Int32) (b206 b207 b226 B227 : Addr) : Array Slot := #[.val (.int p1), .val (.int p2), .val (.int p3), .val (.int p4), .val (.ref b206), .val (.ref b207), .val (.int (p1 &&& (7 : Int32))), .val (.int (p2 &&& (15 : Int32))), .val (.int ((p3 &&& (255 : Int32)).toUInt32.toUInt16.toUInt32.toInt32)), .val (.ref b226), .val .null, .val (.ref B227), .unset]
abbrev lo0_15 (p1 p2 p3 p4 : Int32) (b206 b207 b229 : Addr) : Array Slot := #[.val (.int p1), .val (.int p2), .val (.int p3), .val (.int p4), .val (.ref b206), .val (.ref b207), .val (.int (p1 &&& (7 : Int32))), .val (.int (p2 &&& (15 : Int32))), .val (.int ((p3 &&& (255 : Int32)).toUInt32.toUInt16.toUInt32.toInt32)), .val (.ref b229), .unset, .unset, .unset]
abbrev lo0_16 (p1 p2 p3 p4 : Int32) (b206 b207 b229 : Addr) : Array Slot := #[.val (.int p1), .val (.int p2), .val (.int p3), .val (.int p4), .val (.ref b206), .val (.ref b207), .val (.int (p1 &&& (7 : Int32))), .val (.int (p2 &&& (15 : Int32))), .val (.int ((p3 &&& (255 : Int32)).toUInt32.toUInt16.toUInt32.toInt32)), .val (.ref b229), .val .null, .unset, .unset]
abbrev lo0_17 (p1 p2 p3 p4 : Int32) (b206 b207 b229 B230 : Addr) : Array Slot := #[.val (.int p1), .val (.int p2), .val (.int p3), .val (.int p4), .val (.ref b206), .val (.ref b207), .val (.int (p1 &&& (7 : Int32))), .val (.int (p2 &&& (15 : Int32))), .val (.int ((p3 &&& (255 : Int32)).toUInt32.toUInt16.toUInt32.toInt32)), .val (.ref b229), .val .null, .val (.ref B230), .unset]
abbrev lo0_18 (p1 p2 p3 p4 : Int32) (b206 b207 : Addr) : Array Slot := #[.val (.int p1), .val (.int p2), .val (.int p3), .val (.int p4), .val (.ref b206), .val (.ref b207), .val (.int (p1 &&& (7 : Int32))), .val (.int (p2 &&& (15 : Int32))), .val (.int ((p3 &&& (255 : Int32)).toUInt32.toUInt16.toUInt32.toInt32)), .unset, .unset, .val (.int (p4 &&& (3 : Int32))), .unset]
abbrev lo0_19 (p1 p2 p3 p4 : Int32) (b206 b207 : Addr) : Array Slot := #[.val (.int p1), .val (.int p2), .val (.int p3), .val (.int p4), .val (.ref b206), .val (.ref b207), .val (.int (p1 &&& (7 : Int32))), .val (.int (p2 &&& (15 : Int32))), .val (.int ((p3 &&& (255 : Int32)).toUInt32.toUInt16.toUInt32.toInt32)), .unset, .unset, .val (.int (p4 &&& (3 : Int32))), .val (.int ((((p4.toUInt32 >>> ((2 : Int32) &&& 31).toUInt32).toInt32) &&& (255 : Int32)).toUInt32.toUInt16.toUInt32.toInt32))]
abbrev lo0_20 (p1 p2 p3 p4 : Int32) (b206 b207 b234 : Addr) : Array Slot := #[.val (.int p1), .val (.int p2), .val (.int p3), .val (.int p4), .val (.ref b206), .val (.ref b207), .val (.int (p1 &&& (7 : Int32))), .val (.int (p2 &&& (15 : Int32))), .val (.int ((p3 &&& (255 : Int32)).toUInt32.toUInt16.toUInt32.toInt32)), .val (.ref b234), .unset, .val (.int (p4 &&& (3 : Int32))), .val (.int ((((p4.toUInt32 >>> ((2 : Int32) &&& 31).toUInt32).toInt32) &&& (255 : Int32)).toUInt32.toUInt16.toUInt32.toInt32))]
abbrev lo0_21 (p1 p2 p3 p4 : Int32) (b206 b207 b234 : Addr) : Array Slot := #[.val (.int p1), .val (.int p2), .val (.int p3), .val (.int p4), .val (.ref b206), .val (.ref b207), .val (.int (p1 &&& (7 : Int32))), .val (.int (p2 &&& (15 : Int32))), .val (.int ((p3 &&& (255 : Int32)).toUInt32.toUInt16.toUInt32.toInt32)), .val (.ref b234), .val .null, .val (.int (p4 &&& (3 : Int32))), .val (.int ((((p4.toUInt32 >>> ((2 : Int32) &&& 31).toUInt32).toInt32) &&& (255 : Int32)).toUInt32.toUInt16.toUInt32.toInt32))]
abbrev lo0_22 (p1 p2 p3 p4 : Int32) (b206 b207 b234 B235 : Addr) : Array Slot := #[.val (.int p1), .val (.int p2), .val (.int p3), .val (.int p4), .val (.ref b206), .val (.ref b207), .val (.int (p1 &&& (7 : Int32))), .val (.int (p2 &&& (15 : Int32))), .val (.int ((p3 &&& (255 : Int32)).toUInt32.toUInt16.toUInt32.toInt32)), .val (.ref b234), .val .null, .val (.ref B235), .val (.int ((((p4.toUInt32 >>> ((2 : Int32) &&& 31).toUInt32).toInt32) &&& (255 : Int32)).toUInt32.toUInt16.toUInt32.toInt32))]
abbrev lo0_23 (p1 p2 p3 p4 : Int32) (b206 b207 b239 : Addr) : Array Slot := #[.val (.int p1), .val (.int p2), .val (.int p3), .val (.int p4), .val (.ref b206), .val (.ref b207), .val (.int (p1 &&& (7 : Int32))), .val (.int (p2 &&& (15 : Int32))), .val (.int ((p3 &&& (255 : Int32)).toUInt32.toUInt16.toUInt32.toInt32)), .val (.ref b239), .unset, .val (.int (p4 &&& (3 : Int32))), .val (.int ((((p4.toUInt32 >>> ((2 : Int32) &&& 31).toUInt32).toInt32) &&& (255 : Int32)).toUInt32.toUInt16.toUInt32.toInt32))]
abbrev lo0_24 (p1 p2 p3 p4 : Int32) (b206 b207 b239 : Addr) : Array Slot := #[.val (.int p1), .val (.int p2), .val (.int p3), .val (.int p4), .val (.ref b206), .val (.ref b207), .val (.int (p1 &&& (7 : Int32))), .val (.int (p2 &&& (15 : Int32))), .val (.int ((p3 &&& (255 : Int32)).toUInt32.toUInt16.toUInt32.toInt32)), .val (.ref b239), .val .null, .val (.int (p4 &&& (3 : Int32))), .val (.int ((((p4.toUInt32 >>> ((2 : Int32) &&& 31).toUInt32).toInt32) &&& (255 : Int32)).toUInt32.toUInt16.toUInt32.toInt32))]
abbrev lo0_25 (p1 p2 p3 p4 : Int32) (b206 b207 b239 B240 : Addr) : Array Slot := #[.val (.int p1), .val (.int p2), .val (.int p3), .val (.int p4), .val (.ref b206), .val (.ref b207), .val (.int (p1 &&& (7 : Int32))), .val (.int (p2 &&& (15 : Int32))), .val (.int ((p3 &&& (255 : Int32)).toUInt32.toUInt16.toUInt32.toInt32)), .val (.ref b239), .val .null, .val (.ref B240), .val (.int ((((p4.toUInt32 >>> ((2 : Int32) &&& 31).toUInt32).toInt32) &&& (255 : Int32)).toUInt32.toUInt16.toUInt32.toInt32))]
abbrev lo0_26 (p1 p2 p3 p4 : Int32) (b206 b207 : Addr) : Array Slot := #[.val (.int p1), .val (.int p2), .val (.int p3), .val (.int p4), .val (.ref b206), .val (.ref b207), .val (.int (p1 &&& (7 : Int32))), .val (.int (p2 &&& (15 : Int32))), .val (.int ((p3 &&& (255 : Int32)).toUInt32.toUInt16.toUInt32.toInt32)), .val .null, .unset, .val (.int (p4 &&& (3 : Int32))), .val (.int ((((p4.toUInt32 >>> ((2 : Int32) &&& 31).toUInt32).toInt32) &&& (255 : Int32)).toUInt32.toUInt16.toUInt32.toInt32))]
abbrev lo0_27 (p1 p2 p3 p4 : Int32) (b206 b207 : Addr) : Array Slot := #[.val (.int p1), .val (.int p2), .val (.int p3), .val (.int p4), .val (.ref b206), .val (.ref b207), .val (.int (p1 &&& (7 : Int32))), .val (.int (p2 &&& (15 : Int32))), .val (.int ((p3 &&& (255 : Int32)).toUInt32.toUInt16.toUInt32.toInt32)), .val .null, .val .null, .val (.int (p4 &&& (3 : Int32))), .val (.int ((((p4.toUInt32 >>> ((2 : Int32) &&& 31).toUInt32).toInt32) &&& (255 : Int32)).toUInt32.toUInt16.toUInt32.toInt32))]
abbrev lo0_28 (p1 p2 p3 p4 : Int32) (b206 b207 B244 : Addr) : Array Slot := #[.val (.int p1), .val (.int p2), .val (.int p3), .val (.int p4), .val (.ref b206), .val (.ref b207), .val (.int (p1 &&& (7 : Int32))), .val (.int (p2 &&& (15 : Int32))), .val (.int ((p3 &&& (255 : Int32)).toUInt32.toUInt16.toUInt32.toInt32)), .val .null, .val .null, .val (.ref B244), .val (.int ((((p4.toUInt32 >>> ((2 : Int32) &&& 31).toUInt32).toInt32) &&& (255 : Int32)).toUInt32.toUInt16.toUInt32.toInt32))]
abbrev lo0_29 (p1 p2 p3 p4 : Int32) (b206 b207 b246 : Addr) : Array Slot := #[.val (.int p1), .val (.int p2), .val (.int p3), .val (.int p4), .val (.ref b206), .val (.ref b207), .val (.int (p1 &&& (7 : Int32))), .val (.int (p2 &&& (15 : Int32))), .val (.int ((p3 &&& (255 : Int32)).toUInt32.toUInt16.toUInt32.toInt32)), .val (.ref b246), .unset, .val (.int (p4 &&& (3 : Int32))), .val (.int ((((p4.toUInt32 >>> ((2 : Int32) &&& 31).toUInt32).toInt32) &&& (255 : Int32)).toUInt32.toUInt16.toUInt32.toInt32))]
abbrev lo0_30 (p1 p2 p3 p4 : Int32) (b206 b207 b246 : Addr) : Array Slot := #[.val (.int p1), .val (.int p2), .val (.int p3), .val (.int p4), .val (.ref b206), .val (.ref b207), .val (.int (p1 &&& (7 : Int32))), .val (.int (p2 &&& (15 : Int32))), .val (.int ((p3 &&& (255 : Int32)).toUInt32.toUInt16.toUInt32.toInt32)), .val (.ref b246), .val .null, .val (.int (p4 &&& (3 : Int32))), .val (.int ((((p4.toUInt32 >>> ((2 : Int32) &&& 31).toUInt32).toInt32) &&& (255 : Int32)).toUInt32.toUInt16.toUInt32.toInt32))]
abbrev lo0_31 (p1 p2 p3 p4 : Int32) (b206 b207 b246 B253 : Addr) : Array Slot := #[.val (.int p1), .val (.int p2), .val (.int p3), .val (.int p4), .val (.ref b206), .val (.ref b207), .val (.int (p1 &&& (7 : Int32))), .val (.int (p2 &&& (15 : Int32))), .val (.int ((p3 &&& (255 : Int32)).toUInt32.toUInt16.toUInt32.toInt32)), .val (.ref b246), .val .null, .val (.ref B253), .val (.int ((((p4.toUInt32 >>> ((2 : Int32) &&& 31).toUInt32).toInt32) &&& (255 : Int32)).toUInt32.toUInt16.toUInt32.toInt32))]
abbrev lo0_32 (p1 p2 p3 p4 : Int32) (b206 b207 b255 : Addr) : Array Slot := #[.val (.int p1), .val (.int p2), .val (.int p3), .val (.int p4), .val (.ref b206), .val (.ref b207), .val (.int (p1 &&& (7 : Int32))), .val (.int (p2 &&& (15 : Int32))), .val (.int ((p3 &&& (255 : Int32)).toUInt32.toUInt16.toUInt32.toInt32)), .val (.ref b255), .unset, .unset, .unset]
abbrev lo0_33 (p1 p2 p3 p4 : Int32) (b206 b207 b255 w_ABUSE_REPORTS : Addr) : Array Slot := #[.val (.int p1), .val (.int p2), .val (.int p3), .val (.int p4), .val (.ref b206), .val (.ref b207), .val (.int (p1 &&& (7 : Int32))), .val (.int (p2 &&& (15 : Int32))), .val (.int ((p3 &&& (255 : Int32)).toUInt32.toUInt16.toUInt32.toInt32)), .val (.ref b255), .val (.ref w_ABUSE_REPORTS), .unset, .unset]
abbrev lo0_34 (p1 p2 p3 p4 : Int32) (b206 b207 b255 w_ABUSE_REPORTS B262 : Addr) : Array Slot := #[.val (.int p1), .val (.int p2), .val (.int p3), .val (.int p4), .val (.ref b206), .val (.ref b207), .val (.int (p1 &&& (7 : Int32))), .val (.int (p2 &&& (15 : Int32))), .val (.int ((p3 &&& (255 : Int32)).toUInt32.toUInt16.toUInt32.toInt32)), .val (.ref b255), .val (.ref w_ABUSE_REPORTS), .val (.ref B262), .unset]
abbrev lo0_35 (p1 p2 p3 p4 : Int32) (b206 b207 b255 : Addr) : Array Slot := #[.val (.int p1), .val (.int p2), .val (.int p3), .val (.int p4), .val (.ref b206), .val (.ref b207), .val (.int (p1 &&& (7 : Int32))), .val (.int (p2 &&& (15 : Int32))), .val (.int ((p3 &&& (255 : Int32)).toUInt32.toUInt16.toUInt32.toInt32)), .val (.ref b255), .val .null, .unset, .unset]
abbrev lo0_36 (p1 p2 p3 p4 : Int32) (b206 b207 b255 B264 : Addr) : Array Slot := #[.val (.int p1), .val (.int p2), .val (.int p3), .val (.int p4), .val (.ref b206), .val (.ref b207), .val (.int (p1 &&& (7 : Int32))), .val (.int (p2 &&& (15 : Int32))), .val (.int ((p3 &&& (255 : Int32)).toUInt32.toUInt16.toUInt32.toInt32)), .val (.ref b255), .val .null, .val (.ref B264), .unset]
abbrev lo0_37 (p1 p2 p3 p4 : Int32) (b206 b207 b255 w_ABUSE_REPORTS B267 : Addr) : Array Slot := #[.val (.int p1), .val (.int p2), .val (.int p3), .val (.int p4), .val (.ref b206), .val (.ref b207), .val (.int (p1 &&& (7 : Int32))), .val (.int (p2 &&& (15 : Int32))), .val (.int ((p3 &&& (255 : Int32)).toUInt32.toUInt16.toUInt32.toInt32)), .val (.ref b255), .val (.ref w_ABUSE_REPORTS), .val (.ref B267), .unset]
abbrev lo0_38 (p1 p2 p3 p4 : Int32) (b206 b207 b269 : Addr) : Array Slot := #[.val (.int p1), .val (.int p2), .val (.int p3), .val (.int p4), .val (.ref b206), .val (.ref b207), .val (.int (p1 &&& (7 : Int32))), .val (.int (p2 &&& (15 : Int32))), .val (.int ((p3 &&& (255 : Int32)).toUInt32.toUInt16.toUInt32.toInt32)), .val (.ref b269), .unset, .unset, .unset]
abbrev lo0_39 (p1 p2 p3 p4 : Int32) (b206 b207 b269 w_MONITORING : Addr) : Array Slot := #[.val (.int p1), .val (.int p2), .val (.int p3), .val (.int p4), .val (.ref b206), .val (.ref b207), .val (.int (p1 &&& (7 : Int32))), .val (.int (p2 &&& (15 : Int32))), .val (.int ((p3 &&& (255 : Int32)).toUInt32.toUInt16.toUInt32.toInt32)), .val (.ref b269), .val (.ref w_MONITORING), .unset, .unset]
abbrev lo0_40 (p1 p2 p3 p4 : Int32) (b206 b207 b269 w_MONITORING B276 : Addr) : Array Slot := #[.val (.int p1), .val (.int p2), .val (.int p3), .val (.int p4), .val (.ref b206), .val (.ref b207), .val (.int (p1 &&& (7 : Int32))), .val (.int (p2 &&& (15 : Int32))), .val (.int ((p3 &&& (255 : Int32)).toUInt32.toUInt16.toUInt32.toInt32)), .val (.ref b269), .val (.ref w_MONITORING), .val (.ref B276), .unset]
abbrev lo0_41 (p1 p2 p3 p4 : Int32) (b206 b207 b269 : Addr) : Array Slot := #[.val (.int p1), .val (.int p2), .val (.int p3), .val (.int p4), .val (.ref b206), .val (.ref b207), .val (.int (p1 &&& (7 : Int32))), .val (.int (p2 &&& (15 : Int32))), .val (.int ((p3 &&& (255 : Int32)).toUInt32.toUInt16.toUInt32.toInt32)), .val (.ref b269), .val .null, .unset, .unset]
abbrev lo0_42 (p1 p2 p3 p4 : Int32) (b206 b207 b269 B278 : Addr) : Array Slot := #[.val (.int p1), .val (.int p2), .val (.int p3), .val (.int p4), .val (.ref b206), .val (.ref b207), .val (.int (p1 &&& (7 : Int32))), .val (.int (p2 &&& (15 : Int32))), .val (.int ((p3 &&& (255 : Int32)).toUInt32.toUInt16.toUInt32.toInt32)), .val (.ref b269), .val .null, .val (.ref B278), .unset]
abbrev lo0_43 (p1 p2 p3 p4 : Int32) (b206 b207 b269 w_MONITORING B281 : Addr) : Array Slot := #[.val (.int p1), .val (.int p2), .val (.int p3), .val (.int p4), .val (.ref b206), .val (.ref b207), .val (.int (p1 &&& (7 : Int32))), .val (.int (p2 &&& (15 : Int32))), .val (.int ((p3 &&& (255 : Int32)).toUInt32.toUInt16.toUInt32.toInt32)), .val (.ref b269), .val (.ref w_MONITORING), .val (.ref B281), .unset]
set_option maxRecDepth 65536 in
set_option maxHeartbeats 40000000 in
theorem rm0 (l : Launch) (Z : State) (a0 : Array Value) (hw : HW a0 Z) (ws : List Jvm.Cond) (p1 p2 p3 p4 : Int32) (kV : ClassId) (w__VALUES sM tM : Addr) (kM : ClassId) (sA tA : Addr) (kA : ClassId) (w_EMPTY : Addr) (w_COMPACT_STRINGS : Int32) (fm : Value) (w_MONITORING w_ABUSE_REPORTS : Addr) (h0 : Heap) (n0 : Nat) (Z0 : n0 ≤ h0.size) (S_MONITORING : Sta Z h0 "com/example/assay/assay/config/TlsClient$Role" "MONITORING" "Lcom/example/assay/assay/config/TlsClient$Role;" (.ref w_MONITORING)) (S_ABUSE_REPORTS : Sta Z h0 "com/example/assay/assay/config/TlsClient$Role" "ABUSE_REPORTS" "Lcom/example/assay/assay/config/TlsClient$Role;" (.ref w_ABUSE_REPORTS)) (S__VALUES : Sta Z h0 "com/example/assay/assay/config/TlsClient$Role" "$VALUES" "[Lcom/example/assay/assay/config/TlsClient$Role;" (.ref w__VALUES)) (S_EMPTY : Sta Z h0 "java/util/Optional" "EMPTY" "Ljava/util/Optional;" (.ref w_EMPTY)) (S_COMPACT_STRINGS : Sta Z h0 "java/lang/String" "COMPACT_STRINGS" "Z" (.int w_COMPACT_STRINGS)) (hz : ¬ w_COMPACT_STRINGS = 0) (S_SIOOBE_FORMATTER : Sta Z h0 "jdk/internal/util/Preconditions" "SIOOBE_FORMATTER" "Ljava/util/function/BiFunction;" fm) (rf : fm.isRef = true) (E_w__VALUES : Exa Z h0 w__VALUES "[Lcom/example/assay/assay/config/TlsClient$Role;") (V_w__VALUES : Arv Z h0 w__VALUES kV (.object "com/example/assay/assay/config/TlsClient$Role") (2 : Int32) [(.ref w_MONITORING), (.ref w_ABUSE_REPORTS)] .null) (F_jsonName_w_MONITORING : Fld Z h0 w_MONITORING "com/example/assay/assay/config/TlsClient$Role" "jsonName" "Ljava/lang/String;" (.ref sM)) (F_jsonName_w_ABUSE_REPORTS : Fld Z h0 w_ABUSE_REPORTS "com/example/assay/assay/config/TlsClient$Role" "jsonName" "Ljava/lang/String;" (.ref sA)) (E_sM : Exa Z h0 sM "java/lang/String") (F_coder_sM : Fld Z h0 sM "java/lang/String" "coder" "B" (.int (0 : Int32))) (F_value_sM : Fld Z h0 sM "java/lang/String" "value" "[B" (.ref tM)) (V_tM : Arv Z h0 tM kM .byte (10 : Int32) ((C1.map StrChars.lo8).map Value.int) (.int (0 : Int32))) (E_sA : Exa Z h0 sA "java/lang/String") (F_coder_sA : Fld Z h0 sA "java/lang/String" "coder" "B" (.int (0 : Int32))) (F_value_sA : Fld Z h0 sA "java/lang/String" "value" "[B" (.ref tA)) (V_tA : Arv Z h0 tA kA .byte (12 : Int32) ((C2.map StrChars.lo8).map Value.int) (.int (0 : Int32))) (E_w_EMPTY : Exa Z h0 w_EMPTY "java/util/Optional") (F_value_w_EMPTY : Fld Z h0 w_EMPTY "java/util/Optional" "value" "Ljava/lang/Object;" .null) :
    MFC l x code maxLocals ret ws room_1 #[(.int p1), (.int p2), (.int p3), (.int p4)] Z h0 (QL (some (.int (1 : Int32))) n0) := by
  refine MetFree.of_bodySF (plainFor_of_name pn_2) hisR ?_
  intro p e s m args below meth c s₁ Bd hml0 hP hK
  obtain ⟨rfl, hZ, hh, hCH⟩ := hP
  have hx := Bd.exec
  have hby := Bd.bytes
  have hml : c.maxLocals = 13 := hml0
  have hown : s.vm.findClass "com/example/assay/assay/config/RoleFromJsonNamePinLaw" = some m.cls := findClass_of_methodNamed Bd.named
  have hnm := (name_of_methodNamed Bd.named Bd.method).1
  have X0 : Stand p l e room_1 (s.setVm s.vm) m #[(.int p1), (.int p2), (.int p3), (.int p4)] below meth c s₁ [] 0 0 := Stand.of_body Bd
  have e0 : s₁.heap = h0 := by rw [← hh, Bd.state]; rfl
  have N0 := Fr.nil n0
  have pre0 : GO p e below (s₁.setTop (mkF m 0 #[.val (.int p1), .val (.int p2), .val (.int p3), .val (.int p4), .unset, .unset, .unset, .unset, .unset, .unset, .unset, .unset, .unset] [])) (s₁.setTop (entryFrame m #[(.int p1), (.int p2), (.int p3), (.int p4)] maxLocals)) := fun t k => castTop (ef_0 m p1 p2 p3 p4) k
  have hS := (State.WarmedH.refl s).since 0
  have hk : 0 ≤ h0.size := Nat.zero_le _
  have hws : ∀ d ∈ StrChars.Road.words, d.before a0 Z = true := fun d hd => hw d ((by decide +kernel : ∀ d ∈ StrChars.Road.words, d ∈ tables_1) d hd)
  have hch : ∀ d ∈ StrChars.Road.wordsChN, d.before a0 Z = true := fun d hd => hw d ((by decide +kernel : ∀ d ∈ StrChars.Road.wordsChN, d ∈ tables_1) d hd)
  have wS : ∀ d ∈ Bundle.stringAtoms, d.before a0 Z = true := fun d hd => hw d ((by decide +kernel : ∀ d ∈ Bundle.stringAtoms, d ∈ tables_1) d hd)
  have hEL := own_EW hw
  obtain ⟨b206, T206, h206, k206, B206, kb206, X206, e206, E206, hS, hk, hZ, hown, G206E, G206C, G206V, G206A, -, -, hCr206, -, -, st206⟩ := ldcCH X0 hx hZ hown (ww hw 0 rfl) wS e0 hS hk hEL (List.mem_of_getElem? (i := 0) rfl) hCH (vs := ((C1.map StrChars.lo8).map Value.int)) (z := (10 : Int32)) ⟨by decide, by rfl⟩ (by decide) (by decide) (g := (mkF m 0 (lo0_0 p1 p2 p3 p4) [])) rfl (hb hby at_0) (n := 40) (by decide) (by decide) (by decide) (by decide)
  replace hCH := hCr206.1
  replace E_w__VALUES := E_w__VALUES.ext E206
  replace V_w__VALUES := V_w__VALUES.ext E206
  replace F_jsonName_w_MONITORING := F_jsonName_w_MONITORING.ext E206
  replace F_jsonName_w_ABUSE_REPORTS := F_jsonName_w_ABUSE_REPORTS.ext E206
  replace E_sM := E_sM.ext E206
  replace F_coder_sM := F_coder_sM.ext E206
  replace F_value_sM := F_value_sM.ext E206
  replace V_tM := V_tM.ext E206
  replace E_sA := E_sA.ext E206
  replace F_coder_sA := F_coder_sA.ext E206
  replace F_value_sA := F_value_sA.ext E206
  replace V_tA := V_tA.ext E206
  replace E_w_EMPTY := E_w_EMPTY.ext E206
  replace F_value_w_EMPTY := F_value_w_EMPTY.ext E206
  replace S__VALUES := S__VALUES.ext E206
  replace S_EMPTY := S_EMPTY.ext E206
  replace S_COMPACT_STRINGS := S_COMPACT_STRINGS.ext E206
  replace S_SIOOBE_FORMATTER := S_SIOOBE_FORMATTER.ext E206
  replace S_MONITORING := S_MONITORING.ext E206
  replace S_ABUSE_REPORTS := S_ABUSE_REPORTS.ext E206
  replace Z0 := Nat.le_trans Z0 E206.1
  have E_b206 : Exa Z h206 b206 "java/lang/String" := G206E
  have F_coder_b206 : Fld Z h206 b206 "java/lang/String" "coder" "B" (.int (0 : Int32)) := G206C
  have F_value_b206 : Fld Z h206 b206 "java/lang/String" "value" "[B" (.ref B206) := G206V
  have V_B206 : Arv Z h206 B206 kb206 .byte (10 : Int32) ((C1.map StrChars.lo8).map Value.int) (.int (0 : Int32)) := G206A
  obtain ⟨b207, T207, h207, k207, B207, kb207, X207, e207, E207, hS, hk, hZ, hown, G207E, G207C, G207V, G207A, -, -, hCr207, -, -, st207⟩ := ldcCH X206 hx hZ hown (ww hw 8 rfl) wS e206 hS hk hEL (List.mem_of_getElem? (i := 1) rfl) hCH (vs := ((C2.map StrChars.lo8).map Value.int)) (z := (12 : Int32)) ⟨by decide, by rfl⟩ (by decide) (by decide) (g := (mkF m 4 (lo0_1 p1 p2 p3 p4 b206) [])) rfl (hb hby at_4) (n := 48) (by decide) (by decide) (by decide) (by decide)
  replace hCH := hCr207.1
  replace E_w__VALUES := E_w__VALUES.ext E207
  replace V_w__VALUES := V_w__VALUES.ext E207
  replace F_jsonName_w_MONITORING := F_jsonName_w_MONITORING.ext E207
  replace F_jsonName_w_ABUSE_REPORTS := F_jsonName_w_ABUSE_REPORTS.ext E207
  replace E_sM := E_sM.ext E207
  replace F_coder_sM := F_coder_sM.ext E207
  replace F_value_sM := F_value_sM.ext E207
  replace V_tM := V_tM.ext E207
  replace E_sA := E_sA.ext E207
  replace F_coder_sA := F_coder_sA.ext E207
  replace F_value_sA := F_value_sA.ext E207
  replace V_tA := V_tA.ext E207
  replace E_w_EMPTY := E_w_EMPTY.ext E207
  replace F_value_w_EMPTY := F_value_w_EMPTY.ext E207
  replace S__VALUES := S__VALUES.ext E207
  replace S_EMPTY := S_EMPTY.ext E207
  replace S_COMPACT_STRINGS := S_COMPACT_STRINGS.ext E207
  replace S_SIOOBE_FORMATTER := S_SIOOBE_FORMATTER.ext E207
  replace S_MONITORING := S_MONITORING.ext E207
  replace S_ABUSE_REPORTS := S_ABUSE_REPORTS.ext E207
  replace E_b206 := E_b206.ext E207
  replace F_coder_b206 := F_coder_b206.ext E207
  replace F_value_b206 := F_value_b206.ext E207
  replace V_B206 := V_B206.ext E207
  replace Z0 := Nat.le_trans Z0 E207.1
  have E_b207 : Exa Z h207 b207 "java/lang/String" := G207E
  have F_coder_b207 : Fld Z h207 b207 "java/lang/String" "coder" "B" (.int (0 : Int32)) := G207C
  have F_value_b207 : Fld Z h207 b207 "java/lang/String" "value" "[B" (.ref B207) := G207V
  have V_B207 : Arv Z h207 B207 kb207 .byte (12 : Int32) ((C2.map StrChars.lo8).map Value.int) (.int (0 : Int32)) := G207A
  have pre209 : GO p e below (T207.setTop (mkF m 31 (lo0_5 p1 p2 p3 p4 b206 b207) [(.int (1 : Int32)), (.int (p1 &&& (7 : Int32)))])) (s₁.setTop (entryFrame m #[(.int p1), (.int p2), (.int p3), (.int p4)] maxLocals)) := fun t k => by
    refine pre0 _ ?_
    refine st206 _ ?_
    show Steps p.tables e below (T206.setTop (mkF m 2 (lo0_0 p1 p2 p3 p4) [(.ref b206)])) _
    refine y_astore X206 hx hby at_2 rfl (l' := (lo0_1 p1 p2 p3 p4 b206)) rfl ?_
    refine st207 _ ?_
    show Steps p.tables e below (T207.setTop (mkF m 6 (lo0_1 p1 p2 p3 p4 b206) [(.ref b207)])) _
    refine y_astore X207 hx hby at_6 rfl (l' := (lo0_2 p1 p2 p3 p4 b206 b207)) rfl ?_
    refine y_iloadN X207 hx hby at_8 rfl ?_
    refine y_bipush X207 hx hby (v := (7 : Int32)) at_9 rfl ?_
    refine y_iand X207 hx hby at_11 ?_
    refine y_istore X207 hx hby at_12 (l' := (lo0_3 p1 p2 p3 p4 b206 b207)) rfl ?_
    refine y_iloadN X207 hx hby at_14 rfl ?_
    refine y_bipush X207 hx hby (v := (15 : Int32)) at_15 rfl ?_
    refine y_iand X207 hx hby at_17 ?_
    refine y_istore X207 hx hby at_18 (l' := (lo0_4 p1 p2 p3 p4 b206 b207)) rfl ?_
    refine y_iloadN X207 hx hby at_20 rfl ?_
    refine y_sipush X207 hx hby (v := (255 : Int32)) at_21 rfl ?_
    refine y_iand X207 hx hby at_24 ?_
    refine y_i2c X207 hx hby at_25 ?_
    refine y_istore X207 hx hby at_26 (l' := (lo0_5 p1 p2 p3 p4 b206 b207)) rfl ?_
    refine y_iload X207 hx hby at_28 rfl ?_
    refine y_iconst X207 hx hby (v := (1 : Int32)) at_30 rfl ?_
    exact k
  by_cases hc208 : (1 : Int32) < (p1 &&& (7 : Int32))
  · have pre211 : GO p e below (T207.setTop (mkF m 81 (lo0_5 p1 p2 p3 p4 b206 b207) [(.int (3 : Int32)), (.int (p1 &&& (7 : Int32)))])) (s₁.setTop (entryFrame m #[(.int p1), (.int p2), (.int p3), (.int p4)] maxLocals)) := fun t k => by
      refine pre209 _ ?_
      refine y_icmpYes X207 hx hby (pc' := 78) at_31 (tlt hc208).2.2.1 (by decide) (by decide) ?_
      refine y_iload X207 hx hby at_78 rfl ?_
      refine y_iconst X207 hx hby (v := (3 : Int32)) at_80 rfl ?_
      exact k
    by_cases hc210 : (3 : Int32) < (p1 &&& (7 : Int32))
    · have pre213 : GO p e below (T207.setTop (mkF m 131 (lo0_5 p1 p2 p3 p4 b206 b207) [(.int (4 : Int32)), (.int (p1 &&& (7 : Int32)))])) (s₁.setTop (entryFrame m #[(.int p1), (.int p2), (.int p3), (.int p4)] maxLocals)) := fun t k => by
        refine pre211 _ ?_
        refine y_icmpYes X207 hx hby (pc' := 128) at_81 (tlt hc210).2.2.1 (by decide) (by decide) ?_
        refine y_iload X207 hx hby at_128 rfl ?_
        refine y_iconst X207 hx hby (v := (4 : Int32)) at_130 rfl ?_
        exact k
      by_cases hc212 : (p1 &&& (7 : Int32)) = (4 : Int32)
      · obtain ⟨_, _, ⟨T214, L214, k214, n214⟩, -, X214, ⟨Lc214, hQ214, l214, y214, z214⟩, st214⟩ := Jvm.LawKit.callS X207 hx (y := mn4) hown (mvT hZ (ww hw 9 rfl)) (mvT hZ (ww hw 10 rfl)) (mvT hZ (ww hw 11 rfl)) (mvT hZ (ww hw 12 rfl)) (by decide) (backOf (W := 0) (rm1_11 l Z a0 hw [] b206 (p2 &&& (15 : Int32)) ((p3 &&& (255 : Int32)).toUInt32.toUInt16.toUInt32.toInt32) B206 kb206 (10 : Int32) ((C1.map StrChars.lo8).map Value.int) C1 w_COMPACT_STRINGS fm h207 n0 Z0 S_COMPACT_STRINGS hz S_SIOOBE_FORMATTER rf (own_cod (n := 10) rfl own_rc1) own_rc1 (by decide) (own_char p3) E_b206 F_coder_b206 F_value_b206 V_B206) hZ (ww hw 12 rfl) (ww hw 11 rfl) (by decide) (by decide)) (g := (mkF m 142 (lo0_5 p1 p2 p3 p4 b206 b207) [(.int (11 : Int32)), (.int ((p3 &&& (255 : Int32)).toUInt32.toUInt16.toUInt32.toInt32)), (.int (p2 &&& (15 : Int32))), (.ref b206)])) rfl (by rw [hml]; rfl) (argsL := [(.ref b206), (.int (p2 &&& (15 : Int32))), (.int ((p3 &&& (255 : Int32)).toUInt32.toUInt16.toUInt32.toInt32)), (.int (11 : Int32))]) (rest := []) (lenOf pd_13 rfl) rfl (by show 2 * 0 + _ ≤ _; exact Nat.le_of_eq rfl) (hb hby at_142) (fun _ _ => ⟨rfl, e207, (by decide : 4 + 3 ≤ _), (by decide : 96 + 26 ≤ _)⟩)
        dsimp only [Pt.U, Pt.locs, Pt.cells, Pt.slots] at X214 l214 y214 z214 st214 hQ214
        rw [l214, y214, z214] at X214
        obtain ⟨h214, e214⟩ : ∃ z, T214.heap = z := ⟨_, rfl⟩
        rw [e214] at hQ214
        obtain ⟨b214, B214, kb214, rfl, N214q, K214, szx214, szt214, G214E, G214C, G214V, G214A⟩ := hQ214
        have g_b214 : n0 ≤ b214 := Nat.le_trans Z0 szx214
        have ne_w__VALUES_b214 : w__VALUES ≠ b214 := Nat.ne_of_lt (Nat.lt_of_lt_of_le E_w__VALUES.lt szx214)
        have ne_sM_b214 : sM ≠ b214 := Nat.ne_of_lt (Nat.lt_of_lt_of_le E_sM.lt szx214)
        have ne_tM_b214 : tM ≠ b214 := Nat.ne_of_lt (Nat.lt_of_lt_of_le V_tM.lt szx214)
        have ne_sA_b214 : sA ≠ b214 := Nat.ne_of_lt (Nat.lt_of_lt_of_le E_sA.lt szx214)
        have ne_tA_b214 : tA ≠ b214 := Nat.ne_of_lt (Nat.lt_of_lt_of_le V_tA.lt szx214)
        have ne_w_EMPTY_b214 : w_EMPTY ≠ b214 := Nat.ne_of_lt (Nat.lt_of_lt_of_le E_w_EMPTY.lt szx214)
        have ne_w_MONITORING_b214 : w_MONITORING ≠ b214 := Nat.ne_of_lt (Nat.lt_of_lt_of_le F_jsonName_w_MONITORING.lt szx214)
        have ne_w_ABUSE_REPORTS_b214 : w_ABUSE_REPORTS ≠ b214 := Nat.ne_of_lt (Nat.lt_of_lt_of_le F_jsonName_w_ABUSE_REPORTS.lt szx214)
        have ne_b206_b214 : b206 ≠ b214 := Nat.ne_of_lt (Nat.lt_of_lt_of_le E_b206.lt szx214)
        have ne_B206_b214 : B206 ≠ b214 := Nat.ne_of_lt (Nat.lt_of_lt_of_le V_B206.lt szx214)
        have ne_b207_b214 : b207 ≠ b214 := Nat.ne_of_lt (Nat.lt_of_lt_of_le E_b207.lt szx214)
        have ne_B207_b214 : B207 ≠ b214 := Nat.ne_of_lt (Nat.lt_of_lt_of_le V_B207.lt szx214)
        have g_B214 : n0 ≤ B214 := Nat.le_trans Z0 szt214
        have ne_w__VALUES_B214 : w__VALUES ≠ B214 := Nat.ne_of_lt (Nat.lt_of_lt_of_le E_w__VALUES.lt szt214)
        have ne_sM_B214 : sM ≠ B214 := Nat.ne_of_lt (Nat.lt_of_lt_of_le E_sM.lt szt214)
        have ne_tM_B214 : tM ≠ B214 := Nat.ne_of_lt (Nat.lt_of_lt_of_le V_tM.lt szt214)
        have ne_sA_B214 : sA ≠ B214 := Nat.ne_of_lt (Nat.lt_of_lt_of_le E_sA.lt szt214)
        have ne_tA_B214 : tA ≠ B214 := Nat.ne_of_lt (Nat.lt_of_lt_of_le V_tA.lt szt214)
        have ne_w_EMPTY_B214 : w_EMPTY ≠ B214 := Nat.ne_of_lt (Nat.lt_of_lt_of_le E_w_EMPTY.lt szt214)
        have ne_w_MONITORING_B214 : w_MONITORING ≠ B214 := Nat.ne_of_lt (Nat.lt_of_lt_of_le F_jsonName_w_MONITORING.lt szt214)
        have ne_w_ABUSE_REPORTS_B214 : w_ABUSE_REPORTS ≠ B214 := Nat.ne_of_lt (Nat.lt_of_lt_of_le F_jsonName_w_ABUSE_REPORTS.lt szt214)
        have ne_b206_B214 : b206 ≠ B214 := Nat.ne_of_lt (Nat.lt_of_lt_of_le E_b206.lt szt214)
        have ne_B206_B214 : B206 ≠ B214 := Nat.ne_of_lt (Nat.lt_of_lt_of_le V_B206.lt szt214)
        have ne_b207_B214 : b207 ≠ B214 := Nat.ne_of_lt (Nat.lt_of_lt_of_le E_b207.lt szt214)
        have ne_B207_B214 : B207 ≠ B214 := Nat.ne_of_lt (Nat.lt_of_lt_of_le V_B207.lt szt214)
        replace S__VALUES := own_stakeep S__VALUES K214 ns0
        replace S_EMPTY := own_stakeep S_EMPTY K214 ns0
        replace S_COMPACT_STRINGS := own_stakeep S_COMPACT_STRINGS K214 ns0
        replace S_SIOOBE_FORMATTER := own_stakeep S_SIOOBE_FORMATTER K214 ns0
        replace S_MONITORING := own_stakeep S_MONITORING K214 ns0
        replace S_ABUSE_REPORTS := own_stakeep S_ABUSE_REPORTS K214 ns0
        replace E_w__VALUES := E_w__VALUES.keep K214
        replace V_w__VALUES := V_w__VALUES.keep K214 nin0
        replace F_jsonName_w_MONITORING := F_jsonName_w_MONITORING.keep K214 nin0
        replace F_jsonName_w_ABUSE_REPORTS := F_jsonName_w_ABUSE_REPORTS.keep K214 nin0
        replace E_sM := E_sM.keep K214
        replace F_coder_sM := F_coder_sM.keep K214 nin0
        replace F_value_sM := F_value_sM.keep K214 nin0
        replace V_tM := V_tM.keep K214 nin0
        replace E_sA := E_sA.keep K214
        replace F_coder_sA := F_coder_sA.keep K214 nin0
        replace F_value_sA := F_value_sA.keep K214 nin0
        replace V_tA := V_tA.keep K214 nin0
        replace E_w_EMPTY := E_w_EMPTY.keep K214
        replace F_value_w_EMPTY := F_value_w_EMPTY.keep K214 nin0
        replace E_b206 := E_b206.keep K214
        replace F_coder_b206 := F_coder_b206.keep K214 nin0
        replace F_value_b206 := F_value_b206.keep K214 nin0
        replace V_B206 := V_B206.keep K214 nin0
        replace E_b207 := E_b207.keep K214
        replace F_coder_b207 := F_coder_b207.keep K214 nin0
        replace F_value_b207 := F_value_b207.keep K214 nin0
        replace V_B207 := V_B207.keep K214 nin0
        replace Z0 := Nat.le_trans Z0 K214.1
        replace hk := Nat.le_trans hk K214.1
        have E_b214 : Exa Z h214 b214 "java/lang/String" := G214E
        have F_coder_b214 : Fld Z h214 b214 "java/lang/String" "coder" "B" (.int (0 : Int32)) := G214C
        have F_value_b214 : Fld Z h214 b214 "java/lang/String" "value" "[B" (.ref B214) := G214V
        have V_B214 : Arv Z h214 B214 kb214 .byte (11 : Int32) (((mkl C1 (p2 &&& (15 : Int32)) ((p3 &&& (255 : Int32)).toUInt32.toUInt16.toUInt32.toInt32) 11).map StrChars.lo8).map Value.int) (.int (0 : Int32)) := G214A
        have N214 := Fr.app N0 N214q
        obtain ⟨_, _, ⟨T215, L215, k215, n215⟩, -, X215, ⟨Lc215, hQ215, l215, y215, z215⟩, st215⟩ := Jvm.LawKit.callS X214 hx (y := mn16) hown (mvT hZ (ww hw 73 rfl)) (mvT hZ (ww hw 74 rfl)) (mvT hZ (ww hw 75 rfl)) (mvT hZ (ww hw 76 rfl)) (by decide) (backOf (W := 0) (rm16_s l Z a0 hw [] b214 B214 kb214 (11 : Int32) (((mkl C1 (p2 &&& (15 : Int32)) ((p3 &&& (255 : Int32)).toUInt32.toUInt16.toUInt32.toInt32) 11).map StrChars.lo8).map Value.int) (mkl C1 (p2 &&& (15 : Int32)) ((p3 &&& (255 : Int32)).toUInt32.toUInt16.toUInt32.toInt32) 11) w_MONITORING w_ABUSE_REPORTS kV w__VALUES sM tM kM sA tA kA w_EMPTY w_COMPACT_STRINGS h214 n0 Z0 S__VALUES S_EMPTY S_COMPACT_STRINGS hz (own_cod (n := 11) (own_mklen _ _ _ 11) (own_mkr own_rc1 (own_char p3) 11)) (own_mkr own_rc1 (own_char p3) 11) (by rw [own_mklen]; decide) E_b214 F_coder_b214 F_value_b214 V_B214 E_w__VALUES V_w__VALUES F_jsonName_w_MONITORING F_jsonName_w_ABUSE_REPORTS E_sM F_coder_sM F_value_sM V_tM E_sA F_coder_sA F_value_sA V_tA E_w_EMPTY F_value_w_EMPTY) hZ (ww hw 76 rfl) (ww hw 75 rfl) (by decide) (by decide)) (g := (mkF m 299 (lo0_7 p1 p2 p3 p4 b206 b207 b214) [(.ref b214)])) rfl (by rw [hml]; rfl) (argsL := [(.ref b214)]) (rest := []) (lenOf pd_14 rfl) rfl (by show 2 * 0 + _ ≤ _; exact Nat.le_of_eq rfl) (hb hby at_299) (fun _ _ => ⟨rfl, e214, (by decide : 7 + 2 ≤ _), (by decide : 122 + 3 ≤ _)⟩)
        dsimp only [Pt.U, Pt.locs, Pt.cells, Pt.slots] at X215 l215 y215 z215 st215 hQ215
        rw [l215, y215, z215] at X215
        obtain ⟨h215, e215⟩ : ∃ z, T215.heap = z := ⟨_, rfl⟩
        rw [e215] at hQ215
        obtain ⟨B215, w215, rfl, N215q, K215, G215E, G215V, G215R⟩ := hQ215
        replace S__VALUES := own_stakeep S__VALUES K215 ns0
        replace S_EMPTY := own_stakeep S_EMPTY K215 ns0
        replace S_COMPACT_STRINGS := own_stakeep S_COMPACT_STRINGS K215 ns0
        replace S_SIOOBE_FORMATTER := own_stakeep S_SIOOBE_FORMATTER K215 ns0
        replace S_MONITORING := own_stakeep S_MONITORING K215 ns0
        replace S_ABUSE_REPORTS := own_stakeep S_ABUSE_REPORTS K215 ns0
        replace E_w__VALUES := E_w__VALUES.keep K215
        replace V_w__VALUES := V_w__VALUES.keep K215 nin0
        replace F_jsonName_w_MONITORING := F_jsonName_w_MONITORING.keep K215 nin0
        replace F_jsonName_w_ABUSE_REPORTS := F_jsonName_w_ABUSE_REPORTS.keep K215 nin0
        replace E_sM := E_sM.keep K215
        replace F_coder_sM := F_coder_sM.keep K215 nin0
        replace F_value_sM := F_value_sM.keep K215 nin0
        replace V_tM := V_tM.keep K215 nin0
        replace E_sA := E_sA.keep K215
        replace F_coder_sA := F_coder_sA.keep K215 nin0
        replace F_value_sA := F_value_sA.keep K215 nin0
        replace V_tA := V_tA.keep K215 nin0
        replace E_w_EMPTY := E_w_EMPTY.keep K215
        replace F_value_w_EMPTY := F_value_w_EMPTY.keep K215 nin0
        replace E_b206 := E_b206.keep K215
        replace F_coder_b206 := F_coder_b206.keep K215 nin0
        replace F_value_b206 := F_value_b206.keep K215 nin0
        replace V_B206 := V_B206.keep K215 nin0
        replace E_b207 := E_b207.keep K215
        replace F_coder_b207 := F_coder_b207.keep K215 nin0
        replace F_value_b207 := F_value_b207.keep K215 nin0
        replace V_B207 := V_B207.keep K215 nin0
        replace E_b214 := E_b214.keep K215
        replace F_coder_b214 := F_coder_b214.keep K215 nin0
        replace F_value_b214 := F_value_b214.keep K215 nin0
        replace V_B214 := V_B214.keep K215 nin0
        replace Z0 := Nat.le_trans Z0 K215.1
        replace hk := Nat.le_trans hk K215.1
        have G215R := own_rvN G215R (own_mkl (by decide)) (own_mkl (by decide))
        subst G215R
        have E_B215 : Exa Z h215 B215 "java/util/Optional" := G215E
        have F_value_B215 : Fld Z h215 B215 "java/util/Optional" "value" "Ljava/lang/Object;" .null := G215V
        have N215 := Fr.app N214 N215q
        obtain ⟨cq216, kq216, q216a, q216b, q216c⟩ := isOf hZ e215 E_B215
        obtain ⟨_, _, ⟨T216, L216, k216, n216⟩, -, X216, ⟨Lc216, hQ216, l216, y216, z216⟩, st216⟩ := X215.virtualBack hx (y := mn10) (z := mn10) hown (mvT hZ (ww hw 110 rfl)) (mvT hZ (ww hw 111 rfl)) (notFace_of_selects (args := #[]) (mvT hZ (ww hw 113 rfl))) (mvT hZ (ww hw 113 rfl)) (mvT hZ (ww hw 112 rfl)) (by decide) (backOf (W := 0) (rm21_n l Z a0 hw [] B215 h215 n0 Z0 F_value_B215) hZ (ww hw 114 rfl) (ww hw 107 rfl) (by decide) (by decide)) q216a q216c (g := (mkF m 314 (lo0_8 p1 p2 p3 p4 b206 b207 b214 B215) [.null, (.ref B215)])) rfl (by rw [hml]; rfl) (Steps.refl _) (argsL := [.null]) (rest := []) (lenOf pd_4 rfl) rfl (by show 2 * 0 + _ ≤ _; exact Nat.le_of_eq rfl) (hb hby at_314) (fun _ _ => ⟨rfl, e215, (by decide : 9 + 0 ≤ _), (by decide : 125 + 0 ≤ _)⟩)
        dsimp only [Pt.U, Pt.locs, Pt.cells, Pt.slots] at X216 l216 y216 z216 st216 hQ216
        rw [l216, y216, z216] at X216
        obtain ⟨rfl, N216q, e216⟩ := hQ216
        have N216 := Fr.app N215 N216q
        obtain ⟨fs, hr, hrun, hended, hEW⟩ := X216.leaveW hS (by rw [e216]; exact hk) (v := some (.int (1 : Int32))) (fun h => by rw [Bd.returns] at h; cases h)
        refine ⟨_, _, pre213 _ ?_, hrun, hended, _, _, rfl, ?_, hEW.1, hEW.2.1, hEW.2.2.1, hEW.2.2.2.mono (by decide) (by decide)⟩
        · refine y_icmpNo X207 hx hby at_131 (teq hc212).2 ?_
          refine y_aload X207 hx hby at_134 rfl rfl ?_
          refine y_iload X207 hx hby at_136 rfl ?_
          refine y_iload X207 hx hby at_138 rfl ?_
          refine y_bipush X207 hx hby (v := (11 : Int32)) at_140 rfl ?_
          refine st214 _ ?_
          show Steps p.tables e below (T214.setTop (mkF m 145 (lo0_5 p1 p2 p3 p4 b206 b207) [(.ref b214)])) _
          refine y_astore X214 hx hby at_145 rfl (l' := (lo0_6 p1 p2 p3 p4 b206 b207 b214)) rfl ?_
          refine y_aconstNull X214 hx hby at_147 ?_
          refine y_astore X214 hx hby at_148 rfl (l' := (lo0_7 p1 p2 p3 p4 b206 b207 b214)) rfl ?_
          refine y_goto X214 hx hby (pc' := 297) at_150 (by decide) (by decide) ?_
          refine y_aload X214 hx hby at_297 rfl rfl ?_
          refine st215 _ ?_
          show Steps p.tables e below (T215.setTop (mkF m 302 (lo0_7 p1 p2 p3 p4 b206 b207 b214) [(.ref B215)])) _
          refine y_astore X215 hx hby at_302 rfl (l' := (lo0_8 p1 p2 p3 p4 b206 b207 b214 B215)) rfl ?_
          refine y_aload X215 hx hby at_304 rfl rfl ?_
          refine y_ifnonnullYes X215 hx hby (pc' := 311) at_306 (by decide) (by decide) ?_
          refine y_aload X215 hx hby at_311 rfl rfl ?_
          refine y_aconstNull X215 hx hby at_313 ?_
          refine st216.trans ?_
          show Steps p.tables e below (T216.setTop (mkF m 317 (lo0_8 p1 p2 p3 p4 b206 b207 b214 B215) [.null])) _
          refine y_aload X216 hx hby at_317 rfl rfl ?_
          show Steps p.tables e below (T216.setTop (mkF m 319 (lo0_8 p1 p2 p3 p4 b206 b207 b214 B215) [.null, .null])) _
          refine Jvm.RoadKit.acmp (g := (mkF m 319 (lo0_8 p1 p2 p3 p4 b206 b207 b214 B215) [.null, .null])) X216 hx rfl rfl rfl (pc0 := 319) (pc' := 322) (same := true) rfl (hb hby at_319) rfl (decide_eq_true rfl) (by decide) (by decide) ?_
          show Steps p.tables e below (T216.setTop (mkF m 322 (lo0_8 p1 p2 p3 p4 b206 b207 b214 B215) [])) _
          refine y_iconst X216 hx hby (v := (1 : Int32)) at_322 rfl ?_
          refine y_goto X216 hx hby (pc' := 327) at_323 (by decide) (by decide) ?_
          exact retN X216 hx (t := .boolean) Bd.returns (by simp) (hb hby at_327) hr
        · exact ⟨rfl, N216⟩
      · have pre218 : GO p e below (T207.setTop (mkF m 156 (lo0_5 p1 p2 p3 p4 b206 b207) [(.int (5 : Int32)), (.int (p1 &&& (7 : Int32)))])) (s₁.setTop (entryFrame m #[(.int p1), (.int p2), (.int p3), (.int p4)] maxLocals)) := fun t k => by
          refine pre213 _ ?_
          refine y_icmpYes X207 hx hby (pc' := 153) at_131 (feq hc212).2 (by decide) (by decide) ?_
          refine y_iload X207 hx hby at_153 rfl ?_
          refine y_iconst X207 hx hby (v := (5 : Int32)) at_155 rfl ?_
          exact k
        by_cases hc217 : (p1 &&& (7 : Int32)) = (5 : Int32)
        · obtain ⟨_, _, ⟨T219, L219, k219, n219⟩, -, X219, ⟨Lc219, hQ219, l219, y219, z219⟩, st219⟩ := Jvm.LawKit.callS X207 hx (y := mn4) hown (mvT hZ (ww hw 9 rfl)) (mvT hZ (ww hw 10 rfl)) (mvT hZ (ww hw 11 rfl)) (mvT hZ (ww hw 12 rfl)) (by decide) (backOf (W := 0) (rm1_13 l Z a0 hw [] b207 (p2 &&& (15 : Int32)) ((p3 &&& (255 : Int32)).toUInt32.toUInt16.toUInt32.toInt32) B207 kb207 (12 : Int32) ((C2.map StrChars.lo8).map Value.int) C2 w_COMPACT_STRINGS fm h207 n0 Z0 S_COMPACT_STRINGS hz S_SIOOBE_FORMATTER rf (own_cod (n := 12) rfl own_rc2) own_rc2 (by decide) (own_char p3) E_b207 F_coder_b207 F_value_b207 V_B207) hZ (ww hw 12 rfl) (ww hw 11 rfl) (by decide) (by decide)) (g := (mkF m 167 (lo0_5 p1 p2 p3 p4 b206 b207) [(.int (13 : Int32)), (.int ((p3 &&& (255 : Int32)).toUInt32.toUInt16.toUInt32.toInt32)), (.int (p2 &&& (15 : Int32))), (.ref b207)])) rfl (by rw [hml]; rfl) (argsL := [(.ref b207), (.int (p2 &&& (15 : Int32))), (.int ((p3 &&& (255 : Int32)).toUInt32.toUInt16.toUInt32.toInt32)), (.int (13 : Int32))]) (rest := []) (lenOf pd_13 rfl) rfl (by show 2 * 0 + _ ≤ _; exact Nat.le_of_eq rfl) (hb hby at_167) (fun _ _ => ⟨rfl, e207, (by decide : 4 + 3 ≤ _), (by decide : 96 + 30 ≤ _)⟩)
          dsimp only [Pt.U, Pt.locs, Pt.cells, Pt.slots] at X219 l219 y219 z219 st219 hQ219
          rw [l219, y219, z219] at X219
          obtain ⟨h219, e219⟩ : ∃ z, T219.heap = z := ⟨_, rfl⟩
          rw [e219] at hQ219
          obtain ⟨b219, B219, kb219, rfl, N219q, K219, szx219, szt219, G219E, G219C, G219V, G219A⟩ := hQ219
          have g_b219 : n0 ≤ b219 := Nat.le_trans Z0 szx219
          have ne_w__VALUES_b219 : w__VALUES ≠ b219 := Nat.ne_of_lt (Nat.lt_of_lt_of_le E_w__VALUES.lt szx219)
          have ne_sM_b219 : sM ≠ b219 := Nat.ne_of_lt (Nat.lt_of_lt_of_le E_sM.lt szx219)
          have ne_tM_b219 : tM ≠ b219 := Nat.ne_of_lt (Nat.lt_of_lt_of_le V_tM.lt szx219)
          have ne_sA_b219 : sA ≠ b219 := Nat.ne_of_lt (Nat.lt_of_lt_of_le E_sA.lt szx219)
          have ne_tA_b219 : tA ≠ b219 := Nat.ne_of_lt (Nat.lt_of_lt_of_le V_tA.lt szx219)
          have ne_w_EMPTY_b219 : w_EMPTY ≠ b219 := Nat.ne_of_lt (Nat.lt_of_lt_of_le E_w_EMPTY.lt szx219)
          have ne_w_MONITORING_b219 : w_MONITORING ≠ b219 := Nat.ne_of_lt (Nat.lt_of_lt_of_le F_jsonName_w_MONITORING.lt szx219)
          have ne_w_ABUSE_REPORTS_b219 : w_ABUSE_REPORTS ≠ b219 := Nat.ne_of_lt (Nat.lt_of_lt_of_le F_jsonName_w_ABUSE_REPORTS.lt szx219)
          have ne_b206_b219 : b206 ≠ b219 := Nat.ne_of_lt (Nat.lt_of_lt_of_le E_b206.lt szx219)
          have ne_B206_b219 : B206 ≠ b219 := Nat.ne_of_lt (Nat.lt_of_lt_of_le V_B206.lt szx219)
          have ne_b207_b219 : b207 ≠ b219 := Nat.ne_of_lt (Nat.lt_of_lt_of_le E_b207.lt szx219)
          have ne_B207_b219 : B207 ≠ b219 := Nat.ne_of_lt (Nat.lt_of_lt_of_le V_B207.lt szx219)
          have g_B219 : n0 ≤ B219 := Nat.le_trans Z0 szt219
          have ne_w__VALUES_B219 : w__VALUES ≠ B219 := Nat.ne_of_lt (Nat.lt_of_lt_of_le E_w__VALUES.lt szt219)
          have ne_sM_B219 : sM ≠ B219 := Nat.ne_of_lt (Nat.lt_of_lt_of_le E_sM.lt szt219)
          have ne_tM_B219 : tM ≠ B219 := Nat.ne_of_lt (Nat.lt_of_lt_of_le V_tM.lt szt219)
          have ne_sA_B219 : sA ≠ B219 := Nat.ne_of_lt (Nat.lt_of_lt_of_le E_sA.lt szt219)
          have ne_tA_B219 : tA ≠ B219 := Nat.ne_of_lt (Nat.lt_of_lt_of_le V_tA.lt szt219)
          have ne_w_EMPTY_B219 : w_EMPTY ≠ B219 := Nat.ne_of_lt (Nat.lt_of_lt_of_le E_w_EMPTY.lt szt219)
          have ne_w_MONITORING_B219 : w_MONITORING ≠ B219 := Nat.ne_of_lt (Nat.lt_of_lt_of_le F_jsonName_w_MONITORING.lt szt219)
          have ne_w_ABUSE_REPORTS_B219 : w_ABUSE_REPORTS ≠ B219 := Nat.ne_of_lt (Nat.lt_of_lt_of_le F_jsonName_w_ABUSE_REPORTS.lt szt219)
          have ne_b206_B219 : b206 ≠ B219 := Nat.ne_of_lt (Nat.lt_of_lt_of_le E_b206.lt szt219)
          have ne_B206_B219 : B206 ≠ B219 := Nat.ne_of_lt (Nat.lt_of_lt_of_le V_B206.lt szt219)
          have ne_b207_B219 : b207 ≠ B219 := Nat.ne_of_lt (Nat.lt_of_lt_of_le E_b207.lt szt219)
          have ne_B207_B219 : B207 ≠ B219 := Nat.ne_of_lt (Nat.lt_of_lt_of_le V_B207.lt szt219)
          replace S__VALUES := own_stakeep S__VALUES K219 ns0
          replace S_EMPTY := own_stakeep S_EMPTY K219 ns0
          replace S_COMPACT_STRINGS := own_stakeep S_COMPACT_STRINGS K219 ns0
          replace S_SIOOBE_FORMATTER := own_stakeep S_SIOOBE_FORMATTER K219 ns0
          replace S_MONITORING := own_stakeep S_MONITORING K219 ns0
          replace S_ABUSE_REPORTS := own_stakeep S_ABUSE_REPORTS K219 ns0
          replace E_w__VALUES := E_w__VALUES.keep K219
          replace V_w__VALUES := V_w__VALUES.keep K219 nin0
          replace F_jsonName_w_MONITORING := F_jsonName_w_MONITORING.keep K219 nin0
          replace F_jsonName_w_ABUSE_REPORTS := F_jsonName_w_ABUSE_REPORTS.keep K219 nin0
          replace E_sM := E_sM.keep K219
          replace F_coder_sM := F_coder_sM.keep K219 nin0
          replace F_value_sM := F_value_sM.keep K219 nin0
          replace V_tM := V_tM.keep K219 nin0
          replace E_sA := E_sA.keep K219
          replace F_coder_sA := F_coder_sA.keep K219 nin0
          replace F_value_sA := F_value_sA.keep K219 nin0
          replace V_tA := V_tA.keep K219 nin0
          replace E_w_EMPTY := E_w_EMPTY.keep K219
          replace F_value_w_EMPTY := F_value_w_EMPTY.keep K219 nin0
          replace E_b206 := E_b206.keep K219
          replace F_coder_b206 := F_coder_b206.keep K219 nin0
          replace F_value_b206 := F_value_b206.keep K219 nin0
          replace V_B206 := V_B206.keep K219 nin0
          replace E_b207 := E_b207.keep K219
          replace F_coder_b207 := F_coder_b207.keep K219 nin0
          replace F_value_b207 := F_value_b207.keep K219 nin0
          replace V_B207 := V_B207.keep K219 nin0
          replace Z0 := Nat.le_trans Z0 K219.1
          replace hk := Nat.le_trans hk K219.1
          have E_b219 : Exa Z h219 b219 "java/lang/String" := G219E
          have F_coder_b219 : Fld Z h219 b219 "java/lang/String" "coder" "B" (.int (0 : Int32)) := G219C
          have F_value_b219 : Fld Z h219 b219 "java/lang/String" "value" "[B" (.ref B219) := G219V
          have V_B219 : Arv Z h219 B219 kb219 .byte (13 : Int32) (((mkl C2 (p2 &&& (15 : Int32)) ((p3 &&& (255 : Int32)).toUInt32.toUInt16.toUInt32.toInt32) 13).map StrChars.lo8).map Value.int) (.int (0 : Int32)) := G219A
          have N219 := Fr.app N0 N219q
          obtain ⟨_, _, ⟨T220, L220, k220, n220⟩, -, X220, ⟨Lc220, hQ220, l220, y220, z220⟩, st220⟩ := Jvm.LawKit.callS X219 hx (y := mn16) hown (mvT hZ (ww hw 73 rfl)) (mvT hZ (ww hw 74 rfl)) (mvT hZ (ww hw 75 rfl)) (mvT hZ (ww hw 76 rfl)) (by decide) (backOf (W := 0) (rm16_s l Z a0 hw [] b219 B219 kb219 (13 : Int32) (((mkl C2 (p2 &&& (15 : Int32)) ((p3 &&& (255 : Int32)).toUInt32.toUInt16.toUInt32.toInt32) 13).map StrChars.lo8).map Value.int) (mkl C2 (p2 &&& (15 : Int32)) ((p3 &&& (255 : Int32)).toUInt32.toUInt16.toUInt32.toInt32) 13) w_MONITORING w_ABUSE_REPORTS kV w__VALUES sM tM kM sA tA kA w_EMPTY w_COMPACT_STRINGS h219 n0 Z0 S__VALUES S_EMPTY S_COMPACT_STRINGS hz (own_cod (n := 13) (own_mklen _ _ _ 13) (own_mkr own_rc2 (own_char p3) 13)) (own_mkr own_rc2 (own_char p3) 13) (by rw [own_mklen]; decide) E_b219 F_coder_b219 F_value_b219 V_B219 E_w__VALUES V_w__VALUES F_jsonName_w_MONITORING F_jsonName_w_ABUSE_REPORTS E_sM F_coder_sM F_value_sM V_tM E_sA F_coder_sA F_value_sA V_tA E_w_EMPTY F_value_w_EMPTY) hZ (ww hw 76 rfl) (ww hw 75 rfl) (by decide) (by decide)) (g := (mkF m 299 (lo0_10 p1 p2 p3 p4 b206 b207 b219) [(.ref b219)])) rfl (by rw [hml]; rfl) (argsL := [(.ref b219)]) (rest := []) (lenOf pd_14 rfl) rfl (by show 2 * 0 + _ ≤ _; exact Nat.le_of_eq rfl) (hb hby at_299) (fun _ _ => ⟨rfl, e219, (by decide : 7 + 2 ≤ _), (by decide : 126 + 3 ≤ _)⟩)
          dsimp only [Pt.U, Pt.locs, Pt.cells, Pt.slots] at X220 l220 y220 z220 st220 hQ220
          rw [l220, y220, z220] at X220
          obtain ⟨h220, e220⟩ : ∃ z, T220.heap = z := ⟨_, rfl⟩
          rw [e220] at hQ220
          obtain ⟨B220, w220, rfl, N220q, K220, G220E, G220V, G220R⟩ := hQ220
          replace S__VALUES := own_stakeep S__VALUES K220 ns0
          replace S_EMPTY := own_stakeep S_EMPTY K220 ns0
          replace S_COMPACT_STRINGS := own_stakeep S_COMPACT_STRINGS K220 ns0
          replace S_SIOOBE_FORMATTER := own_stakeep S_SIOOBE_FORMATTER K220 ns0
          replace S_MONITORING := own_stakeep S_MONITORING K220 ns0
          replace S_ABUSE_REPORTS := own_stakeep S_ABUSE_REPORTS K220 ns0
          replace E_w__VALUES := E_w__VALUES.keep K220
          replace V_w__VALUES := V_w__VALUES.keep K220 nin0
          replace F_jsonName_w_MONITORING := F_jsonName_w_MONITORING.keep K220 nin0
          replace F_jsonName_w_ABUSE_REPORTS := F_jsonName_w_ABUSE_REPORTS.keep K220 nin0
          replace E_sM := E_sM.keep K220
          replace F_coder_sM := F_coder_sM.keep K220 nin0
          replace F_value_sM := F_value_sM.keep K220 nin0
          replace V_tM := V_tM.keep K220 nin0
          replace E_sA := E_sA.keep K220
          replace F_coder_sA := F_coder_sA.keep K220 nin0
          replace F_value_sA := F_value_sA.keep K220 nin0
          replace V_tA := V_tA.keep K220 nin0
          replace E_w_EMPTY := E_w_EMPTY.keep K220
          replace F_value_w_EMPTY := F_value_w_EMPTY.keep K220 nin0
          replace E_b206 := E_b206.keep K220
          replace F_coder_b206 := F_coder_b206.keep K220 nin0
          replace F_value_b206 := F_value_b206.keep K220 nin0
          replace V_B206 := V_B206.keep K220 nin0
          replace E_b207 := E_b207.keep K220
          replace F_coder_b207 := F_coder_b207.keep K220 nin0
          replace F_value_b207 := F_value_b207.keep K220 nin0
          replace V_B207 := V_B207.keep K220 nin0
          replace E_b219 := E_b219.keep K220
          replace F_coder_b219 := F_coder_b219.keep K220 nin0
          replace F_value_b219 := F_value_b219.keep K220 nin0
          replace V_B219 := V_B219.keep K220 nin0
          replace Z0 := Nat.le_trans Z0 K220.1
          replace hk := Nat.le_trans hk K220.1
          have G220R := own_rvN G220R (own_mkl (by decide)) (own_mkl (by decide))
          subst G220R
          have E_B220 : Exa Z h220 B220 "java/util/Optional" := G220E
          have F_value_B220 : Fld Z h220 B220 "java/util/Optional" "value" "Ljava/lang/Object;" .null := G220V
          have N220 := Fr.app N219 N220q
          obtain ⟨cq221, kq221, q221a, q221b, q221c⟩ := isOf hZ e220 E_B220
          obtain ⟨_, _, ⟨T221, L221, k221, n221⟩, -, X221, ⟨Lc221, hQ221, l221, y221, z221⟩, st221⟩ := X220.virtualBack hx (y := mn10) (z := mn10) hown (mvT hZ (ww hw 110 rfl)) (mvT hZ (ww hw 111 rfl)) (notFace_of_selects (args := #[]) (mvT hZ (ww hw 113 rfl))) (mvT hZ (ww hw 113 rfl)) (mvT hZ (ww hw 112 rfl)) (by decide) (backOf (W := 0) (rm21_n l Z a0 hw [] B220 h220 n0 Z0 F_value_B220) hZ (ww hw 114 rfl) (ww hw 107 rfl) (by decide) (by decide)) q221a q221c (g := (mkF m 314 (lo0_11 p1 p2 p3 p4 b206 b207 b219 B220) [.null, (.ref B220)])) rfl (by rw [hml]; rfl) (Steps.refl _) (argsL := [.null]) (rest := []) (lenOf pd_4 rfl) rfl (by show 2 * 0 + _ ≤ _; exact Nat.le_of_eq rfl) (hb hby at_314) (fun _ _ => ⟨rfl, e220, (by decide : 9 + 0 ≤ _), (by decide : 129 + 0 ≤ _)⟩)
          dsimp only [Pt.U, Pt.locs, Pt.cells, Pt.slots] at X221 l221 y221 z221 st221 hQ221
          rw [l221, y221, z221] at X221
          obtain ⟨rfl, N221q, e221⟩ := hQ221
          have N221 := Fr.app N220 N221q
          obtain ⟨fs, hr, hrun, hended, hEW⟩ := X221.leaveW hS (by rw [e221]; exact hk) (v := some (.int (1 : Int32))) (fun h => by rw [Bd.returns] at h; cases h)
          refine ⟨_, _, pre218 _ ?_, hrun, hended, _, _, rfl, ?_, hEW.1, hEW.2.1, hEW.2.2.1, hEW.2.2.2.mono (by decide) (by decide)⟩
          · refine y_icmpNo X207 hx hby at_156 (teq hc217).2 ?_
            refine y_aload X207 hx hby at_159 rfl rfl ?_
            refine y_iload X207 hx hby at_161 rfl ?_
            refine y_iload X207 hx hby at_163 rfl ?_
            refine y_bipush X207 hx hby (v := (13 : Int32)) at_165 rfl ?_
            refine st219 _ ?_
            show Steps p.tables e below (T219.setTop (mkF m 170 (lo0_5 p1 p2 p3 p4 b206 b207) [(.ref b219)])) _
            refine y_astore X219 hx hby at_170 rfl (l' := (lo0_9 p1 p2 p3 p4 b206 b207 b219)) rfl ?_
            refine y_aconstNull X219 hx hby at_172 ?_
            refine y_astore X219 hx hby at_173 rfl (l' := (lo0_10 p1 p2 p3 p4 b206 b207 b219)) rfl ?_
            refine y_goto X219 hx hby (pc' := 297) at_175 (by decide) (by decide) ?_
            refine y_aload X219 hx hby at_297 rfl rfl ?_
            refine st220 _ ?_
            show Steps p.tables e below (T220.setTop (mkF m 302 (lo0_10 p1 p2 p3 p4 b206 b207 b219) [(.ref B220)])) _
            refine y_astore X220 hx hby at_302 rfl (l' := (lo0_11 p1 p2 p3 p4 b206 b207 b219 B220)) rfl ?_
            refine y_aload X220 hx hby at_304 rfl rfl ?_
            refine y_ifnonnullYes X220 hx hby (pc' := 311) at_306 (by decide) (by decide) ?_
            refine y_aload X220 hx hby at_311 rfl rfl ?_
            refine y_aconstNull X220 hx hby at_313 ?_
            refine st221.trans ?_
            show Steps p.tables e below (T221.setTop (mkF m 317 (lo0_11 p1 p2 p3 p4 b206 b207 b219 B220) [.null])) _
            refine y_aload X221 hx hby at_317 rfl rfl ?_
            show Steps p.tables e below (T221.setTop (mkF m 319 (lo0_11 p1 p2 p3 p4 b206 b207 b219 B220) [.null, .null])) _
            refine Jvm.RoadKit.acmp (g := (mkF m 319 (lo0_11 p1 p2 p3 p4 b206 b207 b219 B220) [.null, .null])) X221 hx rfl rfl rfl (pc0 := 319) (pc' := 322) (same := true) rfl (hb hby at_319) rfl (decide_eq_true rfl) (by decide) (by decide) ?_
            show Steps p.tables e below (T221.setTop (mkF m 322 (lo0_11 p1 p2 p3 p4 b206 b207 b219 B220) [])) _
            refine y_iconst X221 hx hby (v := (1 : Int32)) at_322 rfl ?_
            refine y_goto X221 hx hby (pc' := 327) at_323 (by decide) (by decide) ?_
            exact retN X221 hx (t := .boolean) Bd.returns (by simp) (hb hby at_327) hr
          · exact ⟨rfl, N221⟩
        · have pre223 : GO p e below (T207.setTop (mkF m 182 (lo0_5 p1 p2 p3 p4 b206 b207) [(.int (6 : Int32)), (.int (p1 &&& (7 : Int32)))])) (s₁.setTop (entryFrame m #[(.int p1), (.int p2), (.int p3), (.int p4)] maxLocals)) := fun t k => by
            refine pre218 _ ?_
            refine y_icmpYes X207 hx hby (pc' := 178) at_156 (feq hc217).2 (by decide) (by decide) ?_
            refine y_iload X207 hx hby at_178 rfl ?_
            refine y_bipush X207 hx hby (v := (6 : Int32)) at_180 rfl ?_
            exact k
          by_cases hc222 : (p1 &&& (7 : Int32)) = (6 : Int32)
          · have pre225 : GO p e below (T207.setTop (mkF m 188 (lo0_5 p1 p2 p3 p4 b206 b207) [(.int (p4 &&& (1 : Int32)))])) (s₁.setTop (entryFrame m #[(.int p1), (.int p2), (.int p3), (.int p4)] maxLocals)) := fun t k => by
              refine pre223 _ ?_
              refine y_icmpNo X207 hx hby at_182 (teq hc222).2 ?_
              refine y_iloadN X207 hx hby at_185 rfl ?_
              refine y_iconst X207 hx hby (v := (1 : Int32)) at_186 rfl ?_
              refine y_iand X207 hx hby at_187 ?_
              exact k
            by_cases hc224 : (p4 &&& (1 : Int32)) = (0 : Int32)
            · obtain ⟨_, _, ⟨T226, L226, k226, n226⟩, -, X226, ⟨Lc226, hQ226, l226, y226, z226⟩, st226⟩ := Jvm.LawKit.callS X207 hx (y := mn4) hown (mvT hZ (ww hw 9 rfl)) (mvT hZ (ww hw 10 rfl)) (mvT hZ (ww hw 11 rfl)) (mvT hZ (ww hw 12 rfl)) (by decide) (backOf (W := 0) (rm1_10 l Z a0 hw [] b207 (p2 &&& (15 : Int32)) ((p3 &&& (255 : Int32)).toUInt32.toUInt16.toUInt32.toInt32) B207 kb207 (12 : Int32) ((C2.map StrChars.lo8).map Value.int) C2 w_COMPACT_STRINGS fm h207 n0 Z0 S_COMPACT_STRINGS hz S_SIOOBE_FORMATTER rf (own_cod (n := 12) rfl own_rc2) own_rc2 (by decide) (own_char p3) E_b207 F_coder_b207 F_value_b207 V_B207) hZ (ww hw 12 rfl) (ww hw 11 rfl) (by decide) (by decide)) (g := (mkF m 199 (lo0_5 p1 p2 p3 p4 b206 b207) [(.int (10 : Int32)), (.int ((p3 &&& (255 : Int32)).toUInt32.toUInt16.toUInt32.toInt32)), (.int (p2 &&& (15 : Int32))), (.ref b207)])) rfl (by rw [hml]; rfl) (argsL := [(.ref b207), (.int (p2 &&& (15 : Int32))), (.int ((p3 &&& (255 : Int32)).toUInt32.toUInt16.toUInt32.toInt32)), (.int (10 : Int32))]) (rest := []) (lenOf pd_13 rfl) rfl (by show 2 * 0 + _ ≤ _; exact Nat.le_of_eq rfl) (hb hby at_199) (fun _ _ => ⟨rfl, e207, (by decide : 4 + 3 ≤ _), (by decide : 96 + 24 ≤ _)⟩)
              dsimp only [Pt.U, Pt.locs, Pt.cells, Pt.slots] at X226 l226 y226 z226 st226 hQ226
              rw [l226, y226, z226] at X226
              obtain ⟨h226, e226⟩ : ∃ z, T226.heap = z := ⟨_, rfl⟩
              rw [e226] at hQ226
              obtain ⟨b226, B226, kb226, rfl, N226q, K226, szx226, szt226, G226E, G226C, G226V, G226A⟩ := hQ226
              have g_b226 : n0 ≤ b226 := Nat.le_trans Z0 szx226
              have ne_w__VALUES_b226 : w__VALUES ≠ b226 := Nat.ne_of_lt (Nat.lt_of_lt_of_le E_w__VALUES.lt szx226)
              have ne_sM_b226 : sM ≠ b226 := Nat.ne_of_lt (Nat.lt_of_lt_of_le E_sM.lt szx226)
              have ne_tM_b226 : tM ≠ b226 := Nat.ne_of_lt (Nat.lt_of_lt_of_le V_tM.lt szx226)
              have ne_sA_b226 : sA ≠ b226 := Nat.ne_of_lt (Nat.lt_of_lt_of_le E_sA.lt szx226)
              have ne_tA_b226 : tA ≠ b226 := Nat.ne_of_lt (Nat.lt_of_lt_of_le V_tA.lt szx226)
              have ne_w_EMPTY_b226 : w_EMPTY ≠ b226 := Nat.ne_of_lt (Nat.lt_of_lt_of_le E_w_EMPTY.lt szx226)
              have ne_w_MONITORING_b226 : w_MONITORING ≠ b226 := Nat.ne_of_lt (Nat.lt_of_lt_of_le F_jsonName_w_MONITORING.lt szx226)
              have ne_w_ABUSE_REPORTS_b226 : w_ABUSE_REPORTS ≠ b226 := Nat.ne_of_lt (Nat.lt_of_lt_of_le F_jsonName_w_ABUSE_REPORTS.lt szx226)
              have ne_b206_b226 : b206 ≠ b226 := Nat.ne_of_lt (Nat.lt_of_lt_of_le E_b206.lt szx226)
              have ne_B206_b226 : B206 ≠ b226 := Nat.ne_of_lt (Nat.lt_of_lt_of_le V_B206.lt szx226)
              have ne_b207_b226 : b207 ≠ b226 := Nat.ne_of_lt (Nat.lt_of_lt_of_le E_b207.lt szx226)
              have ne_B207_b226 : B207 ≠ b226 := Nat.ne_of_lt (Nat.lt_of_lt_of_le V_B207.lt szx226)
              have g_B226 : n0 ≤ B226 := Nat.le_trans Z0 szt226
              have ne_w__VALUES_B226 : w__VALUES ≠ B226 := Nat.ne_of_lt (Nat.lt_of_lt_of_le E_w__VALUES.lt szt226)
              have ne_sM_B226 : sM ≠ B226 := Nat.ne_of_lt (Nat.lt_of_lt_of_le E_sM.lt szt226)
              have ne_tM_B226 : tM ≠ B226 := Nat.ne_of_lt (Nat.lt_of_lt_of_le V_tM.lt szt226)
              have ne_sA_B226 : sA ≠ B226 := Nat.ne_of_lt (Nat.lt_of_lt_of_le E_sA.lt szt226)
              have ne_tA_B226 : tA ≠ B226 := Nat.ne_of_lt (Nat.lt_of_lt_of_le V_tA.lt szt226)
              have ne_w_EMPTY_B226 : w_EMPTY ≠ B226 := Nat.ne_of_lt (Nat.lt_of_lt_of_le E_w_EMPTY.lt szt226)
              have ne_w_MONITORING_B226 : w_MONITORING ≠ B226 := Nat.ne_of_lt (Nat.lt_of_lt_of_le F_jsonName_w_MONITORING.lt szt226)
              have ne_w_ABUSE_REPORTS_B226 : w_ABUSE_REPORTS ≠ B226 := Nat.ne_of_lt (Nat.lt_of_lt_of_le F_jsonName_w_ABUSE_REPORTS.lt szt226)
              have ne_b206_B226 : b206 ≠ B226 := Nat.ne_of_lt (Nat.lt_of_lt_of_le E_b206.lt szt226)
              have ne_B206_B226 : B206 ≠ B226 := Nat.ne_of_lt (Nat.lt_of_lt_of_le V_B206.lt szt226)
              have ne_b207_B226 : b207 ≠ B226 := Nat.ne_of_lt (Nat.lt_of_lt_of_le E_b207.lt szt226)
              have ne_B207_B226 : B207 ≠ B226 := Nat.ne_of_lt (Nat.lt_of_lt_of_le V_B207.lt szt226)
              replace S__VALUES := own_stakeep S__VALUES K226 ns0
              replace S_EMPTY := own_stakeep S_EMPTY K226 ns0
              replace S_COMPACT_STRINGS := own_stakeep S_COMPACT_STRINGS K226 ns0
              replace S_SIOOBE_FORMATTER := own_stakeep S_SIOOBE_FORMATTER K226 ns0
              replace S_MONITORING := own_stakeep S_MONITORING K226 ns0
              replace S_ABUSE_REPORTS := own_stakeep S_ABUSE_REPORTS K226 ns0
              replace E_w__VALUES := E_w__VALUES.keep K226
              replace V_w__VALUES := V_w__VALUES.keep K226 nin0
              replace F_jsonName_w_MONITORING := F_jsonName_w_MONITORING.keep K226 nin0
              replace F_jsonName_w_ABUSE_REPORTS := F_jsonName_w_ABUSE_REPORTS.keep K226 nin0
              replace E_sM := E_sM.keep K226
              replace F_coder_sM := F_coder_sM.keep K226 nin0
              replace F_value_sM := F_value_sM.keep K226 nin0
              replace V_tM := V_tM.keep K226 nin0
              replace E_sA := E_sA.keep K226
              replace F_coder_sA := F_coder_sA.keep K226 nin0
              replace F_value_sA := F_value_sA.keep K226 nin0
              replace V_tA := V_tA.keep K226 nin0
              replace E_w_EMPTY := E_w_EMPTY.keep K226
              replace F_value_w_EMPTY := F_value_w_EMPTY.keep K226 nin0
              replace E_b206 := E_b206.keep K226
              replace F_coder_b206 := F_coder_b206.keep K226 nin0
              replace F_value_b206 := F_value_b206.keep K226 nin0
              replace V_B206 := V_B206.keep K226 nin0
              replace E_b207 := E_b207.keep K226
              replace F_coder_b207 := F_coder_b207.keep K226 nin0
              replace F_value_b207 := F_value_b207.keep K226 nin0
              replace V_B207 := V_B207.keep K226 nin0
              replace Z0 := Nat.le_trans Z0 K226.1
              replace hk := Nat.le_trans hk K226.1
              have E_b226 : Exa Z h226 b226 "java/lang/String" := G226E
              have F_coder_b226 : Fld Z h226 b226 "java/lang/String" "coder" "B" (.int (0 : Int32)) := G226C
              have F_value_b226 : Fld Z h226 b226 "java/lang/String" "value" "[B" (.ref B226) := G226V
              have V_B226 : Arv Z h226 B226 kb226 .byte (10 : Int32) (((mkl C2 (p2 &&& (15 : Int32)) ((p3 &&& (255 : Int32)).toUInt32.toUInt16.toUInt32.toInt32) 10).map StrChars.lo8).map Value.int) (.int (0 : Int32)) := G226A
              have N226 := Fr.app N0 N226q
              obtain ⟨_, _, ⟨T227, L227, k227, n227⟩, -, X227, ⟨Lc227, hQ227, l227, y227, z227⟩, st227⟩ := Jvm.LawKit.callS X226 hx (y := mn16) hown (mvT hZ (ww hw 73 rfl)) (mvT hZ (ww hw 74 rfl)) (mvT hZ (ww hw 75 rfl)) (mvT hZ (ww hw 76 rfl)) (by decide) (backOf (W := 0) (rm16_s l Z a0 hw [] b226 B226 kb226 (10 : Int32) (((mkl C2 (p2 &&& (15 : Int32)) ((p3 &&& (255 : Int32)).toUInt32.toUInt16.toUInt32.toInt32) 10).map StrChars.lo8).map Value.int) (mkl C2 (p2 &&& (15 : Int32)) ((p3 &&& (255 : Int32)).toUInt32.toUInt16.toUInt32.toInt32) 10) w_MONITORING w_ABUSE_REPORTS kV w__VALUES sM tM kM sA tA kA w_EMPTY w_COMPACT_STRINGS h226 n0 Z0 S__VALUES S_EMPTY S_COMPACT_STRINGS hz (own_cod (n := 10) (own_mklen _ _ _ 10) (own_mkr own_rc2 (own_char p3) 10)) (own_mkr own_rc2 (own_char p3) 10) (by rw [own_mklen]; decide) E_b226 F_coder_b226 F_value_b226 V_B226 E_w__VALUES V_w__VALUES F_jsonName_w_MONITORING F_jsonName_w_ABUSE_REPORTS E_sM F_coder_sM F_value_sM V_tM E_sA F_coder_sA F_value_sA V_tA E_w_EMPTY F_value_w_EMPTY) hZ (ww hw 76 rfl) (ww hw 75 rfl) (by decide) (by decide)) (g := (mkF m 299 (lo0_13 p1 p2 p3 p4 b206 b207 b226) [(.ref b226)])) rfl (by rw [hml]; rfl) (argsL := [(.ref b226)]) (rest := []) (lenOf pd_14 rfl) rfl (by show 2 * 0 + _ ≤ _; exact Nat.le_of_eq rfl) (hb hby at_299) (fun _ _ => ⟨rfl, e226, (by decide : 7 + 2 ≤ _), (by decide : 120 + 3 ≤ _)⟩)
              dsimp only [Pt.U, Pt.locs, Pt.cells, Pt.slots] at X227 l227 y227 z227 st227 hQ227
              rw [l227, y227, z227] at X227
              obtain ⟨h227, e227⟩ : ∃ z, T227.heap = z := ⟨_, rfl⟩
              rw [e227] at hQ227
              obtain ⟨B227, w227, rfl, N227q, K227, G227E, G227V, G227R⟩ := hQ227
              replace S__VALUES := own_stakeep S__VALUES K227 ns0
              replace S_EMPTY := own_stakeep S_EMPTY K227 ns0
              replace S_COMPACT_STRINGS := own_stakeep S_COMPACT_STRINGS K227 ns0
              replace S_SIOOBE_FORMATTER := own_stakeep S_SIOOBE_FORMATTER K227 ns0
              replace S_MONITORING := own_stakeep S_MONITORING K227 ns0
              replace S_ABUSE_REPORTS := own_stakeep S_ABUSE_REPORTS K227 ns0
              replace E_w__VALUES := E_w__VALUES.keep K227
              replace V_w__VALUES := V_w__VALUES.keep K227 nin0
              replace F_jsonName_w_MONITORING := F_jsonName_w_MONITORING.keep K227 nin0
              replace F_jsonName_w_ABUSE_REPORTS := F_jsonName_w_ABUSE_REPORTS.keep K227 nin0
              replace E_sM := E_sM.keep K227
              replace F_coder_sM := F_coder_sM.keep K227 nin0
              replace F_value_sM := F_value_sM.keep K227 nin0
              replace V_tM := V_tM.keep K227 nin0
              replace E_sA := E_sA.keep K227
              replace F_coder_sA := F_coder_sA.keep K227 nin0
              replace F_value_sA := F_value_sA.keep K227 nin0
              replace V_tA := V_tA.keep K227 nin0
              replace E_w_EMPTY := E_w_EMPTY.keep K227
              replace F_value_w_EMPTY := F_value_w_EMPTY.keep K227 nin0
              replace E_b206 := E_b206.keep K227
              replace F_coder_b206 := F_coder_b206.keep K227 nin0
              replace F_value_b206 := F_value_b206.keep K227 nin0
              replace V_B206 := V_B206.keep K227 nin0
              replace E_b207 := E_b207.keep K227
              replace F_coder_b207 := F_coder_b207.keep K227 nin0
              replace F_value_b207 := F_value_b207.keep K227 nin0
              replace V_B207 := V_B207.keep K227 nin0
              replace E_b226 := E_b226.keep K227
              replace F_coder_b226 := F_coder_b226.keep K227 nin0
              replace F_value_b226 := F_value_b226.keep K227 nin0
              replace V_B226 := V_B226.keep K227 nin0
              replace Z0 := Nat.le_trans Z0 K227.1
              replace hk := Nat.le_trans hk K227.1
              have G227R := own_rvN G227R (own_E1 (own_char p3)) (own_mkl (by decide))
              subst G227R
              have E_B227 : Exa Z h227 B227 "java/util/Optional" := G227E
              have F_value_B227 : Fld Z h227 B227 "java/util/Optional" "value" "Ljava/lang/Object;" .null := G227V
              have N227 := Fr.app N226 N227q
              obtain ⟨cq228, kq228, q228a, q228b, q228c⟩ := isOf hZ e227 E_B227
              obtain ⟨_, _, ⟨T228, L228, k228, n228⟩, -, X228, ⟨Lc228, hQ228, l228, y228, z228⟩, st228⟩ := X227.virtualBack hx (y := mn10) (z := mn10) hown (mvT hZ (ww hw 110 rfl)) (mvT hZ (ww hw 111 rfl)) (notFace_of_selects (args := #[]) (mvT hZ (ww hw 113 rfl))) (mvT hZ (ww hw 113 rfl)) (mvT hZ (ww hw 112 rfl)) (by decide) (backOf (W := 0) (rm21_n l Z a0 hw [] B227 h227 n0 Z0 F_value_B227) hZ (ww hw 114 rfl) (ww hw 107 rfl) (by decide) (by decide)) q228a q228c (g := (mkF m 314 (lo0_14 p1 p2 p3 p4 b206 b207 b226 B227) [.null, (.ref B227)])) rfl (by rw [hml]; rfl) (Steps.refl _) (argsL := [.null]) (rest := []) (lenOf pd_4 rfl) rfl (by show 2 * 0 + _ ≤ _; exact Nat.le_of_eq rfl) (hb hby at_314) (fun _ _ => ⟨rfl, e227, (by decide : 9 + 0 ≤ _), (by decide : 123 + 0 ≤ _)⟩)
              dsimp only [Pt.U, Pt.locs, Pt.cells, Pt.slots] at X228 l228 y228 z228 st228 hQ228
              rw [l228, y228, z228] at X228
              obtain ⟨rfl, N228q, e228⟩ := hQ228
              have N228 := Fr.app N227 N228q
              obtain ⟨fs, hr, hrun, hended, hEW⟩ := X228.leaveW hS (by rw [e228]; exact hk) (v := some (.int (1 : Int32))) (fun h => by rw [Bd.returns] at h; cases h)
              refine ⟨_, _, pre225 _ ?_, hrun, hended, _, _, rfl, ?_, hEW.1, hEW.2.1, hEW.2.2.1, hEW.2.2.2.mono (by decide) (by decide)⟩
              · refine y_ifNo X207 hx hby at_188 ((if0 _ _).trans (teq hc224).2) ?_
                refine y_aload X207 hx hby at_191 rfl rfl ?_
                refine y_iload X207 hx hby at_193 rfl ?_
                refine y_iload X207 hx hby at_195 rfl ?_
                refine y_bipush X207 hx hby (v := (10 : Int32)) at_197 rfl ?_
                refine st226 _ ?_
                show Steps p.tables e below (T226.setTop (mkF m 202 (lo0_5 p1 p2 p3 p4 b206 b207) [(.ref b226)])) _
                refine y_astore X226 hx hby at_202 rfl (l' := (lo0_12 p1 p2 p3 p4 b206 b207 b226)) rfl ?_
                refine y_goto X226 hx hby (pc' := 211) at_204 (by decide) (by decide) ?_
                refine y_aconstNull X226 hx hby at_211 ?_
                refine y_astore X226 hx hby at_212 rfl (l' := (lo0_13 p1 p2 p3 p4 b206 b207 b226)) rfl ?_
                refine y_goto X226 hx hby (pc' := 297) at_214 (by decide) (by decide) ?_
                refine y_aload X226 hx hby at_297 rfl rfl ?_
                refine st227 _ ?_
                show Steps p.tables e below (T227.setTop (mkF m 302 (lo0_13 p1 p2 p3 p4 b206 b207 b226) [(.ref B227)])) _
                refine y_astore X227 hx hby at_302 rfl (l' := (lo0_14 p1 p2 p3 p4 b206 b207 b226 B227)) rfl ?_
                refine y_aload X227 hx hby at_304 rfl rfl ?_
                refine y_ifnonnullYes X227 hx hby (pc' := 311) at_306 (by decide) (by decide) ?_
                refine y_aload X227 hx hby at_311 rfl rfl ?_
                refine y_aconstNull X227 hx hby at_313 ?_
                refine st228.trans ?_
                show Steps p.tables e below (T228.setTop (mkF m 317 (lo0_14 p1 p2 p3 p4 b206 b207 b226 B227) [.null])) _
                refine y_aload X228 hx hby at_317 rfl rfl ?_
                show Steps p.tables e below (T228.setTop (mkF m 319 (lo0_14 p1 p2 p3 p4 b206 b207 b226 B227) [.null, .null])) _
                refine Jvm.RoadKit.acmp (g := (mkF m 319 (lo0_14 p1 p2 p3 p4 b206 b207 b226 B227) [.null, .null])) X228 hx rfl rfl rfl (pc0 := 319) (pc' := 322) (same := true) rfl (hb hby at_319) rfl (decide_eq_true rfl) (by decide) (by decide) ?_
                show Steps p.tables e below (T228.setTop (mkF m 322 (lo0_14 p1 p2 p3 p4 b206 b207 b226 B227) [])) _
                refine y_iconst X228 hx hby (v := (1 : Int32)) at_322 rfl ?_
                refine y_goto X228 hx hby (pc' := 327) at_323 (by decide) (by decide) ?_
                exact retN X228 hx (t := .boolean) Bd.returns (by simp) (hb hby at_327) hr
              · exact ⟨rfl, N228⟩
            · obtain ⟨b229, T229, h229, k229, B229, kb229, X229, e229, E229, hS, hk, hZ, hown, G229E, G229C, G229V, G229A, -, -, hCr229, -, -, st229⟩ := ldcCH X207 hx hZ hown (ww hw 145 rfl) wS e207 hS hk hEL (List.mem_of_getElem? (i := 2) rfl) hCH (vs := ((C3.map StrChars.lo8).map Value.int)) (z := (9 : Int32)) ⟨by decide, by rfl⟩ (by decide) (by decide) (g := (mkF m 207 (lo0_5 p1 p2 p3 p4 b206 b207) [])) rfl (hb hby at_207) (n := 36) (by decide) (by decide) (by decide) (by decide)
              replace hCH := hCr229.1
              replace E_w__VALUES := E_w__VALUES.ext E229
              replace V_w__VALUES := V_w__VALUES.ext E229
              replace F_jsonName_w_MONITORING := F_jsonName_w_MONITORING.ext E229
              replace F_jsonName_w_ABUSE_REPORTS := F_jsonName_w_ABUSE_REPORTS.ext E229
              replace E_sM := E_sM.ext E229
              replace F_coder_sM := F_coder_sM.ext E229
              replace F_value_sM := F_value_sM.ext E229
              replace V_tM := V_tM.ext E229
              replace E_sA := E_sA.ext E229
              replace F_coder_sA := F_coder_sA.ext E229
              replace F_value_sA := F_value_sA.ext E229
              replace V_tA := V_tA.ext E229
              replace E_w_EMPTY := E_w_EMPTY.ext E229
              replace F_value_w_EMPTY := F_value_w_EMPTY.ext E229
              replace S__VALUES := S__VALUES.ext E229
              replace S_EMPTY := S_EMPTY.ext E229
              replace S_COMPACT_STRINGS := S_COMPACT_STRINGS.ext E229
              replace S_SIOOBE_FORMATTER := S_SIOOBE_FORMATTER.ext E229
              replace S_MONITORING := S_MONITORING.ext E229
              replace S_ABUSE_REPORTS := S_ABUSE_REPORTS.ext E229
              replace E_b206 := E_b206.ext E229
              replace F_coder_b206 := F_coder_b206.ext E229
              replace F_value_b206 := F_value_b206.ext E229
              replace V_B206 := V_B206.ext E229
              replace E_b207 := E_b207.ext E229
              replace F_coder_b207 := F_coder_b207.ext E229
              replace F_value_b207 := F_value_b207.ext E229
              replace V_B207 := V_B207.ext E229
              replace Z0 := Nat.le_trans Z0 E229.1
              have E_b229 : Exa Z h229 b229 "java/lang/String" := G229E
              have F_coder_b229 : Fld Z h229 b229 "java/lang/String" "coder" "B" (.int (0 : Int32)) := G229C
              have F_value_b229 : Fld Z h229 b229 "java/lang/String" "value" "[B" (.ref B229) := G229V
              have V_B229 : Arv Z h229 B229 kb229 .byte (9 : Int32) ((C3.map StrChars.lo8).map Value.int) (.int (0 : Int32)) := G229A
              obtain ⟨_, _, ⟨T230, L230, k230, n230⟩, -, X230, ⟨Lc230, hQ230, l230, y230, z230⟩, st230⟩ := Jvm.LawKit.callS X229 hx (y := mn16) hown (mvT hZ (ww hw 73 rfl)) (mvT hZ (ww hw 74 rfl)) (mvT hZ (ww hw 75 rfl)) (mvT hZ (ww hw 76 rfl)) (by decide) (backOf (W := 0) (rm16_s l Z a0 hw [] b229 B229 kb229 (9 : Int32) ((C3.map StrChars.lo8).map Value.int) C3 w_MONITORING w_ABUSE_REPORTS kV w__VALUES sM tM kM sA tA kA w_EMPTY w_COMPACT_STRINGS h229 n0 Z0 S__VALUES S_EMPTY S_COMPACT_STRINGS hz (own_cod (n := 9) rfl own_rc3) own_rc3 (by decide) E_b229 F_coder_b229 F_value_b229 V_B229 E_w__VALUES V_w__VALUES F_jsonName_w_MONITORING F_jsonName_w_ABUSE_REPORTS E_sM F_coder_sM F_value_sM V_tM E_sA F_coder_sA F_value_sA V_tA E_w_EMPTY F_value_w_EMPTY) hZ (ww hw 76 rfl) (ww hw 75 rfl) (by decide) (by decide)) (g := (mkF m 299 (lo0_16 p1 p2 p3 p4 b206 b207 b229) [(.ref b229)])) rfl (by rw [hml]; rfl) (argsL := [(.ref b229)]) (rest := []) (lenOf pd_14 rfl) rfl (by show 2 * 0 + _ ≤ _; exact Nat.le_of_eq rfl) (hb hby at_299) (fun _ _ => ⟨rfl, e229, (by decide : 6 + 2 ≤ _), (by decide : 136 + 3 ≤ _)⟩)
              dsimp only [Pt.U, Pt.locs, Pt.cells, Pt.slots] at X230 l230 y230 z230 st230 hQ230
              rw [l230, y230, z230] at X230
              obtain ⟨h230, e230⟩ : ∃ z, T230.heap = z := ⟨_, rfl⟩
              rw [e230] at hQ230
              obtain ⟨B230, w230, rfl, N230q, K230, G230E, G230V, G230R⟩ := hQ230
              replace S__VALUES := own_stakeep S__VALUES K230 ns0
              replace S_EMPTY := own_stakeep S_EMPTY K230 ns0
              replace S_COMPACT_STRINGS := own_stakeep S_COMPACT_STRINGS K230 ns0
              replace S_SIOOBE_FORMATTER := own_stakeep S_SIOOBE_FORMATTER K230 ns0
              replace S_MONITORING := own_stakeep S_MONITORING K230 ns0
              replace S_ABUSE_REPORTS := own_stakeep S_ABUSE_REPORTS K230 ns0
              replace E_w__VALUES := E_w__VALUES.keep K230
              replace V_w__VALUES := V_w__VALUES.keep K230 nin0
              replace F_jsonName_w_MONITORING := F_jsonName_w_MONITORING.keep K230 nin0
              replace F_jsonName_w_ABUSE_REPORTS := F_jsonName_w_ABUSE_REPORTS.keep K230 nin0
              replace E_sM := E_sM.keep K230
              replace F_coder_sM := F_coder_sM.keep K230 nin0
              replace F_value_sM := F_value_sM.keep K230 nin0
              replace V_tM := V_tM.keep K230 nin0
              replace E_sA := E_sA.keep K230
              replace F_coder_sA := F_coder_sA.keep K230 nin0
              replace F_value_sA := F_value_sA.keep K230 nin0
              replace V_tA := V_tA.keep K230 nin0
              replace E_w_EMPTY := E_w_EMPTY.keep K230
              replace F_value_w_EMPTY := F_value_w_EMPTY.keep K230 nin0
              replace E_b206 := E_b206.keep K230
              replace F_coder_b206 := F_coder_b206.keep K230 nin0
              replace F_value_b206 := F_value_b206.keep K230 nin0
              replace V_B206 := V_B206.keep K230 nin0
              replace E_b207 := E_b207.keep K230
              replace F_coder_b207 := F_coder_b207.keep K230 nin0
              replace F_value_b207 := F_value_b207.keep K230 nin0
              replace V_B207 := V_B207.keep K230 nin0
              replace E_b229 := E_b229.keep K230
              replace F_coder_b229 := F_coder_b229.keep K230 nin0
              replace F_value_b229 := F_value_b229.keep K230 nin0
              replace V_B229 := V_B229.keep K230 nin0
              replace Z0 := Nat.le_trans Z0 K230.1
              replace hk := Nat.le_trans hk K230.1
              have G230R := own_rvN G230R (by decide) (by decide)
              subst G230R
              have E_B230 : Exa Z h230 B230 "java/util/Optional" := G230E
              have F_value_B230 : Fld Z h230 B230 "java/util/Optional" "value" "Ljava/lang/Object;" .null := G230V
              have N230 := Fr.app N0 N230q
              obtain ⟨cq231, kq231, q231a, q231b, q231c⟩ := isOf hZ e230 E_B230
              obtain ⟨_, _, ⟨T231, L231, k231, n231⟩, -, X231, ⟨Lc231, hQ231, l231, y231, z231⟩, st231⟩ := X230.virtualBack hx (y := mn10) (z := mn10) hown (mvT hZ (ww hw 110 rfl)) (mvT hZ (ww hw 111 rfl)) (notFace_of_selects (args := #[]) (mvT hZ (ww hw 113 rfl))) (mvT hZ (ww hw 113 rfl)) (mvT hZ (ww hw 112 rfl)) (by decide) (backOf (W := 0) (rm21_n l Z a0 hw [] B230 h230 n0 Z0 F_value_B230) hZ (ww hw 114 rfl) (ww hw 107 rfl) (by decide) (by decide)) q231a q231c (g := (mkF m 314 (lo0_17 p1 p2 p3 p4 b206 b207 b229 B230) [.null, (.ref B230)])) rfl (by rw [hml]; rfl) (Steps.refl _) (argsL := [.null]) (rest := []) (lenOf pd_4 rfl) rfl (by show 2 * 0 + _ ≤ _; exact Nat.le_of_eq rfl) (hb hby at_314) (fun _ _ => ⟨rfl, e230, (by decide : 8 + 0 ≤ _), (by decide : 139 + 0 ≤ _)⟩)
              dsimp only [Pt.U, Pt.locs, Pt.cells, Pt.slots] at X231 l231 y231 z231 st231 hQ231
              rw [l231, y231, z231] at X231
              obtain ⟨rfl, N231q, e231⟩ := hQ231
              have N231 := Fr.app N230 N231q
              obtain ⟨fs, hr, hrun, hended, hEW⟩ := X231.leaveW hS (by rw [e231]; exact hk) (v := some (.int (1 : Int32))) (fun h => by rw [Bd.returns] at h; cases h)
              refine ⟨_, _, pre225 _ ?_, hrun, hended, _, _, rfl, ?_, hEW.1, hEW.2.1, hEW.2.2.1, hEW.2.2.2.mono (by decide) (by decide)⟩
              · refine y_ifYes X207 hx hby (pc' := 207) at_188 ((if0 _ _).trans (feq hc224).2) (by decide) (by decide) ?_
                refine st229 _ ?_
                show Steps p.tables e below (T229.setTop (mkF m 209 (lo0_5 p1 p2 p3 p4 b206 b207) [(.ref b229)])) _
                refine y_astore X229 hx hby at_209 rfl (l' := (lo0_15 p1 p2 p3 p4 b206 b207 b229)) rfl ?_
                refine y_aconstNull X229 hx hby at_211 ?_
                refine y_astore X229 hx hby at_212 rfl (l' := (lo0_16 p1 p2 p3 p4 b206 b207 b229)) rfl ?_
                refine y_goto X229 hx hby (pc' := 297) at_214 (by decide) (by decide) ?_
                refine y_aload X229 hx hby at_297 rfl rfl ?_
                refine st230 _ ?_
                show Steps p.tables e below (T230.setTop (mkF m 302 (lo0_16 p1 p2 p3 p4 b206 b207 b229) [(.ref B230)])) _
                refine y_astore X230 hx hby at_302 rfl (l' := (lo0_17 p1 p2 p3 p4 b206 b207 b229 B230)) rfl ?_
                refine y_aload X230 hx hby at_304 rfl rfl ?_
                refine y_ifnonnullYes X230 hx hby (pc' := 311) at_306 (by decide) (by decide) ?_
                refine y_aload X230 hx hby at_311 rfl rfl ?_
                refine y_aconstNull X230 hx hby at_313 ?_
                refine st231.trans ?_
                show Steps p.tables e below (T231.setTop (mkF m 317 (lo0_17 p1 p2 p3 p4 b206 b207 b229 B230) [.null])) _
                refine y_aload X231 hx hby at_317 rfl rfl ?_
                show Steps p.tables e below (T231.setTop (mkF m 319 (lo0_17 p1 p2 p3 p4 b206 b207 b229 B230) [.null, .null])) _
                refine Jvm.RoadKit.acmp (g := (mkF m 319 (lo0_17 p1 p2 p3 p4 b206 b207 b229 B230) [.null, .null])) X231 hx rfl rfl rfl (pc0 := 319) (pc' := 322) (same := true) rfl (hb hby at_319) rfl (decide_eq_true rfl) (by decide) (by decide) ?_
                show Steps p.tables e below (T231.setTop (mkF m 322 (lo0_17 p1 p2 p3 p4 b206 b207 b229 B230) [])) _
                refine y_iconst X231 hx hby (v := (1 : Int32)) at_322 rfl ?_
                refine y_goto X231 hx hby (pc' := 327) at_323 (by decide) (by decide) ?_
                exact retN X231 hx (t := .boolean) Bd.returns (by simp) (hb hby at_327) hr
              · exact ⟨rfl, N231⟩
          · have pre233 : GO p e below (T207.setTop (mkF m 234 (lo0_19 p1 p2 p3 p4 b206 b207) [(.int (p4 &&& (3 : Int32)))])) (s₁.setTop (entryFrame m #[(.int p1), (.int p2), (.int p3), (.int p4)] maxLocals)) := fun t k => by
              refine pre223 _ ?_
              refine y_icmpYes X207 hx hby (pc' := 217) at_182 (feq hc222).2 (by decide) (by decide) ?_
              refine y_iloadN X207 hx hby at_217 rfl ?_
              refine y_iconst X207 hx hby (v := (3 : Int32)) at_218 rfl ?_
              refine y_iand X207 hx hby at_219 ?_
              refine y_istore X207 hx hby at_220 (l' := (lo0_18 p1 p2 p3 p4 b206 b207)) rfl ?_
              refine y_iloadN X207 hx hby at_222 rfl ?_
              refine y_iconst X207 hx hby (v := (2 : Int32)) at_223 rfl ?_
              refine y_iushr X207 hx hby at_224 ?_
              refine y_sipush X207 hx hby (v := (255 : Int32)) at_225 rfl ?_
              refine y_iand X207 hx hby at_228 ?_
              refine y_i2c X207 hx hby at_229 ?_
              refine y_istore X207 hx hby at_230 (l' := (lo0_19 p1 p2 p3 p4 b206 b207)) rfl ?_
              refine y_iload X207 hx hby at_232 rfl ?_
              exact k
            by_cases hc232 : (p4 &&& (3 : Int32)) = (0 : Int32)
            · obtain ⟨b234, T234, h234, k234, B234, kb234, X234, e234, E234, hS, hk, hZ, hown, G234E, G234C, G234V, G234A, -, -, hCr234, -, -, st234⟩ := ldcCH X207 hx hZ hown (ww hw 146 rfl) wS e207 hS hk hEL (List.mem_of_getElem? (i := 3) rfl) hCH (vs := ((C0.map StrChars.lo8).map Value.int)) (z := (0 : Int32)) ⟨by decide, by rfl⟩ (by decide) (by decide) (g := (mkF m 237 (lo0_19 p1 p2 p3 p4 b206 b207) [])) rfl (hb hby at_237) (n := 0) (by decide) (by decide) (by decide) (by decide)
              replace hCH := hCr234.1
              replace E_w__VALUES := E_w__VALUES.ext E234
              replace V_w__VALUES := V_w__VALUES.ext E234
              replace F_jsonName_w_MONITORING := F_jsonName_w_MONITORING.ext E234
              replace F_jsonName_w_ABUSE_REPORTS := F_jsonName_w_ABUSE_REPORTS.ext E234
              replace E_sM := E_sM.ext E234
              replace F_coder_sM := F_coder_sM.ext E234
              replace F_value_sM := F_value_sM.ext E234
              replace V_tM := V_tM.ext E234
              replace E_sA := E_sA.ext E234
              replace F_coder_sA := F_coder_sA.ext E234
              replace F_value_sA := F_value_sA.ext E234
              replace V_tA := V_tA.ext E234
              replace E_w_EMPTY := E_w_EMPTY.ext E234
              replace F_value_w_EMPTY := F_value_w_EMPTY.ext E234
              replace S__VALUES := S__VALUES.ext E234
              replace S_EMPTY := S_EMPTY.ext E234
              replace S_COMPACT_STRINGS := S_COMPACT_STRINGS.ext E234
              replace S_SIOOBE_FORMATTER := S_SIOOBE_FORMATTER.ext E234
              replace S_MONITORING := S_MONITORING.ext E234
              replace S_ABUSE_REPORTS := S_ABUSE_REPORTS.ext E234
              replace E_b206 := E_b206.ext E234
              replace F_coder_b206 := F_coder_b206.ext E234
              replace F_value_b206 := F_value_b206.ext E234
              replace V_B206 := V_B206.ext E234
              replace E_b207 := E_b207.ext E234
              replace F_coder_b207 := F_coder_b207.ext E234
              replace F_value_b207 := F_value_b207.ext E234
              replace V_B207 := V_B207.ext E234
              replace Z0 := Nat.le_trans Z0 E234.1
              have E_b234 : Exa Z h234 b234 "java/lang/String" := G234E
              have F_coder_b234 : Fld Z h234 b234 "java/lang/String" "coder" "B" (.int (0 : Int32)) := G234C
              have F_value_b234 : Fld Z h234 b234 "java/lang/String" "value" "[B" (.ref B234) := G234V
              have V_B234 : Arv Z h234 B234 kb234 .byte (0 : Int32) ((C0.map StrChars.lo8).map Value.int) (.int (0 : Int32)) := G234A
              obtain ⟨_, _, ⟨T235, L235, k235, n235⟩, -, X235, ⟨Lc235, hQ235, l235, y235, z235⟩, st235⟩ := Jvm.LawKit.callS X234 hx (y := mn16) hown (mvT hZ (ww hw 73 rfl)) (mvT hZ (ww hw 74 rfl)) (mvT hZ (ww hw 75 rfl)) (mvT hZ (ww hw 76 rfl)) (by decide) (backOf (W := 0) (rm16_s l Z a0 hw [] b234 B234 kb234 (0 : Int32) ((C0.map StrChars.lo8).map Value.int) C0 w_MONITORING w_ABUSE_REPORTS kV w__VALUES sM tM kM sA tA kA w_EMPTY w_COMPACT_STRINGS h234 n0 Z0 S__VALUES S_EMPTY S_COMPACT_STRINGS hz (own_cod (n := 0) rfl own_rc0) own_rc0 (by decide) E_b234 F_coder_b234 F_value_b234 V_B234 E_w__VALUES V_w__VALUES F_jsonName_w_MONITORING F_jsonName_w_ABUSE_REPORTS E_sM F_coder_sM F_value_sM V_tM E_sA F_coder_sA F_value_sA V_tA E_w_EMPTY F_value_w_EMPTY) hZ (ww hw 76 rfl) (ww hw 75 rfl) (by decide) (by decide)) (g := (mkF m 299 (lo0_21 p1 p2 p3 p4 b206 b207 b234) [(.ref b234)])) rfl (by rw [hml]; rfl) (argsL := [(.ref b234)]) (rest := []) (lenOf pd_14 rfl) rfl (by show 2 * 0 + _ ≤ _; exact Nat.le_of_eq rfl) (hb hby at_299) (fun _ _ => ⟨rfl, e234, (by decide : 6 + 2 ≤ _), (by decide : 100 + 3 ≤ _)⟩)
              dsimp only [Pt.U, Pt.locs, Pt.cells, Pt.slots] at X235 l235 y235 z235 st235 hQ235
              rw [l235, y235, z235] at X235
              obtain ⟨h235, e235⟩ : ∃ z, T235.heap = z := ⟨_, rfl⟩
              rw [e235] at hQ235
              obtain ⟨B235, w235, rfl, N235q, K235, G235E, G235V, G235R⟩ := hQ235
              replace S__VALUES := own_stakeep S__VALUES K235 ns0
              replace S_EMPTY := own_stakeep S_EMPTY K235 ns0
              replace S_COMPACT_STRINGS := own_stakeep S_COMPACT_STRINGS K235 ns0
              replace S_SIOOBE_FORMATTER := own_stakeep S_SIOOBE_FORMATTER K235 ns0
              replace S_MONITORING := own_stakeep S_MONITORING K235 ns0
              replace S_ABUSE_REPORTS := own_stakeep S_ABUSE_REPORTS K235 ns0
              replace E_w__VALUES := E_w__VALUES.keep K235
              replace V_w__VALUES := V_w__VALUES.keep K235 nin0
              replace F_jsonName_w_MONITORING := F_jsonName_w_MONITORING.keep K235 nin0
              replace F_jsonName_w_ABUSE_REPORTS := F_jsonName_w_ABUSE_REPORTS.keep K235 nin0
              replace E_sM := E_sM.keep K235
              replace F_coder_sM := F_coder_sM.keep K235 nin0
              replace F_value_sM := F_value_sM.keep K235 nin0
              replace V_tM := V_tM.keep K235 nin0
              replace E_sA := E_sA.keep K235
              replace F_coder_sA := F_coder_sA.keep K235 nin0
              replace F_value_sA := F_value_sA.keep K235 nin0
              replace V_tA := V_tA.keep K235 nin0
              replace E_w_EMPTY := E_w_EMPTY.keep K235
              replace F_value_w_EMPTY := F_value_w_EMPTY.keep K235 nin0
              replace E_b206 := E_b206.keep K235
              replace F_coder_b206 := F_coder_b206.keep K235 nin0
              replace F_value_b206 := F_value_b206.keep K235 nin0
              replace V_B206 := V_B206.keep K235 nin0
              replace E_b207 := E_b207.keep K235
              replace F_coder_b207 := F_coder_b207.keep K235 nin0
              replace F_value_b207 := F_value_b207.keep K235 nin0
              replace V_B207 := V_B207.keep K235 nin0
              replace E_b234 := E_b234.keep K235
              replace F_coder_b234 := F_coder_b234.keep K235 nin0
              replace F_value_b234 := F_value_b234.keep K235 nin0
              replace V_B234 := V_B234.keep K235 nin0
              replace Z0 := Nat.le_trans Z0 K235.1
              replace hk := Nat.le_trans hk K235.1
              have G235R := own_rvN G235R (by decide) (by decide)
              subst G235R
              have E_B235 : Exa Z h235 B235 "java/util/Optional" := G235E
              have F_value_B235 : Fld Z h235 B235 "java/util/Optional" "value" "Ljava/lang/Object;" .null := G235V
              have N235 := Fr.app N0 N235q
              obtain ⟨cq236, kq236, q236a, q236b, q236c⟩ := isOf hZ e235 E_B235
              obtain ⟨_, _, ⟨T236, L236, k236, n236⟩, -, X236, ⟨Lc236, hQ236, l236, y236, z236⟩, st236⟩ := X235.virtualBack hx (y := mn10) (z := mn10) hown (mvT hZ (ww hw 110 rfl)) (mvT hZ (ww hw 111 rfl)) (notFace_of_selects (args := #[]) (mvT hZ (ww hw 113 rfl))) (mvT hZ (ww hw 113 rfl)) (mvT hZ (ww hw 112 rfl)) (by decide) (backOf (W := 0) (rm21_n l Z a0 hw [] B235 h235 n0 Z0 F_value_B235) hZ (ww hw 114 rfl) (ww hw 107 rfl) (by decide) (by decide)) q236a q236c (g := (mkF m 314 (lo0_22 p1 p2 p3 p4 b206 b207 b234 B235) [.null, (.ref B235)])) rfl (by rw [hml]; rfl) (Steps.refl _) (argsL := [.null]) (rest := []) (lenOf pd_4 rfl) rfl (by show 2 * 0 + _ ≤ _; exact Nat.le_of_eq rfl) (hb hby at_314) (fun _ _ => ⟨rfl, e235, (by decide : 8 + 0 ≤ _), (by decide : 103 + 0 ≤ _)⟩)
              dsimp only [Pt.U, Pt.locs, Pt.cells, Pt.slots] at X236 l236 y236 z236 st236 hQ236
              rw [l236, y236, z236] at X236
              obtain ⟨rfl, N236q, e236⟩ := hQ236
              have N236 := Fr.app N235 N236q
              obtain ⟨fs, hr, hrun, hended, hEW⟩ := X236.leaveW hS (by rw [e236]; exact hk) (v := some (.int (1 : Int32))) (fun h => by rw [Bd.returns] at h; cases h)
              refine ⟨_, _, pre233 _ ?_, hrun, hended, _, _, rfl, ?_, hEW.1, hEW.2.1, hEW.2.2.1, hEW.2.2.2.mono (by decide) (by decide)⟩
              · refine y_ifNo X207 hx hby at_234 ((if0 _ _).trans (teq hc232).2) ?_
                refine st234 _ ?_
                show Steps p.tables e below (T234.setTop (mkF m 239 (lo0_19 p1 p2 p3 p4 b206 b207) [(.ref b234)])) _
                refine y_astore X234 hx hby at_239 rfl (l' := (lo0_20 p1 p2 p3 p4 b206 b207 b234)) rfl ?_
                refine y_goto X234 hx hby (pc' := 294) at_241 (by decide) (by decide) ?_
                refine y_aconstNull X234 hx hby at_294 ?_
                refine y_astore X234 hx hby at_295 rfl (l' := (lo0_21 p1 p2 p3 p4 b206 b207 b234)) rfl ?_
                refine y_aload X234 hx hby at_297 rfl rfl ?_
                refine st235 _ ?_
                show Steps p.tables e below (T235.setTop (mkF m 302 (lo0_21 p1 p2 p3 p4 b206 b207 b234) [(.ref B235)])) _
                refine y_astore X235 hx hby at_302 rfl (l' := (lo0_22 p1 p2 p3 p4 b206 b207 b234 B235)) rfl ?_
                refine y_aload X235 hx hby at_304 rfl rfl ?_
                refine y_ifnonnullYes X235 hx hby (pc' := 311) at_306 (by decide) (by decide) ?_
                refine y_aload X235 hx hby at_311 rfl rfl ?_
                refine y_aconstNull X235 hx hby at_313 ?_
                refine st236.trans ?_
                show Steps p.tables e below (T236.setTop (mkF m 317 (lo0_22 p1 p2 p3 p4 b206 b207 b234 B235) [.null])) _
                refine y_aload X236 hx hby at_317 rfl rfl ?_
                show Steps p.tables e below (T236.setTop (mkF m 319 (lo0_22 p1 p2 p3 p4 b206 b207 b234 B235) [.null, .null])) _
                refine Jvm.RoadKit.acmp (g := (mkF m 319 (lo0_22 p1 p2 p3 p4 b206 b207 b234 B235) [.null, .null])) X236 hx rfl rfl rfl (pc0 := 319) (pc' := 322) (same := true) rfl (hb hby at_319) rfl (decide_eq_true rfl) (by decide) (by decide) ?_
                show Steps p.tables e below (T236.setTop (mkF m 322 (lo0_22 p1 p2 p3 p4 b206 b207 b234 B235) [])) _
                refine y_iconst X236 hx hby (v := (1 : Int32)) at_322 rfl ?_
                refine y_goto X236 hx hby (pc' := 327) at_323 (by decide) (by decide) ?_
                exact retN X236 hx (t := .boolean) Bd.returns (by simp) (hb hby at_327) hr
              · exact ⟨rfl, N236⟩
            · have pre238 : GO p e below (T207.setTop (mkF m 247 (lo0_19 p1 p2 p3 p4 b206 b207) [(.int (1 : Int32)), (.int (p4 &&& (3 : Int32)))])) (s₁.setTop (entryFrame m #[(.int p1), (.int p2), (.int p3), (.int p4)] maxLocals)) := fun t k => by
                refine pre233 _ ?_
                refine y_ifYes X207 hx hby (pc' := 244) at_234 ((if0 _ _).trans (feq hc232).2) (by decide) (by decide) ?_
                refine y_iload X207 hx hby at_244 rfl ?_
                refine y_iconst X207 hx hby (v := (1 : Int32)) at_246 rfl ?_
                exact k
              by_cases hc237 : (p4 &&& (3 : Int32)) = (1 : Int32)
              · obtain ⟨_, _, ⟨T239, L239, k239, n239⟩, -, X239, ⟨Lc239, hQ239, l239, y239, z239⟩, st239⟩ := Jvm.LawKit.callS X207 hx (y := mn13) hown (mvT hZ (ww hw 132 rfl)) (mvT hZ (ww hw 133 rfl)) (mvT hZ (ww hw 1 rfl)) (mvT hZ (ww hw 134 rfl)) (by decide) (backOf (W := 0) (rm25 l Z a0 hw [] ((p3 &&& (255 : Int32)).toUInt32.toUInt16.toUInt32.toInt32) w_COMPACT_STRINGS h207 n0 Z0 S_COMPACT_STRINGS hz (own_char p3)) hZ (ww hw 134 rfl) (ww hw 1 rfl) (by decide) (by decide)) (g := (mkF m 252 (lo0_19 p1 p2 p3 p4 b206 b207) [(.int ((p3 &&& (255 : Int32)).toUInt32.toUInt16.toUInt32.toInt32))])) rfl (by rw [hml]; rfl) (argsL := [(.int ((p3 &&& (255 : Int32)).toUInt32.toUInt16.toUInt32.toInt32))]) (rest := []) (lenOf pd_15 rfl) rfl (by show 2 * 0 + _ ≤ _; exact Nat.le_of_eq rfl) (hb hby at_252) (fun _ _ => ⟨rfl, e207, (by decide : 4 + 2 ≤ _), (by decide : 96 + 5 ≤ _)⟩)
                dsimp only [Pt.U, Pt.locs, Pt.cells, Pt.slots] at X239 l239 y239 z239 st239 hQ239
                rw [l239, y239, z239] at X239
                obtain ⟨h239, e239⟩ : ∃ z, T239.heap = z := ⟨_, rfl⟩
                rw [e239] at hQ239
                obtain ⟨b239, B239, kb239, rfl, N239q, K239, szx239, szt239, G239E, G239C, G239V, G239A⟩ := hQ239
                have g_b239 : n0 ≤ b239 := Nat.le_trans Z0 szx239
                have ne_w__VALUES_b239 : w__VALUES ≠ b239 := Nat.ne_of_lt (Nat.lt_of_lt_of_le E_w__VALUES.lt szx239)
                have ne_sM_b239 : sM ≠ b239 := Nat.ne_of_lt (Nat.lt_of_lt_of_le E_sM.lt szx239)
                have ne_tM_b239 : tM ≠ b239 := Nat.ne_of_lt (Nat.lt_of_lt_of_le V_tM.lt szx239)
                have ne_sA_b239 : sA ≠ b239 := Nat.ne_of_lt (Nat.lt_of_lt_of_le E_sA.lt szx239)
                have ne_tA_b239 : tA ≠ b239 := Nat.ne_of_lt (Nat.lt_of_lt_of_le V_tA.lt szx239)
                have ne_w_EMPTY_b239 : w_EMPTY ≠ b239 := Nat.ne_of_lt (Nat.lt_of_lt_of_le E_w_EMPTY.lt szx239)
                have ne_w_MONITORING_b239 : w_MONITORING ≠ b239 := Nat.ne_of_lt (Nat.lt_of_lt_of_le F_jsonName_w_MONITORING.lt szx239)
                have ne_w_ABUSE_REPORTS_b239 : w_ABUSE_REPORTS ≠ b239 := Nat.ne_of_lt (Nat.lt_of_lt_of_le F_jsonName_w_ABUSE_REPORTS.lt szx239)
                have ne_b206_b239 : b206 ≠ b239 := Nat.ne_of_lt (Nat.lt_of_lt_of_le E_b206.lt szx239)
                have ne_B206_b239 : B206 ≠ b239 := Nat.ne_of_lt (Nat.lt_of_lt_of_le V_B206.lt szx239)
                have ne_b207_b239 : b207 ≠ b239 := Nat.ne_of_lt (Nat.lt_of_lt_of_le E_b207.lt szx239)
                have ne_B207_b239 : B207 ≠ b239 := Nat.ne_of_lt (Nat.lt_of_lt_of_le V_B207.lt szx239)
                have g_B239 : n0 ≤ B239 := Nat.le_trans Z0 szt239
                have ne_w__VALUES_B239 : w__VALUES ≠ B239 := Nat.ne_of_lt (Nat.lt_of_lt_of_le E_w__VALUES.lt szt239)
                have ne_sM_B239 : sM ≠ B239 := Nat.ne_of_lt (Nat.lt_of_lt_of_le E_sM.lt szt239)
                have ne_tM_B239 : tM ≠ B239 := Nat.ne_of_lt (Nat.lt_of_lt_of_le V_tM.lt szt239)
                have ne_sA_B239 : sA ≠ B239 := Nat.ne_of_lt (Nat.lt_of_lt_of_le E_sA.lt szt239)
                have ne_tA_B239 : tA ≠ B239 := Nat.ne_of_lt (Nat.lt_of_lt_of_le V_tA.lt szt239)
                have ne_w_EMPTY_B239 : w_EMPTY ≠ B239 := Nat.ne_of_lt (Nat.lt_of_lt_of_le E_w_EMPTY.lt szt239)
                have ne_w_MONITORING_B239 : w_MONITORING ≠ B239 := Nat.ne_of_lt (Nat.lt_of_lt_of_le F_jsonName_w_MONITORING.lt szt239)
                have ne_w_ABUSE_REPORTS_B239 : w_ABUSE_REPORTS ≠ B239 := Nat.ne_of_lt (Nat.lt_of_lt_of_le F_jsonName_w_ABUSE_REPORTS.lt szt239)
                have ne_b206_B239 : b206 ≠ B239 := Nat.ne_of_lt (Nat.lt_of_lt_of_le E_b206.lt szt239)
                have ne_B206_B239 : B206 ≠ B239 := Nat.ne_of_lt (Nat.lt_of_lt_of_le V_B206.lt szt239)
                have ne_b207_B239 : b207 ≠ B239 := Nat.ne_of_lt (Nat.lt_of_lt_of_le E_b207.lt szt239)
                have ne_B207_B239 : B207 ≠ B239 := Nat.ne_of_lt (Nat.lt_of_lt_of_le V_B207.lt szt239)
                replace S__VALUES := own_stakeep S__VALUES K239 ns0
                replace S_EMPTY := own_stakeep S_EMPTY K239 ns0
                replace S_COMPACT_STRINGS := own_stakeep S_COMPACT_STRINGS K239 ns0
                replace S_SIOOBE_FORMATTER := own_stakeep S_SIOOBE_FORMATTER K239 ns0
                replace S_MONITORING := own_stakeep S_MONITORING K239 ns0
                replace S_ABUSE_REPORTS := own_stakeep S_ABUSE_REPORTS K239 ns0
                replace E_w__VALUES := E_w__VALUES.keep K239
                replace V_w__VALUES := V_w__VALUES.keep K239 nin0
                replace F_jsonName_w_MONITORING := F_jsonName_w_MONITORING.keep K239 nin0
                replace F_jsonName_w_ABUSE_REPORTS := F_jsonName_w_ABUSE_REPORTS.keep K239 nin0
                replace E_sM := E_sM.keep K239
                replace F_coder_sM := F_coder_sM.keep K239 nin0
                replace F_value_sM := F_value_sM.keep K239 nin0
                replace V_tM := V_tM.keep K239 nin0
                replace E_sA := E_sA.keep K239
                replace F_coder_sA := F_coder_sA.keep K239 nin0
                replace F_value_sA := F_value_sA.keep K239 nin0
                replace V_tA := V_tA.keep K239 nin0
                replace E_w_EMPTY := E_w_EMPTY.keep K239
                replace F_value_w_EMPTY := F_value_w_EMPTY.keep K239 nin0
                replace E_b206 := E_b206.keep K239
                replace F_coder_b206 := F_coder_b206.keep K239 nin0
                replace F_value_b206 := F_value_b206.keep K239 nin0
                replace V_B206 := V_B206.keep K239 nin0
                replace E_b207 := E_b207.keep K239
                replace F_coder_b207 := F_coder_b207.keep K239 nin0
                replace F_value_b207 := F_value_b207.keep K239 nin0
                replace V_B207 := V_B207.keep K239 nin0
                replace Z0 := Nat.le_trans Z0 K239.1
                replace hk := Nat.le_trans hk K239.1
                have E_b239 : Exa Z h239 b239 "java/lang/String" := G239E
                have F_coder_b239 : Fld Z h239 b239 "java/lang/String" "coder" "B" (.int (0 : Int32)) := G239C
                have F_value_b239 : Fld Z h239 b239 "java/lang/String" "value" "[B" (.ref B239) := G239V
                have V_B239 : Arv Z h239 B239 kb239 .byte (1 : Int32) (([((p3 &&& (255 : Int32)).toUInt32.toUInt16.toUInt32.toInt32)].map StrChars.lo8).map Value.int) (.int (0 : Int32)) := G239A
                have N239 := Fr.app N0 N239q
                obtain ⟨_, _, ⟨T240, L240, k240, n240⟩, -, X240, ⟨Lc240, hQ240, l240, y240, z240⟩, st240⟩ := Jvm.LawKit.callS X239 hx (y := mn16) hown (mvT hZ (ww hw 73 rfl)) (mvT hZ (ww hw 74 rfl)) (mvT hZ (ww hw 75 rfl)) (mvT hZ (ww hw 76 rfl)) (by decide) (backOf (W := 0) (rm16_s l Z a0 hw [] b239 B239 kb239 (1 : Int32) (([((p3 &&& (255 : Int32)).toUInt32.toUInt16.toUInt32.toInt32)].map StrChars.lo8).map Value.int) [((p3 &&& (255 : Int32)).toUInt32.toUInt16.toUInt32.toInt32)] w_MONITORING w_ABUSE_REPORTS kV w__VALUES sM tM kM sA tA kA w_EMPTY w_COMPACT_STRINGS h239 n0 Z0 S__VALUES S_EMPTY S_COMPACT_STRINGS hz (own_cod (n := 1) rfl (own_r1 (own_char p3))) (own_r1 (own_char p3)) (Nat.le_of_ble_eq_true rfl) E_b239 F_coder_b239 F_value_b239 V_B239 E_w__VALUES V_w__VALUES F_jsonName_w_MONITORING F_jsonName_w_ABUSE_REPORTS E_sM F_coder_sM F_value_sM V_tM E_sA F_coder_sA F_value_sA V_tA E_w_EMPTY F_value_w_EMPTY) hZ (ww hw 76 rfl) (ww hw 75 rfl) (by decide) (by decide)) (g := (mkF m 299 (lo0_24 p1 p2 p3 p4 b206 b207 b239) [(.ref b239)])) rfl (by rw [hml]; rfl) (argsL := [(.ref b239)]) (rest := []) (lenOf pd_14 rfl) rfl (by show 2 * 0 + _ ≤ _; exact Nat.le_of_eq rfl) (hb hby at_299) (fun _ _ => ⟨rfl, e239, (by decide : 6 + 2 ≤ _), (by decide : 101 + 3 ≤ _)⟩)
                dsimp only [Pt.U, Pt.locs, Pt.cells, Pt.slots] at X240 l240 y240 z240 st240 hQ240
                rw [l240, y240, z240] at X240
                obtain ⟨h240, e240⟩ : ∃ z, T240.heap = z := ⟨_, rfl⟩
                rw [e240] at hQ240
                obtain ⟨B240, w240, rfl, N240q, K240, G240E, G240V, G240R⟩ := hQ240
                replace S__VALUES := own_stakeep S__VALUES K240 ns0
                replace S_EMPTY := own_stakeep S_EMPTY K240 ns0
                replace S_COMPACT_STRINGS := own_stakeep S_COMPACT_STRINGS K240 ns0
                replace S_SIOOBE_FORMATTER := own_stakeep S_SIOOBE_FORMATTER K240 ns0
                replace S_MONITORING := own_stakeep S_MONITORING K240 ns0
                replace S_ABUSE_REPORTS := own_stakeep S_ABUSE_REPORTS K240 ns0
                replace E_w__VALUES := E_w__VALUES.keep K240
                replace V_w__VALUES := V_w__VALUES.keep K240 nin0
                replace F_jsonName_w_MONITORING := F_jsonName_w_MONITORING.keep K240 nin0
                replace F_jsonName_w_ABUSE_REPORTS := F_jsonName_w_ABUSE_REPORTS.keep K240 nin0
                replace E_sM := E_sM.keep K240
                replace F_coder_sM := F_coder_sM.keep K240 nin0
                replace F_value_sM := F_value_sM.keep K240 nin0
                replace V_tM := V_tM.keep K240 nin0
                replace E_sA := E_sA.keep K240
                replace F_coder_sA := F_coder_sA.keep K240 nin0
                replace F_value_sA := F_value_sA.keep K240 nin0
                replace V_tA := V_tA.keep K240 nin0
                replace E_w_EMPTY := E_w_EMPTY.keep K240
                replace F_value_w_EMPTY := F_value_w_EMPTY.keep K240 nin0
                replace E_b206 := E_b206.keep K240
                replace F_coder_b206 := F_coder_b206.keep K240 nin0
                replace F_value_b206 := F_value_b206.keep K240 nin0
                replace V_B206 := V_B206.keep K240 nin0
                replace E_b207 := E_b207.keep K240
                replace F_coder_b207 := F_coder_b207.keep K240 nin0
                replace F_value_b207 := F_value_b207.keep K240 nin0
                replace V_B207 := V_B207.keep K240 nin0
                replace E_b239 := E_b239.keep K240
                replace F_coder_b239 := F_coder_b239.keep K240 nin0
                replace F_value_b239 := F_value_b239.keep K240 nin0
                replace V_B239 := V_B239.keep K240 nin0
                replace Z0 := Nat.le_trans Z0 K240.1
                replace hk := Nat.le_trans hk K240.1
                have G240R := own_rvN G240R (own_lne (n := 10) (m := 1) rfl rfl (by decide)) (own_lne (n := 12) (m := 1) rfl rfl (by decide))
                subst G240R
                have E_B240 : Exa Z h240 B240 "java/util/Optional" := G240E
                have F_value_B240 : Fld Z h240 B240 "java/util/Optional" "value" "Ljava/lang/Object;" .null := G240V
                have N240 := Fr.app N239 N240q
                obtain ⟨cq241, kq241, q241a, q241b, q241c⟩ := isOf hZ e240 E_B240
                obtain ⟨_, _, ⟨T241, L241, k241, n241⟩, -, X241, ⟨Lc241, hQ241, l241, y241, z241⟩, st241⟩ := X240.virtualBack hx (y := mn10) (z := mn10) hown (mvT hZ (ww hw 110 rfl)) (mvT hZ (ww hw 111 rfl)) (notFace_of_selects (args := #[]) (mvT hZ (ww hw 113 rfl))) (mvT hZ (ww hw 113 rfl)) (mvT hZ (ww hw 112 rfl)) (by decide) (backOf (W := 0) (rm21_n l Z a0 hw [] B240 h240 n0 Z0 F_value_B240) hZ (ww hw 114 rfl) (ww hw 107 rfl) (by decide) (by decide)) q241a q241c (g := (mkF m 314 (lo0_25 p1 p2 p3 p4 b206 b207 b239 B240) [.null, (.ref B240)])) rfl (by rw [hml]; rfl) (Steps.refl _) (argsL := [.null]) (rest := []) (lenOf pd_4 rfl) rfl (by show 2 * 0 + _ ≤ _; exact Nat.le_of_eq rfl) (hb hby at_314) (fun _ _ => ⟨rfl, e240, (by decide : 8 + 0 ≤ _), (by decide : 104 + 0 ≤ _)⟩)
                dsimp only [Pt.U, Pt.locs, Pt.cells, Pt.slots] at X241 l241 y241 z241 st241 hQ241
                rw [l241, y241, z241] at X241
                obtain ⟨rfl, N241q, e241⟩ := hQ241
                have N241 := Fr.app N240 N241q
                obtain ⟨fs, hr, hrun, hended, hEW⟩ := X241.leaveW hS (by rw [e241]; exact hk) (v := some (.int (1 : Int32))) (fun h => by rw [Bd.returns] at h; cases h)
                refine ⟨_, _, pre238 _ ?_, hrun, hended, _, _, rfl, ?_, hEW.1, hEW.2.1, hEW.2.2.1, hEW.2.2.2.mono (by decide) (by decide)⟩
                · refine y_icmpNo X207 hx hby at_247 (teq hc237).2 ?_
                  refine y_iload X207 hx hby at_250 rfl ?_
                  refine st239 _ ?_
                  show Steps p.tables e below (T239.setTop (mkF m 255 (lo0_19 p1 p2 p3 p4 b206 b207) [(.ref b239)])) _
                  refine y_astore X239 hx hby at_255 rfl (l' := (lo0_23 p1 p2 p3 p4 b206 b207 b239)) rfl ?_
                  refine y_goto X239 hx hby (pc' := 294) at_257 (by decide) (by decide) ?_
                  refine y_aconstNull X239 hx hby at_294 ?_
                  refine y_astore X239 hx hby at_295 rfl (l' := (lo0_24 p1 p2 p3 p4 b206 b207 b239)) rfl ?_
                  refine y_aload X239 hx hby at_297 rfl rfl ?_
                  refine st240 _ ?_
                  show Steps p.tables e below (T240.setTop (mkF m 302 (lo0_24 p1 p2 p3 p4 b206 b207 b239) [(.ref B240)])) _
                  refine y_astore X240 hx hby at_302 rfl (l' := (lo0_25 p1 p2 p3 p4 b206 b207 b239 B240)) rfl ?_
                  refine y_aload X240 hx hby at_304 rfl rfl ?_
                  refine y_ifnonnullYes X240 hx hby (pc' := 311) at_306 (by decide) (by decide) ?_
                  refine y_aload X240 hx hby at_311 rfl rfl ?_
                  refine y_aconstNull X240 hx hby at_313 ?_
                  refine st241.trans ?_
                  show Steps p.tables e below (T241.setTop (mkF m 317 (lo0_25 p1 p2 p3 p4 b206 b207 b239 B240) [.null])) _
                  refine y_aload X241 hx hby at_317 rfl rfl ?_
                  show Steps p.tables e below (T241.setTop (mkF m 319 (lo0_25 p1 p2 p3 p4 b206 b207 b239 B240) [.null, .null])) _
                  refine Jvm.RoadKit.acmp (g := (mkF m 319 (lo0_25 p1 p2 p3 p4 b206 b207 b239 B240) [.null, .null])) X241 hx rfl rfl rfl (pc0 := 319) (pc' := 322) (same := true) rfl (hb hby at_319) rfl (decide_eq_true rfl) (by decide) (by decide) ?_
                  show Steps p.tables e below (T241.setTop (mkF m 322 (lo0_25 p1 p2 p3 p4 b206 b207 b239 B240) [])) _
                  refine y_iconst X241 hx hby (v := (1 : Int32)) at_322 rfl ?_
                  refine y_goto X241 hx hby (pc' := 327) at_323 (by decide) (by decide) ?_
                  exact retN X241 hx (t := .boolean) Bd.returns (by simp) (hb hby at_327) hr
                · exact ⟨rfl, N241⟩
              · have pre243 : GO p e below (T207.setTop (mkF m 263 (lo0_19 p1 p2 p3 p4 b206 b207) [(.int (2 : Int32)), (.int (p4 &&& (3 : Int32)))])) (s₁.setTop (entryFrame m #[(.int p1), (.int p2), (.int p3), (.int p4)] maxLocals)) := fun t k => by
                  refine pre238 _ ?_
                  refine y_icmpYes X207 hx hby (pc' := 260) at_247 (feq hc237).2 (by decide) (by decide) ?_
                  refine y_iload X207 hx hby at_260 rfl ?_
                  refine y_iconst X207 hx hby (v := (2 : Int32)) at_262 rfl ?_
                  exact k
                by_cases hc242 : (p4 &&& (3 : Int32)) = (2 : Int32)
                · obtain ⟨_, _, ⟨T244, L244, k244, n244⟩, -, X244, ⟨Lc244, hQ244, l244, y244, z244⟩, st244⟩ := Jvm.LawKit.callS X207 hx (y := mn16) hown (mvT hZ (ww hw 73 rfl)) (mvT hZ (ww hw 74 rfl)) (mvT hZ (ww hw 75 rfl)) (mvT hZ (ww hw 76 rfl)) (by decide) (backOf (W := 0) (rm16_z l Z a0 hw [] w_MONITORING w_ABUSE_REPORTS kV w__VALUES sM tM kM sA tA kA w_EMPTY w_COMPACT_STRINGS h207 n0 Z0 S__VALUES S_EMPTY S_COMPACT_STRINGS hz E_w__VALUES V_w__VALUES F_jsonName_w_MONITORING F_jsonName_w_ABUSE_REPORTS E_sM F_coder_sM F_value_sM V_tM E_sA F_coder_sA F_value_sA V_tA E_w_EMPTY F_value_w_EMPTY) hZ (ww hw 76 rfl) (ww hw 75 rfl) (by decide) (by decide)) (g := (mkF m 299 (lo0_27 p1 p2 p3 p4 b206 b207) [.null])) rfl (by rw [hml]; rfl) (argsL := [.null]) (rest := []) (lenOf pd_14 rfl) rfl (by show 2 * 0 + _ ≤ _; exact Nat.le_of_eq rfl) (hb hby at_299) (fun _ _ => ⟨rfl, e207, (by decide : 4 + 1 ≤ _), (by decide : 96 + 2 ≤ _)⟩)
                  dsimp only [Pt.U, Pt.locs, Pt.cells, Pt.slots] at X244 l244 y244 z244 st244 hQ244
                  rw [l244, y244, z244] at X244
                  obtain ⟨h244, e244⟩ : ∃ z, T244.heap = z := ⟨_, rfl⟩
                  rw [e244] at hQ244
                  obtain ⟨B244, w244, rfl, N244q, K244, G244E, G244V, G244R⟩ := hQ244
                  replace S__VALUES := own_stakeep S__VALUES K244 ns0
                  replace S_EMPTY := own_stakeep S_EMPTY K244 ns0
                  replace S_COMPACT_STRINGS := own_stakeep S_COMPACT_STRINGS K244 ns0
                  replace S_SIOOBE_FORMATTER := own_stakeep S_SIOOBE_FORMATTER K244 ns0
                  replace S_MONITORING := own_stakeep S_MONITORING K244 ns0
                  replace S_ABUSE_REPORTS := own_stakeep S_ABUSE_REPORTS K244 ns0
                  replace E_w__VALUES := E_w__VALUES.keep K244
                  replace V_w__VALUES := V_w__VALUES.keep K244 nin0
                  replace F_jsonName_w_MONITORING := F_jsonName_w_MONITORING.keep K244 nin0
                  replace F_jsonName_w_ABUSE_REPORTS := F_jsonName_w_ABUSE_REPORTS.keep K244 nin0
                  replace E_sM := E_sM.keep K244
                  replace F_coder_sM := F_coder_sM.keep K244 nin0
                  replace F_value_sM := F_value_sM.keep K244 nin0
                  replace V_tM := V_tM.keep K244 nin0
                  replace E_sA := E_sA.keep K244
                  replace F_coder_sA := F_coder_sA.keep K244 nin0
                  replace F_value_sA := F_value_sA.keep K244 nin0
                  replace V_tA := V_tA.keep K244 nin0
                  replace E_w_EMPTY := E_w_EMPTY.keep K244
                  replace F_value_w_EMPTY := F_value_w_EMPTY.keep K244 nin0
                  replace E_b206 := E_b206.keep K244
                  replace F_coder_b206 := F_coder_b206.keep K244 nin0
                  replace F_value_b206 := F_value_b206.keep K244 nin0
                  replace V_B206 := V_B206.keep K244 nin0
                  replace E_b207 := E_b207.keep K244
                  replace F_coder_b207 := F_coder_b207.keep K244 nin0
                  replace F_value_b207 := F_value_b207.keep K244 nin0
                  replace V_B207 := V_B207.keep K244 nin0
                  replace Z0 := Nat.le_trans Z0 K244.1
                  replace hk := Nat.le_trans hk K244.1
                  replace G244R : w244 = .null := G244R
                  subst G244R
                  have E_B244 : Exa Z h244 B244 "java/util/Optional" := G244E
                  have F_value_B244 : Fld Z h244 B244 "java/util/Optional" "value" "Ljava/lang/Object;" .null := G244V
                  have N244 := Fr.app N0 N244q
                  obtain ⟨cq245, kq245, q245a, q245b, q245c⟩ := isOf hZ e244 E_B244
                  obtain ⟨_, _, ⟨T245, L245, k245, n245⟩, -, X245, ⟨Lc245, hQ245, l245, y245, z245⟩, st245⟩ := X244.virtualBack hx (y := mn10) (z := mn10) hown (mvT hZ (ww hw 110 rfl)) (mvT hZ (ww hw 111 rfl)) (notFace_of_selects (args := #[]) (mvT hZ (ww hw 113 rfl))) (mvT hZ (ww hw 113 rfl)) (mvT hZ (ww hw 112 rfl)) (by decide) (backOf (W := 0) (rm21_n l Z a0 hw [] B244 h244 n0 Z0 F_value_B244) hZ (ww hw 114 rfl) (ww hw 107 rfl) (by decide) (by decide)) q245a q245c (g := (mkF m 314 (lo0_28 p1 p2 p3 p4 b206 b207 B244) [.null, (.ref B244)])) rfl (by rw [hml]; rfl) (Steps.refl _) (argsL := [.null]) (rest := []) (lenOf pd_4 rfl) rfl (by show 2 * 0 + _ ≤ _; exact Nat.le_of_eq rfl) (hb hby at_314) (fun _ _ => ⟨rfl, e244, (by decide : 5 + 0 ≤ _), (by decide : 98 + 0 ≤ _)⟩)
                  dsimp only [Pt.U, Pt.locs, Pt.cells, Pt.slots] at X245 l245 y245 z245 st245 hQ245
                  rw [l245, y245, z245] at X245
                  obtain ⟨rfl, N245q, e245⟩ := hQ245
                  have N245 := Fr.app N244 N245q
                  obtain ⟨fs, hr, hrun, hended, hEW⟩ := X245.leaveW hS (by rw [e245]; exact hk) (v := some (.int (1 : Int32))) (fun h => by rw [Bd.returns] at h; cases h)
                  refine ⟨_, _, pre243 _ ?_, hrun, hended, _, _, rfl, ?_, hEW.1, hEW.2.1, hEW.2.2.1, hEW.2.2.2.mono (by decide) (by decide)⟩
                  · refine y_icmpNo X207 hx hby at_263 (teq hc242).2 ?_
                    refine y_aconstNull X207 hx hby at_266 ?_
                    refine y_astore X207 hx hby at_267 rfl (l' := (lo0_26 p1 p2 p3 p4 b206 b207)) rfl ?_
                    refine y_goto X207 hx hby (pc' := 294) at_269 (by decide) (by decide) ?_
                    refine y_aconstNull X207 hx hby at_294 ?_
                    refine y_astore X207 hx hby at_295 rfl (l' := (lo0_27 p1 p2 p3 p4 b206 b207)) rfl ?_
                    refine y_aload X207 hx hby at_297 rfl rfl ?_
                    refine st244 _ ?_
                    show Steps p.tables e below (T244.setTop (mkF m 302 (lo0_27 p1 p2 p3 p4 b206 b207) [(.ref B244)])) _
                    refine y_astore X244 hx hby at_302 rfl (l' := (lo0_28 p1 p2 p3 p4 b206 b207 B244)) rfl ?_
                    refine y_aload X244 hx hby at_304 rfl rfl ?_
                    refine y_ifnonnullYes X244 hx hby (pc' := 311) at_306 (by decide) (by decide) ?_
                    refine y_aload X244 hx hby at_311 rfl rfl ?_
                    refine y_aconstNull X244 hx hby at_313 ?_
                    refine st245.trans ?_
                    show Steps p.tables e below (T245.setTop (mkF m 317 (lo0_28 p1 p2 p3 p4 b206 b207 B244) [.null])) _
                    refine y_aload X245 hx hby at_317 rfl rfl ?_
                    show Steps p.tables e below (T245.setTop (mkF m 319 (lo0_28 p1 p2 p3 p4 b206 b207 B244) [.null, .null])) _
                    refine Jvm.RoadKit.acmp (g := (mkF m 319 (lo0_28 p1 p2 p3 p4 b206 b207 B244) [.null, .null])) X245 hx rfl rfl rfl (pc0 := 319) (pc' := 322) (same := true) rfl (hb hby at_319) rfl (decide_eq_true rfl) (by decide) (by decide) ?_
                    show Steps p.tables e below (T245.setTop (mkF m 322 (lo0_28 p1 p2 p3 p4 b206 b207 B244) [])) _
                    refine y_iconst X245 hx hby (v := (1 : Int32)) at_322 rfl ?_
                    refine y_goto X245 hx hby (pc' := 327) at_323 (by decide) (by decide) ?_
                    exact retN X245 hx (t := .boolean) Bd.returns (by simp) (hb hby at_327) hr
                  · exact ⟨rfl, N245⟩
                · obtain ⟨T246, h246, X246, e246, E246, A246, D246, -, st246⟩ := newO X207 hx hZ hown (ww hw 13 rfl) (ww hw 2 rfl) (ww hw 1 rfl) e207 (g := (mkF m 272 (lo0_19 p1 p2 p3 p4 b206 b207) [])) rfl (hb hby at_272) (by decide) (by decide)
                  obtain ⟨b246, g246⟩ : ∃ z, z = h207.size := ⟨_, rfl⟩
                  rw [← g246] at A246 D246 st246
                  have g_b246 : n0 ≤ b246 := Nat.le_trans Z0 (Nat.le_of_eq g246.symm)
                  have ne_w__VALUES_b246 : w__VALUES ≠ b246 := Nat.ne_of_lt (Nat.lt_of_lt_of_le E_w__VALUES.lt (Nat.le_of_eq g246.symm))
                  have ne_sM_b246 : sM ≠ b246 := Nat.ne_of_lt (Nat.lt_of_lt_of_le E_sM.lt (Nat.le_of_eq g246.symm))
                  have ne_tM_b246 : tM ≠ b246 := Nat.ne_of_lt (Nat.lt_of_lt_of_le V_tM.lt (Nat.le_of_eq g246.symm))
                  have ne_sA_b246 : sA ≠ b246 := Nat.ne_of_lt (Nat.lt_of_lt_of_le E_sA.lt (Nat.le_of_eq g246.symm))
                  have ne_tA_b246 : tA ≠ b246 := Nat.ne_of_lt (Nat.lt_of_lt_of_le V_tA.lt (Nat.le_of_eq g246.symm))
                  have ne_w_EMPTY_b246 : w_EMPTY ≠ b246 := Nat.ne_of_lt (Nat.lt_of_lt_of_le E_w_EMPTY.lt (Nat.le_of_eq g246.symm))
                  have ne_w_MONITORING_b246 : w_MONITORING ≠ b246 := Nat.ne_of_lt (Nat.lt_of_lt_of_le F_jsonName_w_MONITORING.lt (Nat.le_of_eq g246.symm))
                  have ne_w_ABUSE_REPORTS_b246 : w_ABUSE_REPORTS ≠ b246 := Nat.ne_of_lt (Nat.lt_of_lt_of_le F_jsonName_w_ABUSE_REPORTS.lt (Nat.le_of_eq g246.symm))
                  have ne_b206_b246 : b206 ≠ b246 := Nat.ne_of_lt (Nat.lt_of_lt_of_le E_b206.lt (Nat.le_of_eq g246.symm))
                  have ne_B206_b246 : B206 ≠ b246 := Nat.ne_of_lt (Nat.lt_of_lt_of_le V_B206.lt (Nat.le_of_eq g246.symm))
                  have ne_b207_b246 : b207 ≠ b246 := Nat.ne_of_lt (Nat.lt_of_lt_of_le E_b207.lt (Nat.le_of_eq g246.symm))
                  have ne_B207_b246 : B207 ≠ b246 := Nat.ne_of_lt (Nat.lt_of_lt_of_le V_B207.lt (Nat.le_of_eq g246.symm))
                  replace E_w__VALUES := E_w__VALUES.ext E246
                  replace V_w__VALUES := V_w__VALUES.ext E246
                  replace F_jsonName_w_MONITORING := F_jsonName_w_MONITORING.ext E246
                  replace F_jsonName_w_ABUSE_REPORTS := F_jsonName_w_ABUSE_REPORTS.ext E246
                  replace E_sM := E_sM.ext E246
                  replace F_coder_sM := F_coder_sM.ext E246
                  replace F_value_sM := F_value_sM.ext E246
                  replace V_tM := V_tM.ext E246
                  replace E_sA := E_sA.ext E246
                  replace F_coder_sA := F_coder_sA.ext E246
                  replace F_value_sA := F_value_sA.ext E246
                  replace V_tA := V_tA.ext E246
                  replace E_w_EMPTY := E_w_EMPTY.ext E246
                  replace F_value_w_EMPTY := F_value_w_EMPTY.ext E246
                  replace S__VALUES := S__VALUES.ext E246
                  replace S_EMPTY := S_EMPTY.ext E246
                  replace S_COMPACT_STRINGS := S_COMPACT_STRINGS.ext E246
                  replace S_SIOOBE_FORMATTER := S_SIOOBE_FORMATTER.ext E246
                  replace S_MONITORING := S_MONITORING.ext E246
                  replace S_ABUSE_REPORTS := S_ABUSE_REPORTS.ext E246
                  replace E_b206 := E_b206.ext E246
                  replace F_coder_b206 := F_coder_b206.ext E246
                  replace F_value_b206 := F_value_b206.ext E246
                  replace V_B206 := V_B206.ext E246
                  replace E_b207 := E_b207.ext E246
                  replace F_coder_b207 := F_coder_b207.ext E246
                  replace F_value_b207 := F_value_b207.ext E246
                  replace V_B207 := V_B207.ext E246
                  replace Z0 := Nat.le_trans Z0 E246.1
                  replace hk := Nat.le_trans hk E246.1
                  have E_b246 := A246
                  have F_value_b246 : Fld Z h246 b246 "java/lang/String" "value" "[B" .null := D246 (Or.inr (ww hw 4 rfl)) (ty := (.array .byte)) (by decide)
                  have F_coder_b246 : Fld Z h246 b246 "java/lang/String" "coder" "B" (.int (0 : Int32)) := D246 (Or.inr (ww hw 5 rfl)) (ty := .byte) (by decide)
                  obtain ⟨T247, h247, k247, X247, e247, E247, A247, st247⟩ := newP X246 hx hZ (ww hw 14 rfl) e246 (g := (mkF m 277 (lo0_19 p1 p2 p3 p4 b206 b207) [(.int (2 : Int32)), (.ref b246), (.ref b246)])) rfl (hb hby at_277) rfl (by decide) (cap := 2) (by decide) (by decide) (by decide) (by decide)
                  obtain ⟨b247, g247⟩ : ∃ z, z = h246.size := ⟨_, rfl⟩
                  rw [← g247] at A247 st247
                  have g_b247 : n0 ≤ b247 := Nat.le_trans Z0 (Nat.le_of_eq g247.symm)
                  have ne_w__VALUES_b247 : w__VALUES ≠ b247 := Nat.ne_of_lt (Nat.lt_of_lt_of_le E_w__VALUES.lt (Nat.le_of_eq g247.symm))
                  have ne_sM_b247 : sM ≠ b247 := Nat.ne_of_lt (Nat.lt_of_lt_of_le E_sM.lt (Nat.le_of_eq g247.symm))
                  have ne_tM_b247 : tM ≠ b247 := Nat.ne_of_lt (Nat.lt_of_lt_of_le V_tM.lt (Nat.le_of_eq g247.symm))
                  have ne_sA_b247 : sA ≠ b247 := Nat.ne_of_lt (Nat.lt_of_lt_of_le E_sA.lt (Nat.le_of_eq g247.symm))
                  have ne_tA_b247 : tA ≠ b247 := Nat.ne_of_lt (Nat.lt_of_lt_of_le V_tA.lt (Nat.le_of_eq g247.symm))
                  have ne_w_EMPTY_b247 : w_EMPTY ≠ b247 := Nat.ne_of_lt (Nat.lt_of_lt_of_le E_w_EMPTY.lt (Nat.le_of_eq g247.symm))
                  have ne_w_MONITORING_b247 : w_MONITORING ≠ b247 := Nat.ne_of_lt (Nat.lt_of_lt_of_le F_jsonName_w_MONITORING.lt (Nat.le_of_eq g247.symm))
                  have ne_w_ABUSE_REPORTS_b247 : w_ABUSE_REPORTS ≠ b247 := Nat.ne_of_lt (Nat.lt_of_lt_of_le F_jsonName_w_ABUSE_REPORTS.lt (Nat.le_of_eq g247.symm))
                  have ne_b206_b247 : b206 ≠ b247 := Nat.ne_of_lt (Nat.lt_of_lt_of_le E_b206.lt (Nat.le_of_eq g247.symm))
                  have ne_B206_b247 : B206 ≠ b247 := Nat.ne_of_lt (Nat.lt_of_lt_of_le V_B206.lt (Nat.le_of_eq g247.symm))
                  have ne_b207_b247 : b207 ≠ b247 := Nat.ne_of_lt (Nat.lt_of_lt_of_le E_b207.lt (Nat.le_of_eq g247.symm))
                  have ne_B207_b247 : B207 ≠ b247 := Nat.ne_of_lt (Nat.lt_of_lt_of_le V_B207.lt (Nat.le_of_eq g247.symm))
                  have ne_b246_b247 : b246 ≠ b247 := Nat.ne_of_lt (Nat.lt_of_lt_of_le E_b246.lt (Nat.le_of_eq g247.symm))
                  replace E_w__VALUES := E_w__VALUES.ext E247
                  replace V_w__VALUES := V_w__VALUES.ext E247
                  replace F_jsonName_w_MONITORING := F_jsonName_w_MONITORING.ext E247
                  replace F_jsonName_w_ABUSE_REPORTS := F_jsonName_w_ABUSE_REPORTS.ext E247
                  replace E_sM := E_sM.ext E247
                  replace F_coder_sM := F_coder_sM.ext E247
                  replace F_value_sM := F_value_sM.ext E247
                  replace V_tM := V_tM.ext E247
                  replace E_sA := E_sA.ext E247
                  replace F_coder_sA := F_coder_sA.ext E247
                  replace F_value_sA := F_value_sA.ext E247
                  replace V_tA := V_tA.ext E247
                  replace E_w_EMPTY := E_w_EMPTY.ext E247
                  replace F_value_w_EMPTY := F_value_w_EMPTY.ext E247
                  replace S__VALUES := S__VALUES.ext E247
                  replace S_EMPTY := S_EMPTY.ext E247
                  replace S_COMPACT_STRINGS := S_COMPACT_STRINGS.ext E247
                  replace S_SIOOBE_FORMATTER := S_SIOOBE_FORMATTER.ext E247
                  replace S_MONITORING := S_MONITORING.ext E247
                  replace S_ABUSE_REPORTS := S_ABUSE_REPORTS.ext E247
                  replace E_b206 := E_b206.ext E247
                  replace F_coder_b206 := F_coder_b206.ext E247
                  replace F_value_b206 := F_value_b206.ext E247
                  replace V_B206 := V_B206.ext E247
                  replace E_b207 := E_b207.ext E247
                  replace F_coder_b207 := F_coder_b207.ext E247
                  replace F_value_b207 := F_value_b207.ext E247
                  replace V_B207 := V_B207.ext E247
                  replace E_b246 := E_b246.ext E247
                  replace F_value_b246 := F_value_b246.ext E247
                  replace F_coder_b246 := F_coder_b246.ext E247
                  replace Z0 := Nat.le_trans Z0 E247.1
                  replace hk := Nat.le_trans hk E247.1
                  have V_b247 : Arv Z h247 b247 k247 .char (2 : Int32) [(.int (0 : Int32)), (.int (0 : Int32))] (.int (0 : Int32)) := (Arv.new A247 (by decide)).pad (pad_rep [] (.int (0 : Int32)) 2)
                  obtain ⟨cl248, Ar248, q248, Sz248, Nn248, Hh248, Gg248⟩ := V_b247
                  have hin248 : ¬ ((0 : Int32) < 0 ∨ cl248.slots.size ≤ ((0 : Int32)).toNatClampNeg) := inb_of Sz248 ⟨by decide, by decide⟩
                  obtain ⟨T249, h249, X249, e249, W249, st249⟩ := stC X247 hx hZ e247 Ar248 (j := (0 : Int32)) hin248 (g := (mkF m 283 (lo0_19 p1 p2 p3 p4 b206 b207) [(.int ((p3 &&& (255 : Int32)).toUInt32.toUInt16.toUInt32.toInt32)), (.int (0 : Int32)), (.ref b247), (.ref b247), (.ref b246), (.ref b246)])) rfl rfl (hb hby at_283)
                  replace E_w__VALUES := E_w__VALUES.wr W249
                  replace V_w__VALUES := V_w__VALUES.other W249 ne_w__VALUES_b247
                  replace F_jsonName_w_MONITORING := F_jsonName_w_MONITORING.other W249 (Or.inl ne_w_MONITORING_b247)
                  replace F_jsonName_w_ABUSE_REPORTS := F_jsonName_w_ABUSE_REPORTS.other W249 (Or.inl ne_w_ABUSE_REPORTS_b247)
                  replace E_sM := E_sM.wr W249
                  replace F_coder_sM := F_coder_sM.other W249 (Or.inl ne_sM_b247)
                  replace F_value_sM := F_value_sM.other W249 (Or.inl ne_sM_b247)
                  replace V_tM := V_tM.other W249 ne_tM_b247
                  replace E_sA := E_sA.wr W249
                  replace F_coder_sA := F_coder_sA.other W249 (Or.inl ne_sA_b247)
                  replace F_value_sA := F_value_sA.other W249 (Or.inl ne_sA_b247)
                  replace V_tA := V_tA.other W249 ne_tA_b247
                  replace E_w_EMPTY := E_w_EMPTY.wr W249
                  replace F_value_w_EMPTY := F_value_w_EMPTY.other W249 (Or.inl ne_w_EMPTY_b247)
                  replace S__VALUES := S__VALUES.wr W249
                  replace S_EMPTY := S_EMPTY.wr W249
                  replace S_COMPACT_STRINGS := S_COMPACT_STRINGS.wr W249
                  replace S_SIOOBE_FORMATTER := S_SIOOBE_FORMATTER.wr W249
                  replace S_MONITORING := S_MONITORING.wr W249
                  replace S_ABUSE_REPORTS := S_ABUSE_REPORTS.wr W249
                  replace E_b206 := E_b206.wr W249
                  replace F_coder_b206 := F_coder_b206.other W249 (Or.inl ne_b206_b247)
                  replace F_value_b206 := F_value_b206.other W249 (Or.inl ne_b206_b247)
                  replace V_B206 := V_B206.other W249 ne_B206_b247
                  replace E_b207 := E_b207.wr W249
                  replace F_coder_b207 := F_coder_b207.other W249 (Or.inl ne_b207_b247)
                  replace F_value_b207 := F_value_b207.other W249 (Or.inl ne_b207_b247)
                  replace V_B207 := V_B207.other W249 ne_B207_b247
                  replace E_b246 := E_b246.wr W249
                  replace F_value_b246 := F_value_b246.other W249 (Or.inl ne_b246_b247)
                  replace F_coder_b246 := F_coder_b246.other W249 (Or.inl ne_b246_b247)
                  replace Z0 := Nat.le_trans Z0 (Keep.of_wr W249).1
                  replace hk := Nat.le_trans hk (Keep.of_wr W249).1
                  have V_b247 : Arv Z h249 b247 k247 .char (2 : Int32) [(.int (((p3 &&& (255 : Int32)).toUInt32.toUInt16.toUInt32.toInt32).toUInt32.toUInt16.toUInt32.toInt32)), (.int (0 : Int32))] (.int (0 : Int32)) := Arv.set Ar248 q248 Sz248 Nn248 Hh248 Gg248 (fits_nar_char _) W249 0 rfl (Nat.le_of_ble_eq_true rfl)
                  have N249 := Fr.snoc X249 N0 g_b247
                  obtain ⟨cl250, Ar250, q250, Sz250, Nn250, Hh250, Gg250⟩ := V_b247
                  have hin250 : ¬ ((1 : Int32) < 0 ∨ cl250.slots.size ≤ ((1 : Int32)).toNatClampNeg) := inb_of Sz250 ⟨by decide, by decide⟩
                  obtain ⟨T251, h251, X251, e251, W251, st251⟩ := stC X249 hx hZ e249 Ar250 (j := (1 : Int32)) hin250 (g := (mkF m 288 (lo0_19 p1 p2 p3 p4 b206 b207) [(.int ((((p4.toUInt32 >>> ((2 : Int32) &&& 31).toUInt32).toInt32) &&& (255 : Int32)).toUInt32.toUInt16.toUInt32.toInt32)), (.int (1 : Int32)), (.ref b247), (.ref b247), (.ref b246), (.ref b246)])) rfl rfl (hb hby at_288)
                  replace E_w__VALUES := E_w__VALUES.wr W251
                  replace V_w__VALUES := V_w__VALUES.other W251 ne_w__VALUES_b247
                  replace F_jsonName_w_MONITORING := F_jsonName_w_MONITORING.other W251 (Or.inl ne_w_MONITORING_b247)
                  replace F_jsonName_w_ABUSE_REPORTS := F_jsonName_w_ABUSE_REPORTS.other W251 (Or.inl ne_w_ABUSE_REPORTS_b247)
                  replace E_sM := E_sM.wr W251
                  replace F_coder_sM := F_coder_sM.other W251 (Or.inl ne_sM_b247)
                  replace F_value_sM := F_value_sM.other W251 (Or.inl ne_sM_b247)
                  replace V_tM := V_tM.other W251 ne_tM_b247
                  replace E_sA := E_sA.wr W251
                  replace F_coder_sA := F_coder_sA.other W251 (Or.inl ne_sA_b247)
                  replace F_value_sA := F_value_sA.other W251 (Or.inl ne_sA_b247)
                  replace V_tA := V_tA.other W251 ne_tA_b247
                  replace E_w_EMPTY := E_w_EMPTY.wr W251
                  replace F_value_w_EMPTY := F_value_w_EMPTY.other W251 (Or.inl ne_w_EMPTY_b247)
                  replace S__VALUES := S__VALUES.wr W251
                  replace S_EMPTY := S_EMPTY.wr W251
                  replace S_COMPACT_STRINGS := S_COMPACT_STRINGS.wr W251
                  replace S_SIOOBE_FORMATTER := S_SIOOBE_FORMATTER.wr W251
                  replace S_MONITORING := S_MONITORING.wr W251
                  replace S_ABUSE_REPORTS := S_ABUSE_REPORTS.wr W251
                  replace E_b206 := E_b206.wr W251
                  replace F_coder_b206 := F_coder_b206.other W251 (Or.inl ne_b206_b247)
                  replace F_value_b206 := F_value_b206.other W251 (Or.inl ne_b206_b247)
                  replace V_B206 := V_B206.other W251 ne_B206_b247
                  replace E_b207 := E_b207.wr W251
                  replace F_coder_b207 := F_coder_b207.other W251 (Or.inl ne_b207_b247)
                  replace F_value_b207 := F_value_b207.other W251 (Or.inl ne_b207_b247)
                  replace V_B207 := V_B207.other W251 ne_B207_b247
                  replace E_b246 := E_b246.wr W251
                  replace F_value_b246 := F_value_b246.other W251 (Or.inl ne_b246_b247)
                  replace F_coder_b246 := F_coder_b246.other W251 (Or.inl ne_b246_b247)
                  replace Z0 := Nat.le_trans Z0 (Keep.of_wr W251).1
                  replace hk := Nat.le_trans hk (Keep.of_wr W251).1
                  have V_b247 : Arv Z h251 b247 k247 .char (2 : Int32) [(.int (((p3 &&& (255 : Int32)).toUInt32.toUInt16.toUInt32.toInt32).toUInt32.toUInt16.toUInt32.toInt32)), (.int (((((p4.toUInt32 >>> ((2 : Int32) &&& 31).toUInt32).toInt32) &&& (255 : Int32)).toUInt32.toUInt16.toUInt32.toInt32).toUInt32.toUInt16.toUInt32.toInt32))] (.int (0 : Int32)) := Arv.set Ar250 q250 Sz250 Nn250 Hh250 Gg250 (fits_nar_char _) W251 1 rfl (Nat.le_of_ble_eq_true rfl)
                  have N251 := Fr.snoc X251 N249 g_b247
                  obtain ⟨_, _, ⟨T252, L252, k252, n252⟩, -, X252, ⟨Lc252, hQ252, l252, y252, z252⟩, st252⟩ := X251.specialBack hx (y := mn3) rfl hown (mvT hZ (ww hw 53 rfl)) (mvT hZ (ww hw 54 rfl)) (mvT hZ (ww hw 55 rfl)) (by decide) (StrChars.Road.backV (W := 1) hZ hws (kI := 4) (ww hw 2 rfl) (cs := ([(((p3 &&& (255 : Int32)).toUInt32.toUInt16.toUInt32.toInt32).toUInt32.toUInt16.toUInt32.toInt32), (((((p4.toUInt32 >>> ((2 : Int32) &&& 31).toUInt32).toInt32) &&& (255 : Int32)).toUInt32.toUInt16.toUInt32.toInt32).toUInt32.toUInt16.toUInt32.toInt32)] : List Int32)) (bs := ([(((p3 &&& (255 : Int32)).toUInt32.toUInt16.toUInt32.toInt32).toUInt32.toUInt16.toUInt32.toInt32), (((((p4.toUInt32 >>> ((2 : Int32) &&& 31).toUInt32).toInt32) &&& (255 : Int32)).toUInt32.toUInt16.toUInt32.toInt32).toUInt32.toUInt16.toUInt32.toInt32)] : List Int32).map StrChars.lo8) (n := 2) g_b246 Z0 E_b246 F_value_b246 F_coder_b246 V_b247 S_COMPACT_STRINGS hz rfl rfl (by decide) (by decide) (own_r2 (own_char2 _) (own_char2 _)) rfl (by decide) (by decide)) (g := (mkF m 289 (lo0_19 p1 p2 p3 p4 b206 b207) [(.ref b247), (.ref b246), (.ref b246)])) rfl (by rw [hml]; rfl) (Steps.refl _) (a := b246) (argsL := [(.ref b247)]) (rest := [(.ref b246)]) (lenOf pd_3 rfl) rfl (by show 2 * 0 + _ ≤ _; exact Nat.le_of_eq rfl) (hb hby at_289) (fun _ _ => ⟨rfl, e251, (by decide : 6 + 1 ≤ _), (by decide : 102 + 2 ≤ _)⟩)
                  dsimp only [Pt.U, Pt.locs, Pt.cells, Pt.slots] at X252 l252 y252 z252 st252 hQ252
                  rw [l252, y252, z252] at X252
                  obtain ⟨h252, e252⟩ : ∃ z, T252.heap = z := ⟨_, rfl⟩
                  rw [e252] at hQ252
                  obtain ⟨rfl, N252q, K252, G252E, G252C, B252, kb252, -, szn252, -, G252V, G252A⟩ := hQ252
                  have g_B252 : n0 ≤ B252 := Nat.le_trans Z0 szn252
                  have ne_w__VALUES_B252 : w__VALUES ≠ B252 := Nat.ne_of_lt (Nat.lt_of_lt_of_le E_w__VALUES.lt szn252)
                  have ne_sM_B252 : sM ≠ B252 := Nat.ne_of_lt (Nat.lt_of_lt_of_le E_sM.lt szn252)
                  have ne_tM_B252 : tM ≠ B252 := Nat.ne_of_lt (Nat.lt_of_lt_of_le V_tM.lt szn252)
                  have ne_sA_B252 : sA ≠ B252 := Nat.ne_of_lt (Nat.lt_of_lt_of_le E_sA.lt szn252)
                  have ne_tA_B252 : tA ≠ B252 := Nat.ne_of_lt (Nat.lt_of_lt_of_le V_tA.lt szn252)
                  have ne_w_EMPTY_B252 : w_EMPTY ≠ B252 := Nat.ne_of_lt (Nat.lt_of_lt_of_le E_w_EMPTY.lt szn252)
                  have ne_w_MONITORING_B252 : w_MONITORING ≠ B252 := Nat.ne_of_lt (Nat.lt_of_lt_of_le F_jsonName_w_MONITORING.lt szn252)
                  have ne_w_ABUSE_REPORTS_B252 : w_ABUSE_REPORTS ≠ B252 := Nat.ne_of_lt (Nat.lt_of_lt_of_le F_jsonName_w_ABUSE_REPORTS.lt szn252)
                  have ne_b206_B252 : b206 ≠ B252 := Nat.ne_of_lt (Nat.lt_of_lt_of_le E_b206.lt szn252)
                  have ne_B206_B252 : B206 ≠ B252 := Nat.ne_of_lt (Nat.lt_of_lt_of_le V_B206.lt szn252)
                  have ne_b207_B252 : b207 ≠ B252 := Nat.ne_of_lt (Nat.lt_of_lt_of_le E_b207.lt szn252)
                  have ne_B207_B252 : B207 ≠ B252 := Nat.ne_of_lt (Nat.lt_of_lt_of_le V_B207.lt szn252)
                  have ne_b246_B252 : b246 ≠ B252 := Nat.ne_of_lt (Nat.lt_of_lt_of_le E_b246.lt szn252)
                  have ne_b247_B252 : b247 ≠ B252 := Nat.ne_of_lt (Nat.lt_of_lt_of_le V_b247.lt szn252)
                  replace S__VALUES := own_stakeep S__VALUES K252 (nsS (Exa.nostat E_b246) ns0)
                  replace S_EMPTY := own_stakeep S_EMPTY K252 (nsS (Exa.nostat E_b246) ns0)
                  replace S_COMPACT_STRINGS := own_stakeep S_COMPACT_STRINGS K252 (nsS (Exa.nostat E_b246) ns0)
                  replace S_SIOOBE_FORMATTER := own_stakeep S_SIOOBE_FORMATTER K252 (nsS (Exa.nostat E_b246) ns0)
                  replace S_MONITORING := own_stakeep S_MONITORING K252 (nsS (Exa.nostat E_b246) ns0)
                  replace S_ABUSE_REPORTS := own_stakeep S_ABUSE_REPORTS K252 (nsS (Exa.nostat E_b246) ns0)
                  replace E_w__VALUES := E_w__VALUES.keep K252
                  replace V_w__VALUES := V_w__VALUES.keep K252 (ninS ne_w__VALUES_b246 nin0)
                  replace F_jsonName_w_MONITORING := F_jsonName_w_MONITORING.keep K252 (ninS ne_w_MONITORING_b246 nin0)
                  replace F_jsonName_w_ABUSE_REPORTS := F_jsonName_w_ABUSE_REPORTS.keep K252 (ninS ne_w_ABUSE_REPORTS_b246 nin0)
                  replace E_sM := E_sM.keep K252
                  replace F_coder_sM := F_coder_sM.keep K252 (ninS ne_sM_b246 nin0)
                  replace F_value_sM := F_value_sM.keep K252 (ninS ne_sM_b246 nin0)
                  replace V_tM := V_tM.keep K252 (ninS ne_tM_b246 nin0)
                  replace E_sA := E_sA.keep K252
                  replace F_coder_sA := F_coder_sA.keep K252 (ninS ne_sA_b246 nin0)
                  replace F_value_sA := F_value_sA.keep K252 (ninS ne_sA_b246 nin0)
                  replace V_tA := V_tA.keep K252 (ninS ne_tA_b246 nin0)
                  replace E_w_EMPTY := E_w_EMPTY.keep K252
                  replace F_value_w_EMPTY := F_value_w_EMPTY.keep K252 (ninS ne_w_EMPTY_b246 nin0)
                  replace E_b206 := E_b206.keep K252
                  replace F_coder_b206 := F_coder_b206.keep K252 (ninS ne_b206_b246 nin0)
                  replace F_value_b206 := F_value_b206.keep K252 (ninS ne_b206_b246 nin0)
                  replace V_B206 := V_B206.keep K252 (ninS ne_B206_b246 nin0)
                  replace E_b207 := E_b207.keep K252
                  replace F_coder_b207 := F_coder_b207.keep K252 (ninS ne_b207_b246 nin0)
                  replace F_value_b207 := F_value_b207.keep K252 (ninS ne_b207_b246 nin0)
                  replace V_B207 := V_B207.keep K252 (ninS ne_B207_b246 nin0)
                  replace E_b246 := E_b246.keep K252
                  replace V_b247 := V_b247.keep K252 (ninS (Ne.symm ne_b246_b247) nin0)
                  replace Z0 := Nat.le_trans Z0 K252.1
                  replace hk := Nat.le_trans hk K252.1
                  have F_coder_b246 : Fld Z h252 b246 "java/lang/String" "coder" "B" (.int (0 : Int32)) := G252C
                  have F_value_b246 : Fld Z h252 b246 "java/lang/String" "value" "[B" (.ref B252) := G252V
                  have V_B252 : Arv Z h252 B252 kb252 .byte (2 : Int32) ((([(((p3 &&& (255 : Int32)).toUInt32.toUInt16.toUInt32.toInt32).toUInt32.toUInt16.toUInt32.toInt32), (((((p4.toUInt32 >>> ((2 : Int32) &&& 31).toUInt32).toInt32) &&& (255 : Int32)).toUInt32.toUInt16.toUInt32.toInt32).toUInt32.toUInt16.toUInt32.toInt32)] : List Int32).map StrChars.lo8).map Value.int) (.int (0 : Int32)) := G252A
                  have N252 := Fr.app N251 N252q
                  obtain ⟨_, _, ⟨T253, L253, k253, n253⟩, -, X253, ⟨Lc253, hQ253, l253, y253, z253⟩, st253⟩ := Jvm.LawKit.callS X252 hx (y := mn16) hown (mvT hZ (ww hw 73 rfl)) (mvT hZ (ww hw 74 rfl)) (mvT hZ (ww hw 75 rfl)) (mvT hZ (ww hw 76 rfl)) (by decide) (backOf (W := 0) (rm16_s l Z a0 hw [] b246 B252 kb252 (2 : Int32) ((([(((p3 &&& (255 : Int32)).toUInt32.toUInt16.toUInt32.toInt32).toUInt32.toUInt16.toUInt32.toInt32), (((((p4.toUInt32 >>> ((2 : Int32) &&& 31).toUInt32).toInt32) &&& (255 : Int32)).toUInt32.toUInt16.toUInt32.toInt32).toUInt32.toUInt16.toUInt32.toInt32)] : List Int32).map StrChars.lo8).map Value.int) ([(((p3 &&& (255 : Int32)).toUInt32.toUInt16.toUInt32.toInt32).toUInt32.toUInt16.toUInt32.toInt32), (((((p4.toUInt32 >>> ((2 : Int32) &&& 31).toUInt32).toInt32) &&& (255 : Int32)).toUInt32.toUInt16.toUInt32.toInt32).toUInt32.toUInt16.toUInt32.toInt32)] : List Int32) w_MONITORING w_ABUSE_REPORTS kV w__VALUES sM tM kM sA tA kA w_EMPTY w_COMPACT_STRINGS h252 n0 Z0 S__VALUES S_EMPTY S_COMPACT_STRINGS hz (own_cod rfl (own_r2 (own_char2 _) (own_char2 _))) (own_r2 (own_char2 _) (own_char2 _)) (Nat.le_of_ble_eq_true rfl) E_b246 F_coder_b246 F_value_b246 V_B252 E_w__VALUES V_w__VALUES F_jsonName_w_MONITORING F_jsonName_w_ABUSE_REPORTS E_sM F_coder_sM F_value_sM V_tM E_sA F_coder_sA F_value_sA V_tA E_w_EMPTY F_value_w_EMPTY) hZ (ww hw 76 rfl) (ww hw 75 rfl) (by decide) (by decide)) (g := (mkF m 299 (lo0_30 p1 p2 p3 p4 b206 b207 b246) [(.ref b246)])) rfl (by rw [hml]; rfl) (argsL := [(.ref b246)]) (rest := []) (lenOf pd_14 rfl) rfl (by show 2 * 0 + _ ≤ _; exact Nat.le_of_eq rfl) (hb hby at_299) (fun _ _ => ⟨rfl, e252, (by decide : 7 + 2 ≤ _), (by decide : 104 + 3 ≤ _)⟩)
                  dsimp only [Pt.U, Pt.locs, Pt.cells, Pt.slots] at X253 l253 y253 z253 st253 hQ253
                  rw [l253, y253, z253] at X253
                  obtain ⟨h253, e253⟩ : ∃ z, T253.heap = z := ⟨_, rfl⟩
                  rw [e253] at hQ253
                  obtain ⟨B253, w253, rfl, N253q, K253, G253E, G253V, G253R⟩ := hQ253
                  replace S__VALUES := own_stakeep S__VALUES K253 ns0
                  replace S_EMPTY := own_stakeep S_EMPTY K253 ns0
                  replace S_COMPACT_STRINGS := own_stakeep S_COMPACT_STRINGS K253 ns0
                  replace S_SIOOBE_FORMATTER := own_stakeep S_SIOOBE_FORMATTER K253 ns0
                  replace S_MONITORING := own_stakeep S_MONITORING K253 ns0
                  replace S_ABUSE_REPORTS := own_stakeep S_ABUSE_REPORTS K253 ns0
                  replace E_w__VALUES := E_w__VALUES.keep K253
                  replace V_w__VALUES := V_w__VALUES.keep K253 nin0
                  replace F_jsonName_w_MONITORING := F_jsonName_w_MONITORING.keep K253 nin0
                  replace F_jsonName_w_ABUSE_REPORTS := F_jsonName_w_ABUSE_REPORTS.keep K253 nin0
                  replace E_sM := E_sM.keep K253
                  replace F_coder_sM := F_coder_sM.keep K253 nin0
                  replace F_value_sM := F_value_sM.keep K253 nin0
                  replace V_tM := V_tM.keep K253 nin0
                  replace E_sA := E_sA.keep K253
                  replace F_coder_sA := F_coder_sA.keep K253 nin0
                  replace F_value_sA := F_value_sA.keep K253 nin0
                  replace V_tA := V_tA.keep K253 nin0
                  replace E_w_EMPTY := E_w_EMPTY.keep K253
                  replace F_value_w_EMPTY := F_value_w_EMPTY.keep K253 nin0
                  replace E_b206 := E_b206.keep K253
                  replace F_coder_b206 := F_coder_b206.keep K253 nin0
                  replace F_value_b206 := F_value_b206.keep K253 nin0
                  replace V_B206 := V_B206.keep K253 nin0
                  replace E_b207 := E_b207.keep K253
                  replace F_coder_b207 := F_coder_b207.keep K253 nin0
                  replace F_value_b207 := F_value_b207.keep K253 nin0
                  replace V_B207 := V_B207.keep K253 nin0
                  replace E_b246 := E_b246.keep K253
                  replace F_value_b246 := F_value_b246.keep K253 nin0
                  replace F_coder_b246 := F_coder_b246.keep K253 nin0
                  replace V_b247 := V_b247.keep K253 nin0
                  replace V_B252 := V_B252.keep K253 nin0
                  replace Z0 := Nat.le_trans Z0 K253.1
                  replace hk := Nat.le_trans hk K253.1
                  have G253R := own_rvN G253R (own_lne (n := 10) (m := 2) rfl rfl (by decide)) (own_lne (n := 12) (m := 2) rfl rfl (by decide))
                  subst G253R
                  have E_B253 : Exa Z h253 B253 "java/util/Optional" := G253E
                  have F_value_B253 : Fld Z h253 B253 "java/util/Optional" "value" "Ljava/lang/Object;" .null := G253V
                  have N253 := Fr.app N252 N253q
                  obtain ⟨cq254, kq254, q254a, q254b, q254c⟩ := isOf hZ e253 E_B253
                  obtain ⟨_, _, ⟨T254, L254, k254, n254⟩, -, X254, ⟨Lc254, hQ254, l254, y254, z254⟩, st254⟩ := X253.virtualBack hx (y := mn10) (z := mn10) hown (mvT hZ (ww hw 110 rfl)) (mvT hZ (ww hw 111 rfl)) (notFace_of_selects (args := #[]) (mvT hZ (ww hw 113 rfl))) (mvT hZ (ww hw 113 rfl)) (mvT hZ (ww hw 112 rfl)) (by decide) (backOf (W := 0) (rm21_n l Z a0 hw [] B253 h253 n0 Z0 F_value_B253) hZ (ww hw 114 rfl) (ww hw 107 rfl) (by decide) (by decide)) q254a q254c (g := (mkF m 314 (lo0_31 p1 p2 p3 p4 b206 b207 b246 B253) [.null, (.ref B253)])) rfl (by rw [hml]; rfl) (Steps.refl _) (argsL := [.null]) (rest := []) (lenOf pd_4 rfl) rfl (by show 2 * 0 + _ ≤ _; exact Nat.le_of_eq rfl) (hb hby at_314) (fun _ _ => ⟨rfl, e253, (by decide : 9 + 0 ≤ _), (by decide : 107 + 0 ≤ _)⟩)
                  dsimp only [Pt.U, Pt.locs, Pt.cells, Pt.slots] at X254 l254 y254 z254 st254 hQ254
                  rw [l254, y254, z254] at X254
                  obtain ⟨rfl, N254q, e254⟩ := hQ254
                  have N254 := Fr.app N253 N254q
                  obtain ⟨fs, hr, hrun, hended, hEW⟩ := X254.leaveW hS (by rw [e254]; exact hk) (v := some (.int (1 : Int32))) (fun h => by rw [Bd.returns] at h; cases h)
                  refine ⟨_, _, pre243 _ ?_, hrun, hended, _, _, rfl, ?_, hEW.1, hEW.2.1, hEW.2.2.1, hEW.2.2.2.mono (by decide) (by decide)⟩
                  · refine y_icmpYes X207 hx hby (pc' := 272) at_263 (feq hc242).2 (by decide) (by decide) ?_
                    refine st246 _ ?_
                    show Steps p.tables e below (T246.setTop (mkF m 275 (lo0_19 p1 p2 p3 p4 b206 b207) [(.ref b246)])) _
                    refine y_dup X246 hx hby at_275 rfl ?_
                    refine y_iconst X246 hx hby (v := (2 : Int32)) at_276 rfl ?_
                    refine st247 _ ?_
                    show Steps p.tables e below (T247.setTop (mkF m 279 (lo0_19 p1 p2 p3 p4 b206 b207) [(.ref b247), (.ref b246), (.ref b246)])) _
                    refine y_dup X247 hx hby at_279 rfl ?_
                    refine y_iconst X247 hx hby (v := (0 : Int32)) at_280 rfl ?_
                    refine y_iload X247 hx hby at_281 rfl ?_
                    refine st249 _ ?_
                    show Steps p.tables e below (T249.setTop (mkF m 284 (lo0_19 p1 p2 p3 p4 b206 b207) [(.ref b247), (.ref b246), (.ref b246)])) _
                    refine y_dup X249 hx hby at_284 rfl ?_
                    refine y_iconst X249 hx hby (v := (1 : Int32)) at_285 rfl ?_
                    refine y_iload X249 hx hby at_286 rfl ?_
                    refine st251 _ ?_
                    show Steps p.tables e below (T251.setTop (mkF m 289 (lo0_19 p1 p2 p3 p4 b206 b207) [(.ref b247), (.ref b246), (.ref b246)])) _
                    refine st252.trans ?_
                    show Steps p.tables e below (T252.setTop (mkF m 292 (lo0_19 p1 p2 p3 p4 b206 b207) [(.ref b246)])) _
                    refine y_astore X252 hx hby at_292 rfl (l' := (lo0_29 p1 p2 p3 p4 b206 b207 b246)) rfl ?_
                    refine y_aconstNull X252 hx hby at_294 ?_
                    refine y_astore X252 hx hby at_295 rfl (l' := (lo0_30 p1 p2 p3 p4 b206 b207 b246)) rfl ?_
                    refine y_aload X252 hx hby at_297 rfl rfl ?_
                    refine st253 _ ?_
                    show Steps p.tables e below (T253.setTop (mkF m 302 (lo0_30 p1 p2 p3 p4 b206 b207 b246) [(.ref B253)])) _
                    refine y_astore X253 hx hby at_302 rfl (l' := (lo0_31 p1 p2 p3 p4 b206 b207 b246 B253)) rfl ?_
                    refine y_aload X253 hx hby at_304 rfl rfl ?_
                    refine y_ifnonnullYes X253 hx hby (pc' := 311) at_306 (by decide) (by decide) ?_
                    refine y_aload X253 hx hby at_311 rfl rfl ?_
                    refine y_aconstNull X253 hx hby at_313 ?_
                    refine st254.trans ?_
                    show Steps p.tables e below (T254.setTop (mkF m 317 (lo0_31 p1 p2 p3 p4 b206 b207 b246 B253) [.null])) _
                    refine y_aload X254 hx hby at_317 rfl rfl ?_
                    show Steps p.tables e below (T254.setTop (mkF m 319 (lo0_31 p1 p2 p3 p4 b206 b207 b246 B253) [.null, .null])) _
                    refine Jvm.RoadKit.acmp (g := (mkF m 319 (lo0_31 p1 p2 p3 p4 b206 b207 b246 B253) [.null, .null])) X254 hx rfl rfl rfl (pc0 := 319) (pc' := 322) (same := true) rfl (hb hby at_319) rfl (decide_eq_true rfl) (by decide) (by decide) ?_
                    show Steps p.tables e below (T254.setTop (mkF m 322 (lo0_31 p1 p2 p3 p4 b206 b207 b246 B253) [])) _
                    refine y_iconst X254 hx hby (v := (1 : Int32)) at_322 rfl ?_
                    refine y_goto X254 hx hby (pc' := 327) at_323 (by decide) (by decide) ?_
                    exact retN X254 hx (t := .boolean) Bd.returns (by simp) (hb hby at_327) hr
                  · exact ⟨rfl, N254⟩
    · obtain ⟨_, _, ⟨T255, L255, k255, n255⟩, -, X255, ⟨Lc255, hQ255, l255, y255, z255⟩, st255⟩ := Jvm.LawKit.callS X207 hx (y := mn4) hown (mvT hZ (ww hw 9 rfl)) (mvT hZ (ww hw 10 rfl)) (mvT hZ (ww hw 11 rfl)) (mvT hZ (ww hw 12 rfl)) (by decide) (backOf (W := 0) (rm1_12 l Z a0 hw [] b207 (p2 &&& (15 : Int32)) ((p3 &&& (255 : Int32)).toUInt32.toUInt16.toUInt32.toInt32) B207 kb207 (12 : Int32) ((C2.map StrChars.lo8).map Value.int) C2 w_COMPACT_STRINGS fm h207 n0 Z0 S_COMPACT_STRINGS hz S_SIOOBE_FORMATTER rf (own_cod (n := 12) rfl own_rc2) own_rc2 (by decide) (own_char p3) E_b207 F_coder_b207 F_value_b207 V_B207) hZ (ww hw 12 rfl) (ww hw 11 rfl) (by decide) (by decide)) (g := (mkF m 92 (lo0_5 p1 p2 p3 p4 b206 b207) [(.int (12 : Int32)), (.int ((p3 &&& (255 : Int32)).toUInt32.toUInt16.toUInt32.toInt32)), (.int (p2 &&& (15 : Int32))), (.ref b207)])) rfl (by rw [hml]; rfl) (argsL := [(.ref b207), (.int (p2 &&& (15 : Int32))), (.int ((p3 &&& (255 : Int32)).toUInt32.toUInt16.toUInt32.toInt32)), (.int (12 : Int32))]) (rest := []) (lenOf pd_13 rfl) rfl (by show 2 * 0 + _ ≤ _; exact Nat.le_of_eq rfl) (hb hby at_92) (fun _ _ => ⟨rfl, e207, (by decide : 4 + 3 ≤ _), (by decide : 96 + 28 ≤ _)⟩)
      dsimp only [Pt.U, Pt.locs, Pt.cells, Pt.slots] at X255 l255 y255 z255 st255 hQ255
      rw [l255, y255, z255] at X255
      obtain ⟨h255, e255⟩ : ∃ z, T255.heap = z := ⟨_, rfl⟩
      rw [e255] at hQ255
      obtain ⟨b255, B255, kb255, rfl, N255q, K255, szx255, szt255, G255E, G255C, G255V, G255A⟩ := hQ255
      have g_b255 : n0 ≤ b255 := Nat.le_trans Z0 szx255
      have ne_w__VALUES_b255 : w__VALUES ≠ b255 := Nat.ne_of_lt (Nat.lt_of_lt_of_le E_w__VALUES.lt szx255)
      have ne_sM_b255 : sM ≠ b255 := Nat.ne_of_lt (Nat.lt_of_lt_of_le E_sM.lt szx255)
      have ne_tM_b255 : tM ≠ b255 := Nat.ne_of_lt (Nat.lt_of_lt_of_le V_tM.lt szx255)
      have ne_sA_b255 : sA ≠ b255 := Nat.ne_of_lt (Nat.lt_of_lt_of_le E_sA.lt szx255)
      have ne_tA_b255 : tA ≠ b255 := Nat.ne_of_lt (Nat.lt_of_lt_of_le V_tA.lt szx255)
      have ne_w_EMPTY_b255 : w_EMPTY ≠ b255 := Nat.ne_of_lt (Nat.lt_of_lt_of_le E_w_EMPTY.lt szx255)
      have ne_w_MONITORING_b255 : w_MONITORING ≠ b255 := Nat.ne_of_lt (Nat.lt_of_lt_of_le F_jsonName_w_MONITORING.lt szx255)
      have ne_w_ABUSE_REPORTS_b255 : w_ABUSE_REPORTS ≠ b255 := Nat.ne_of_lt (Nat.lt_of_lt_of_le F_jsonName_w_ABUSE_REPORTS.lt szx255)
      have ne_b206_b255 : b206 ≠ b255 := Nat.ne_of_lt (Nat.lt_of_lt_of_le E_b206.lt szx255)
      have ne_B206_b255 : B206 ≠ b255 := Nat.ne_of_lt (Nat.lt_of_lt_of_le V_B206.lt szx255)
      have ne_b207_b255 : b207 ≠ b255 := Nat.ne_of_lt (Nat.lt_of_lt_of_le E_b207.lt szx255)
      have ne_B207_b255 : B207 ≠ b255 := Nat.ne_of_lt (Nat.lt_of_lt_of_le V_B207.lt szx255)
      have g_B255 : n0 ≤ B255 := Nat.le_trans Z0 szt255
      have ne_w__VALUES_B255 : w__VALUES ≠ B255 := Nat.ne_of_lt (Nat.lt_of_lt_of_le E_w__VALUES.lt szt255)
      have ne_sM_B255 : sM ≠ B255 := Nat.ne_of_lt (Nat.lt_of_lt_of_le E_sM.lt szt255)
      have ne_tM_B255 : tM ≠ B255 := Nat.ne_of_lt (Nat.lt_of_lt_of_le V_tM.lt szt255)
      have ne_sA_B255 : sA ≠ B255 := Nat.ne_of_lt (Nat.lt_of_lt_of_le E_sA.lt szt255)
      have ne_tA_B255 : tA ≠ B255 := Nat.ne_of_lt (Nat.lt_of_lt_of_le V_tA.lt szt255)
      have ne_w_EMPTY_B255 : w_EMPTY ≠ B255 := Nat.ne_of_lt (Nat.lt_of_lt_of_le E_w_EMPTY.lt szt255)
      have ne_w_MONITORING_B255 : w_MONITORING ≠ B255 := Nat.ne_of_lt (Nat.lt_of_lt_of_le F_jsonName_w_MONITORING.lt szt255)
      have ne_w_ABUSE_REPORTS_B255 : w_ABUSE_REPORTS ≠ B255 := Nat.ne_of_lt (Nat.lt_of_lt_of_le F_jsonName_w_ABUSE_REPORTS.lt szt255)
      have ne_b206_B255 : b206 ≠ B255 := Nat.ne_of_lt (Nat.lt_of_lt_of_le E_b206.lt szt255)
      have ne_B206_B255 : B206 ≠ B255 := Nat.ne_of_lt (Nat.lt_of_lt_of_le V_B206.lt szt255)
      have ne_b207_B255 : b207 ≠ B255 := Nat.ne_of_lt (Nat.lt_of_lt_of_le E_b207.lt szt255)
      have ne_B207_B255 : B207 ≠ B255 := Nat.ne_of_lt (Nat.lt_of_lt_of_le V_B207.lt szt255)
      replace S__VALUES := own_stakeep S__VALUES K255 ns0
      replace S_EMPTY := own_stakeep S_EMPTY K255 ns0
      replace S_COMPACT_STRINGS := own_stakeep S_COMPACT_STRINGS K255 ns0
      replace S_SIOOBE_FORMATTER := own_stakeep S_SIOOBE_FORMATTER K255 ns0
      replace S_MONITORING := own_stakeep S_MONITORING K255 ns0
      replace S_ABUSE_REPORTS := own_stakeep S_ABUSE_REPORTS K255 ns0
      replace E_w__VALUES := E_w__VALUES.keep K255
      replace V_w__VALUES := V_w__VALUES.keep K255 nin0
      replace F_jsonName_w_MONITORING := F_jsonName_w_MONITORING.keep K255 nin0
      replace F_jsonName_w_ABUSE_REPORTS := F_jsonName_w_ABUSE_REPORTS.keep K255 nin0
      replace E_sM := E_sM.keep K255
      replace F_coder_sM := F_coder_sM.keep K255 nin0
      replace F_value_sM := F_value_sM.keep K255 nin0
      replace V_tM := V_tM.keep K255 nin0
      replace E_sA := E_sA.keep K255
      replace F_coder_sA := F_coder_sA.keep K255 nin0
      replace F_value_sA := F_value_sA.keep K255 nin0
      replace V_tA := V_tA.keep K255 nin0
      replace E_w_EMPTY := E_w_EMPTY.keep K255
      replace F_value_w_EMPTY := F_value_w_EMPTY.keep K255 nin0
      replace E_b206 := E_b206.keep K255
      replace F_coder_b206 := F_coder_b206.keep K255 nin0
      replace F_value_b206 := F_value_b206.keep K255 nin0
      replace V_B206 := V_B206.keep K255 nin0
      replace E_b207 := E_b207.keep K255
      replace F_coder_b207 := F_coder_b207.keep K255 nin0
      replace F_value_b207 := F_value_b207.keep K255 nin0
      replace V_B207 := V_B207.keep K255 nin0
      replace Z0 := Nat.le_trans Z0 K255.1
      replace hk := Nat.le_trans hk K255.1
      have E_b255 : Exa Z h255 b255 "java/lang/String" := G255E
      have F_coder_b255 : Fld Z h255 b255 "java/lang/String" "coder" "B" (.int (0 : Int32)) := G255C
      have F_value_b255 : Fld Z h255 b255 "java/lang/String" "value" "[B" (.ref B255) := G255V
      have V_B255 : Arv Z h255 B255 kb255 .byte (12 : Int32) (((mkl C2 (p2 &&& (15 : Int32)) ((p3 &&& (255 : Int32)).toUInt32.toUInt16.toUInt32.toInt32) 12).map StrChars.lo8).map Value.int) (.int (0 : Int32)) := G255A
      have N255 := Fr.app N0 N255q
      have pre257 : GO p e below (T255.setTop (mkF m 101 (lo0_32 p1 p2 p3 p4 b206 b207 b255) [(.int (12 : Int32)), (.int (p2 &&& (15 : Int32)))])) (s₁.setTop (entryFrame m #[(.int p1), (.int p2), (.int p3), (.int p4)] maxLocals)) := fun t k => by
        refine pre211 _ ?_
        refine y_icmpNo X207 hx hby at_81 (flt hc210).2.2.1 ?_
        refine y_aload X207 hx hby at_84 rfl rfl ?_
        refine y_iload X207 hx hby at_86 rfl ?_
        refine y_iload X207 hx hby at_88 rfl ?_
        refine y_bipush X207 hx hby (v := (12 : Int32)) at_90 rfl ?_
        refine st255 _ ?_
        show Steps p.tables e below (T255.setTop (mkF m 95 (lo0_5 p1 p2 p3 p4 b206 b207) [(.ref b255)])) _
        refine y_astore X255 hx hby at_95 rfl (l' := (lo0_32 p1 p2 p3 p4 b206 b207 b255)) rfl ?_
        refine y_iload X255 hx hby at_97 rfl ?_
        refine y_bipush X255 hx hby (v := (12 : Int32)) at_99 rfl ?_
        exact k
      by_cases hc256 : (p2 &&& (15 : Int32)) < (12 : Int32)
      · obtain ⟨cq258, kq258, q258a, q258b, q258c⟩ := isOf hZ e255 E_b207
        obtain ⟨_, _, ⟨T258, L258, k258, n258⟩, -, X258, ⟨Lc258, hQ258, l258, y258, z258⟩, st258⟩ := X255.virtualBack hx (y := mn1) (z := mn1) hown (mvT hZ (ww hw 31 rfl)) (mvT hZ (ww hw 32 rfl)) (notFace_of_selects (args := #[]) (mvT hZ (ww hw 34 rfl))) (mvT hZ (ww hw 34 rfl)) (mvT hZ (ww hw 33 rfl)) (by decide) (StrChars.Road.chN (W := 1) hZ hch (kI := 4) (ww hw 2 rfl) E_b207 F_value_b207 F_coder_b207 V_B207 (own_cod (n := 12) rfl own_rc2) (own_up own_rc2) S_COMPACT_STRINGS hz S_SIOOBE_FORMATTER rf (by decide) (i := (p2 &&& (15 : Int32)).toNatClampNeg) (own_pl (n := 12) (by decide) hc256) (j := (p2 &&& (15 : Int32))) (own_pj p2) (by decide) (by decide)) q258a q258c (g := (mkF m 110 (lo0_32 p1 p2 p3 p4 b206 b207 b255) [(.int (p2 &&& (15 : Int32))), (.ref b207), (.int ((p3 &&& (255 : Int32)).toUInt32.toUInt16.toUInt32.toInt32))])) rfl (by rw [hml]; rfl) (Steps.refl _) (argsL := [(.int (p2 &&& (15 : Int32)))]) (rest := [(.int ((p3 &&& (255 : Int32)).toUInt32.toUInt16.toUInt32.toInt32))]) (lenOf pd_1 rfl) rfl (by show 2 * 0 + _ ≤ _; exact Nat.le_of_eq rfl) (hb hby at_110) (fun _ _ => ⟨rfl, e255, (by decide : 7 + 0 ≤ _), (by decide : 124 + 0 ≤ _)⟩)
        dsimp only [Pt.U, Pt.locs, Pt.cells, Pt.slots] at X258 l258 y258 z258 st258 hQ258
        rw [l258, y258, z258] at X258
        obtain ⟨rfl, rfl, e258⟩ := hQ258
        have N258q := Fr.nil n0
        have N258 := Fr.app N255 N258q
        have pre260 : GO p e below (T258.setTop (mkF m 113 (lo0_32 p1 p2 p3 p4 b206 b207 b255) [(.int (C2.getD (p2 &&& (15 : Int32)).toNatClampNeg 0)), (.int ((p3 &&& (255 : Int32)).toUInt32.toUInt16.toUInt32.toInt32))])) (s₁.setTop (entryFrame m #[(.int p1), (.int p2), (.int p3), (.int p4)] maxLocals)) := fun t k => by
          refine pre257 _ ?_
          refine y_icmpNo X255 hx hby at_101 (tlt hc256).2.1 ?_
          refine y_iload X255 hx hby at_104 rfl ?_
          refine y_aload X255 hx hby at_106 rfl rfl ?_
          refine y_iload X255 hx hby at_108 rfl ?_
          refine st258.trans ?_
          show Steps p.tables e below (T258.setTop (mkF m 113 (lo0_32 p1 p2 p3 p4 b206 b207 b255) [(.int (C2.getD (p2 &&& (15 : Int32)).toNatClampNeg 0)), (.int ((p3 &&& (255 : Int32)).toUInt32.toUInt16.toUInt32.toInt32))])) _
          exact k
        by_cases hc259 : ((p3 &&& (255 : Int32)).toUInt32.toUInt16.toUInt32.toInt32) = (C2.getD (p2 &&& (15 : Int32)).toNatClampNeg 0)
        · obtain ⟨T261, X261, e261, st261⟩ := getS2 X258 hx hZ hown (host := "") (Or.inl (ww hw 117 rfl)) Via.refl e258 S_ABUSE_REPORTS (g := (mkF m 120 (lo0_32 p1 p2 p3 p4 b206 b207 b255) [])) rfl (hb hby at_120)
          obtain ⟨_, _, ⟨T262, L262, k262, n262⟩, -, X262, ⟨Lc262, hQ262, l262, y262, z262⟩, st262⟩ := Jvm.LawKit.callS X261 hx (y := mn16) hown (mvT hZ (ww hw 73 rfl)) (mvT hZ (ww hw 74 rfl)) (mvT hZ (ww hw 75 rfl)) (mvT hZ (ww hw 76 rfl)) (by decide) (backOf (W := 0) (rm16_s l Z a0 hw [] b255 B255 kb255 (12 : Int32) (((mkl C2 (p2 &&& (15 : Int32)) ((p3 &&& (255 : Int32)).toUInt32.toUInt16.toUInt32.toInt32) 12).map StrChars.lo8).map Value.int) (mkl C2 (p2 &&& (15 : Int32)) ((p3 &&& (255 : Int32)).toUInt32.toUInt16.toUInt32.toInt32) 12) w_MONITORING w_ABUSE_REPORTS kV w__VALUES sM tM kM sA tA kA w_EMPTY w_COMPACT_STRINGS h255 n0 Z0 S__VALUES S_EMPTY S_COMPACT_STRINGS hz (own_cod (n := 12) (own_mklen _ _ _ 12) (own_mkr own_rc2 (own_char p3) 12)) (own_mkr own_rc2 (own_char p3) 12) (by rw [own_mklen]; decide) E_b255 F_coder_b255 F_value_b255 V_B255 E_w__VALUES V_w__VALUES F_jsonName_w_MONITORING F_jsonName_w_ABUSE_REPORTS E_sM F_coder_sM F_value_sM V_tM E_sA F_coder_sA F_value_sA V_tA E_w_EMPTY F_value_w_EMPTY) hZ (ww hw 76 rfl) (ww hw 75 rfl) (by decide) (by decide)) (g := (mkF m 299 (lo0_33 p1 p2 p3 p4 b206 b207 b255 w_ABUSE_REPORTS) [(.ref b255)])) rfl (by rw [hml]; rfl) (argsL := [(.ref b255)]) (rest := []) (lenOf pd_14 rfl) rfl (by show 2 * 0 + _ ≤ _; exact Nat.le_of_eq rfl) (hb hby at_299) (fun _ _ => ⟨rfl, e261, (by decide : 7 + 2 ≤ _), (by decide : 124 + 3 ≤ _)⟩)
          dsimp only [Pt.U, Pt.locs, Pt.cells, Pt.slots] at X262 l262 y262 z262 st262 hQ262
          rw [l262, y262, z262] at X262
          obtain ⟨h262, e262⟩ : ∃ z, T262.heap = z := ⟨_, rfl⟩
          rw [e262] at hQ262
          obtain ⟨B262, w262, rfl, N262q, K262, G262E, G262V, G262R⟩ := hQ262
          replace S__VALUES := own_stakeep S__VALUES K262 ns0
          replace S_EMPTY := own_stakeep S_EMPTY K262 ns0
          replace S_COMPACT_STRINGS := own_stakeep S_COMPACT_STRINGS K262 ns0
          replace S_SIOOBE_FORMATTER := own_stakeep S_SIOOBE_FORMATTER K262 ns0
          replace S_MONITORING := own_stakeep S_MONITORING K262 ns0
          replace S_ABUSE_REPORTS := own_stakeep S_ABUSE_REPORTS K262 ns0
          replace E_w__VALUES := E_w__VALUES.keep K262
          replace V_w__VALUES := V_w__VALUES.keep K262 nin0
          replace F_jsonName_w_MONITORING := F_jsonName_w_MONITORING.keep K262 nin0
          replace F_jsonName_w_ABUSE_REPORTS := F_jsonName_w_ABUSE_REPORTS.keep K262 nin0
          replace E_sM := E_sM.keep K262
          replace F_coder_sM := F_coder_sM.keep K262 nin0
          replace F_value_sM := F_value_sM.keep K262 nin0
          replace V_tM := V_tM.keep K262 nin0
          replace E_sA := E_sA.keep K262
          replace F_coder_sA := F_coder_sA.keep K262 nin0
          replace F_value_sA := F_value_sA.keep K262 nin0
          replace V_tA := V_tA.keep K262 nin0
          replace E_w_EMPTY := E_w_EMPTY.keep K262
          replace F_value_w_EMPTY := F_value_w_EMPTY.keep K262 nin0
          replace E_b206 := E_b206.keep K262
          replace F_coder_b206 := F_coder_b206.keep K262 nin0
          replace F_value_b206 := F_value_b206.keep K262 nin0
          replace V_B206 := V_B206.keep K262 nin0
          replace E_b207 := E_b207.keep K262
          replace F_coder_b207 := F_coder_b207.keep K262 nin0
          replace F_value_b207 := F_value_b207.keep K262 nin0
          replace V_B207 := V_B207.keep K262 nin0
          replace E_b255 := E_b255.keep K262
          replace F_coder_b255 := F_coder_b255.keep K262 nin0
          replace F_value_b255 := F_value_b255.keep K262 nin0
          replace V_B255 := V_B255.keep K262 nin0
          replace Z0 := Nat.le_trans Z0 K262.1
          replace hk := Nat.le_trans hk K262.1
          have G262R := own_rvA G262R (own_mkl (by decide)) (own_mkeq own_rc2 (own_char p3) rfl (by decide) (own_at (by decide) hc259))
          subst G262R
          have E_B262 : Exa Z h262 B262 "java/util/Optional" := G262E
          have F_value_B262 : Fld Z h262 B262 "java/util/Optional" "value" "Ljava/lang/Object;" (.ref w_ABUSE_REPORTS) := G262V
          have N262 := Fr.app N258 N262q
          obtain ⟨cq263, kq263, q263a, q263b, q263c⟩ := isOf hZ e262 E_B262
          obtain ⟨_, _, ⟨T263, L263, k263, n263⟩, -, X263, ⟨Lc263, hQ263, l263, y263, z263⟩, st263⟩ := X262.virtualBack hx (y := mn10) (z := mn10) hown (mvT hZ (ww hw 110 rfl)) (mvT hZ (ww hw 111 rfl)) (notFace_of_selects (args := #[]) (mvT hZ (ww hw 113 rfl))) (mvT hZ (ww hw 113 rfl)) (mvT hZ (ww hw 112 rfl)) (by decide) (backOf (W := 0) (rm21_r l Z a0 hw [] B262 w_ABUSE_REPORTS h262 n0 Z0 F_value_B262) hZ (ww hw 114 rfl) (ww hw 107 rfl) (by decide) (by decide)) q263a q263c (g := (mkF m 314 (lo0_34 p1 p2 p3 p4 b206 b207 b255 w_ABUSE_REPORTS B262) [.null, (.ref B262)])) rfl (by rw [hml]; rfl) (Steps.refl _) (argsL := [.null]) (rest := []) (lenOf pd_4 rfl) rfl (by show 2 * 0 + _ ≤ _; exact Nat.le_of_eq rfl) (hb hby at_314) (fun _ _ => ⟨rfl, e262, (by decide : 9 + 0 ≤ _), (by decide : 127 + 0 ≤ _)⟩)
          dsimp only [Pt.U, Pt.locs, Pt.cells, Pt.slots] at X263 l263 y263 z263 st263 hQ263
          rw [l263, y263, z263] at X263
          obtain ⟨rfl, N263q, e263⟩ := hQ263
          have N263 := Fr.app N262 N263q
          obtain ⟨fs, hr, hrun, hended, hEW⟩ := X263.leaveW hS (by rw [e263]; exact hk) (v := some (.int (1 : Int32))) (fun h => by rw [Bd.returns] at h; cases h)
          refine ⟨_, _, pre260 _ ?_, hrun, hended, _, _, rfl, ?_, hEW.1, hEW.2.1, hEW.2.2.1, hEW.2.2.2.mono (by decide) (by decide)⟩
          · refine y_icmpYes X258 hx hby (pc' := 120) at_113 (teq hc259).1 (by decide) (by decide) ?_
            refine st261 _ ?_
            show Steps p.tables e below (T261.setTop (mkF m 123 (lo0_32 p1 p2 p3 p4 b206 b207 b255) [(.ref w_ABUSE_REPORTS)])) _
            refine y_astore X261 hx hby at_123 rfl (l' := (lo0_33 p1 p2 p3 p4 b206 b207 b255 w_ABUSE_REPORTS)) rfl ?_
            refine y_goto X261 hx hby (pc' := 297) at_125 (by decide) (by decide) ?_
            refine y_aload X261 hx hby at_297 rfl rfl ?_
            refine st262 _ ?_
            show Steps p.tables e below (T262.setTop (mkF m 302 (lo0_33 p1 p2 p3 p4 b206 b207 b255 w_ABUSE_REPORTS) [(.ref B262)])) _
            refine y_astore X262 hx hby at_302 rfl (l' := (lo0_34 p1 p2 p3 p4 b206 b207 b255 w_ABUSE_REPORTS B262)) rfl ?_
            refine y_aload X262 hx hby at_304 rfl rfl ?_
            refine y_ifnonnullYes X262 hx hby (pc' := 311) at_306 (by decide) (by decide) ?_
            refine y_aload X262 hx hby at_311 rfl rfl ?_
            refine y_aconstNull X262 hx hby at_313 ?_
            refine st263.trans ?_
            show Steps p.tables e below (T263.setTop (mkF m 317 (lo0_34 p1 p2 p3 p4 b206 b207 b255 w_ABUSE_REPORTS B262) [(.ref w_ABUSE_REPORTS)])) _
            refine y_aload X263 hx hby at_317 rfl rfl ?_
            show Steps p.tables e below (T263.setTop (mkF m 319 (lo0_34 p1 p2 p3 p4 b206 b207 b255 w_ABUSE_REPORTS B262) [(.ref w_ABUSE_REPORTS), (.ref w_ABUSE_REPORTS)])) _
            refine Jvm.RoadKit.acmp (g := (mkF m 319 (lo0_34 p1 p2 p3 p4 b206 b207 b255 w_ABUSE_REPORTS B262) [(.ref w_ABUSE_REPORTS), (.ref w_ABUSE_REPORTS)])) X263 hx rfl rfl rfl (pc0 := 319) (pc' := 322) (same := true) rfl (hb hby at_319) rfl (decide_eq_true (congrArg Value.ref rfl)) (by decide) (by decide) ?_
            show Steps p.tables e below (T263.setTop (mkF m 322 (lo0_34 p1 p2 p3 p4 b206 b207 b255 w_ABUSE_REPORTS B262) [])) _
            refine y_iconst X263 hx hby (v := (1 : Int32)) at_322 rfl ?_
            refine y_goto X263 hx hby (pc' := 327) at_323 (by decide) (by decide) ?_
            exact retN X263 hx (t := .boolean) Bd.returns (by simp) (hb hby at_327) hr
          · exact ⟨rfl, N263⟩
        · obtain ⟨_, _, ⟨T264, L264, k264, n264⟩, -, X264, ⟨Lc264, hQ264, l264, y264, z264⟩, st264⟩ := Jvm.LawKit.callS X258 hx (y := mn16) hown (mvT hZ (ww hw 73 rfl)) (mvT hZ (ww hw 74 rfl)) (mvT hZ (ww hw 75 rfl)) (mvT hZ (ww hw 76 rfl)) (by decide) (backOf (W := 0) (rm16_s l Z a0 hw [] b255 B255 kb255 (12 : Int32) (((mkl C2 (p2 &&& (15 : Int32)) ((p3 &&& (255 : Int32)).toUInt32.toUInt16.toUInt32.toInt32) 12).map StrChars.lo8).map Value.int) (mkl C2 (p2 &&& (15 : Int32)) ((p3 &&& (255 : Int32)).toUInt32.toUInt16.toUInt32.toInt32) 12) w_MONITORING w_ABUSE_REPORTS kV w__VALUES sM tM kM sA tA kA w_EMPTY w_COMPACT_STRINGS h255 n0 Z0 S__VALUES S_EMPTY S_COMPACT_STRINGS hz (own_cod (n := 12) (own_mklen _ _ _ 12) (own_mkr own_rc2 (own_char p3) 12)) (own_mkr own_rc2 (own_char p3) 12) (by rw [own_mklen]; decide) E_b255 F_coder_b255 F_value_b255 V_B255 E_w__VALUES V_w__VALUES F_jsonName_w_MONITORING F_jsonName_w_ABUSE_REPORTS E_sM F_coder_sM F_value_sM V_tM E_sA F_coder_sA F_value_sA V_tA E_w_EMPTY F_value_w_EMPTY) hZ (ww hw 76 rfl) (ww hw 75 rfl) (by decide) (by decide)) (g := (mkF m 299 (lo0_35 p1 p2 p3 p4 b206 b207 b255) [(.ref b255)])) rfl (by rw [hml]; rfl) (argsL := [(.ref b255)]) (rest := []) (lenOf pd_14 rfl) rfl (by show 2 * 0 + _ ≤ _; exact Nat.le_of_eq rfl) (hb hby at_299) (fun _ _ => ⟨rfl, e258, (by decide : 7 + 2 ≤ _), (by decide : 124 + 3 ≤ _)⟩)
          dsimp only [Pt.U, Pt.locs, Pt.cells, Pt.slots] at X264 l264 y264 z264 st264 hQ264
          rw [l264, y264, z264] at X264
          obtain ⟨h264, e264⟩ : ∃ z, T264.heap = z := ⟨_, rfl⟩
          rw [e264] at hQ264
          obtain ⟨B264, w264, rfl, N264q, K264, G264E, G264V, G264R⟩ := hQ264
          replace S__VALUES := own_stakeep S__VALUES K264 ns0
          replace S_EMPTY := own_stakeep S_EMPTY K264 ns0
          replace S_COMPACT_STRINGS := own_stakeep S_COMPACT_STRINGS K264 ns0
          replace S_SIOOBE_FORMATTER := own_stakeep S_SIOOBE_FORMATTER K264 ns0
          replace S_MONITORING := own_stakeep S_MONITORING K264 ns0
          replace S_ABUSE_REPORTS := own_stakeep S_ABUSE_REPORTS K264 ns0
          replace E_w__VALUES := E_w__VALUES.keep K264
          replace V_w__VALUES := V_w__VALUES.keep K264 nin0
          replace F_jsonName_w_MONITORING := F_jsonName_w_MONITORING.keep K264 nin0
          replace F_jsonName_w_ABUSE_REPORTS := F_jsonName_w_ABUSE_REPORTS.keep K264 nin0
          replace E_sM := E_sM.keep K264
          replace F_coder_sM := F_coder_sM.keep K264 nin0
          replace F_value_sM := F_value_sM.keep K264 nin0
          replace V_tM := V_tM.keep K264 nin0
          replace E_sA := E_sA.keep K264
          replace F_coder_sA := F_coder_sA.keep K264 nin0
          replace F_value_sA := F_value_sA.keep K264 nin0
          replace V_tA := V_tA.keep K264 nin0
          replace E_w_EMPTY := E_w_EMPTY.keep K264
          replace F_value_w_EMPTY := F_value_w_EMPTY.keep K264 nin0
          replace E_b206 := E_b206.keep K264
          replace F_coder_b206 := F_coder_b206.keep K264 nin0
          replace F_value_b206 := F_value_b206.keep K264 nin0
          replace V_B206 := V_B206.keep K264 nin0
          replace E_b207 := E_b207.keep K264
          replace F_coder_b207 := F_coder_b207.keep K264 nin0
          replace F_value_b207 := F_value_b207.keep K264 nin0
          replace V_B207 := V_B207.keep K264 nin0
          replace E_b255 := E_b255.keep K264
          replace F_coder_b255 := F_coder_b255.keep K264 nin0
          replace F_value_b255 := F_value_b255.keep K264 nin0
          replace V_B255 := V_B255.keep K264 nin0
          replace Z0 := Nat.le_trans Z0 K264.1
          replace hk := Nat.le_trans hk K264.1
          have G264R := own_rvN G264R (own_mkl (by decide)) (own_mkne own_rc2 (own_char p3) rfl (by decide) (own_pl (n := 12) (by decide) hc256) (own_pj p2) hc259)
          subst G264R
          have E_B264 : Exa Z h264 B264 "java/util/Optional" := G264E
          have F_value_B264 : Fld Z h264 B264 "java/util/Optional" "value" "Ljava/lang/Object;" .null := G264V
          have N264 := Fr.app N258 N264q
          obtain ⟨cq265, kq265, q265a, q265b, q265c⟩ := isOf hZ e264 E_B264
          obtain ⟨_, _, ⟨T265, L265, k265, n265⟩, -, X265, ⟨Lc265, hQ265, l265, y265, z265⟩, st265⟩ := X264.virtualBack hx (y := mn10) (z := mn10) hown (mvT hZ (ww hw 110 rfl)) (mvT hZ (ww hw 111 rfl)) (notFace_of_selects (args := #[]) (mvT hZ (ww hw 113 rfl))) (mvT hZ (ww hw 113 rfl)) (mvT hZ (ww hw 112 rfl)) (by decide) (backOf (W := 0) (rm21_n l Z a0 hw [] B264 h264 n0 Z0 F_value_B264) hZ (ww hw 114 rfl) (ww hw 107 rfl) (by decide) (by decide)) q265a q265c (g := (mkF m 314 (lo0_36 p1 p2 p3 p4 b206 b207 b255 B264) [.null, (.ref B264)])) rfl (by rw [hml]; rfl) (Steps.refl _) (argsL := [.null]) (rest := []) (lenOf pd_4 rfl) rfl (by show 2 * 0 + _ ≤ _; exact Nat.le_of_eq rfl) (hb hby at_314) (fun _ _ => ⟨rfl, e264, (by decide : 9 + 0 ≤ _), (by decide : 127 + 0 ≤ _)⟩)
          dsimp only [Pt.U, Pt.locs, Pt.cells, Pt.slots] at X265 l265 y265 z265 st265 hQ265
          rw [l265, y265, z265] at X265
          obtain ⟨rfl, N265q, e265⟩ := hQ265
          have N265 := Fr.app N264 N265q
          obtain ⟨fs, hr, hrun, hended, hEW⟩ := X265.leaveW hS (by rw [e265]; exact hk) (v := some (.int (1 : Int32))) (fun h => by rw [Bd.returns] at h; cases h)
          refine ⟨_, _, pre260 _ ?_, hrun, hended, _, _, rfl, ?_, hEW.1, hEW.2.1, hEW.2.2.1, hEW.2.2.2.mono (by decide) (by decide)⟩
          · refine y_icmpNo X258 hx hby at_113 (feq hc259).1 ?_
            refine y_aconstNull X258 hx hby at_116 ?_
            refine y_goto X258 hx hby (pc' := 123) at_117 (by decide) (by decide) ?_
            refine y_astore X258 hx hby at_123 rfl (l' := (lo0_35 p1 p2 p3 p4 b206 b207 b255)) rfl ?_
            refine y_goto X258 hx hby (pc' := 297) at_125 (by decide) (by decide) ?_
            refine y_aload X258 hx hby at_297 rfl rfl ?_
            refine st264 _ ?_
            show Steps p.tables e below (T264.setTop (mkF m 302 (lo0_35 p1 p2 p3 p4 b206 b207 b255) [(.ref B264)])) _
            refine y_astore X264 hx hby at_302 rfl (l' := (lo0_36 p1 p2 p3 p4 b206 b207 b255 B264)) rfl ?_
            refine y_aload X264 hx hby at_304 rfl rfl ?_
            refine y_ifnonnullYes X264 hx hby (pc' := 311) at_306 (by decide) (by decide) ?_
            refine y_aload X264 hx hby at_311 rfl rfl ?_
            refine y_aconstNull X264 hx hby at_313 ?_
            refine st265.trans ?_
            show Steps p.tables e below (T265.setTop (mkF m 317 (lo0_36 p1 p2 p3 p4 b206 b207 b255 B264) [.null])) _
            refine y_aload X265 hx hby at_317 rfl rfl ?_
            show Steps p.tables e below (T265.setTop (mkF m 319 (lo0_36 p1 p2 p3 p4 b206 b207 b255 B264) [.null, .null])) _
            refine Jvm.RoadKit.acmp (g := (mkF m 319 (lo0_36 p1 p2 p3 p4 b206 b207 b255 B264) [.null, .null])) X265 hx rfl rfl rfl (pc0 := 319) (pc' := 322) (same := true) rfl (hb hby at_319) rfl (decide_eq_true rfl) (by decide) (by decide) ?_
            show Steps p.tables e below (T265.setTop (mkF m 322 (lo0_36 p1 p2 p3 p4 b206 b207 b255 B264) [])) _
            refine y_iconst X265 hx hby (v := (1 : Int32)) at_322 rfl ?_
            refine y_goto X265 hx hby (pc' := 327) at_323 (by decide) (by decide) ?_
            exact retN X265 hx (t := .boolean) Bd.returns (by simp) (hb hby at_327) hr
          · exact ⟨rfl, N265⟩
      · obtain ⟨T266, X266, e266, st266⟩ := getS2 X255 hx hZ hown (host := "") (Or.inl (ww hw 117 rfl)) Via.refl e255 S_ABUSE_REPORTS (g := (mkF m 120 (lo0_32 p1 p2 p3 p4 b206 b207 b255) [])) rfl (hb hby at_120)
        obtain ⟨_, _, ⟨T267, L267, k267, n267⟩, -, X267, ⟨Lc267, hQ267, l267, y267, z267⟩, st267⟩ := Jvm.LawKit.callS X266 hx (y := mn16) hown (mvT hZ (ww hw 73 rfl)) (mvT hZ (ww hw 74 rfl)) (mvT hZ (ww hw 75 rfl)) (mvT hZ (ww hw 76 rfl)) (by decide) (backOf (W := 0) (rm16_s l Z a0 hw [] b255 B255 kb255 (12 : Int32) (((mkl C2 (p2 &&& (15 : Int32)) ((p3 &&& (255 : Int32)).toUInt32.toUInt16.toUInt32.toInt32) 12).map StrChars.lo8).map Value.int) (mkl C2 (p2 &&& (15 : Int32)) ((p3 &&& (255 : Int32)).toUInt32.toUInt16.toUInt32.toInt32) 12) w_MONITORING w_ABUSE_REPORTS kV w__VALUES sM tM kM sA tA kA w_EMPTY w_COMPACT_STRINGS h255 n0 Z0 S__VALUES S_EMPTY S_COMPACT_STRINGS hz (own_cod (n := 12) (own_mklen _ _ _ 12) (own_mkr own_rc2 (own_char p3) 12)) (own_mkr own_rc2 (own_char p3) 12) (by rw [own_mklen]; decide) E_b255 F_coder_b255 F_value_b255 V_B255 E_w__VALUES V_w__VALUES F_jsonName_w_MONITORING F_jsonName_w_ABUSE_REPORTS E_sM F_coder_sM F_value_sM V_tM E_sA F_coder_sA F_value_sA V_tA E_w_EMPTY F_value_w_EMPTY) hZ (ww hw 76 rfl) (ww hw 75 rfl) (by decide) (by decide)) (g := (mkF m 299 (lo0_33 p1 p2 p3 p4 b206 b207 b255 w_ABUSE_REPORTS) [(.ref b255)])) rfl (by rw [hml]; rfl) (argsL := [(.ref b255)]) (rest := []) (lenOf pd_14 rfl) rfl (by show 2 * 0 + _ ≤ _; exact Nat.le_of_eq rfl) (hb hby at_299) (fun _ _ => ⟨rfl, e266, (by decide : 7 + 2 ≤ _), (by decide : 124 + 3 ≤ _)⟩)
        dsimp only [Pt.U, Pt.locs, Pt.cells, Pt.slots] at X267 l267 y267 z267 st267 hQ267
        rw [l267, y267, z267] at X267
        obtain ⟨h267, e267⟩ : ∃ z, T267.heap = z := ⟨_, rfl⟩
        rw [e267] at hQ267
        obtain ⟨B267, w267, rfl, N267q, K267, G267E, G267V, G267R⟩ := hQ267
        replace S__VALUES := own_stakeep S__VALUES K267 ns0
        replace S_EMPTY := own_stakeep S_EMPTY K267 ns0
        replace S_COMPACT_STRINGS := own_stakeep S_COMPACT_STRINGS K267 ns0
        replace S_SIOOBE_FORMATTER := own_stakeep S_SIOOBE_FORMATTER K267 ns0
        replace S_MONITORING := own_stakeep S_MONITORING K267 ns0
        replace S_ABUSE_REPORTS := own_stakeep S_ABUSE_REPORTS K267 ns0
        replace E_w__VALUES := E_w__VALUES.keep K267
        replace V_w__VALUES := V_w__VALUES.keep K267 nin0
        replace F_jsonName_w_MONITORING := F_jsonName_w_MONITORING.keep K267 nin0
        replace F_jsonName_w_ABUSE_REPORTS := F_jsonName_w_ABUSE_REPORTS.keep K267 nin0
        replace E_sM := E_sM.keep K267
        replace F_coder_sM := F_coder_sM.keep K267 nin0
        replace F_value_sM := F_value_sM.keep K267 nin0
        replace V_tM := V_tM.keep K267 nin0
        replace E_sA := E_sA.keep K267
        replace F_coder_sA := F_coder_sA.keep K267 nin0
        replace F_value_sA := F_value_sA.keep K267 nin0
        replace V_tA := V_tA.keep K267 nin0
        replace E_w_EMPTY := E_w_EMPTY.keep K267
        replace F_value_w_EMPTY := F_value_w_EMPTY.keep K267 nin0
        replace E_b206 := E_b206.keep K267
        replace F_coder_b206 := F_coder_b206.keep K267 nin0
        replace F_value_b206 := F_value_b206.keep K267 nin0
        replace V_B206 := V_B206.keep K267 nin0
        replace E_b207 := E_b207.keep K267
        replace F_coder_b207 := F_coder_b207.keep K267 nin0
        replace F_value_b207 := F_value_b207.keep K267 nin0
        replace V_B207 := V_B207.keep K267 nin0
        replace E_b255 := E_b255.keep K267
        replace F_coder_b255 := F_coder_b255.keep K267 nin0
        replace F_value_b255 := F_value_b255.keep K267 nin0
        replace V_B255 := V_B255.keep K267 nin0
        replace Z0 := Nat.le_trans Z0 K267.1
        replace hk := Nat.le_trans hk K267.1
        have G267R := own_rvA G267R (own_mkl (by decide)) (own_mkeq own_rc2 (own_char p3) rfl (by decide) (own_ge (n := 12) (by decide) hc256))
        subst G267R
        have E_B267 : Exa Z h267 B267 "java/util/Optional" := G267E
        have F_value_B267 : Fld Z h267 B267 "java/util/Optional" "value" "Ljava/lang/Object;" (.ref w_ABUSE_REPORTS) := G267V
        have N267 := Fr.app N255 N267q
        obtain ⟨cq268, kq268, q268a, q268b, q268c⟩ := isOf hZ e267 E_B267
        obtain ⟨_, _, ⟨T268, L268, k268, n268⟩, -, X268, ⟨Lc268, hQ268, l268, y268, z268⟩, st268⟩ := X267.virtualBack hx (y := mn10) (z := mn10) hown (mvT hZ (ww hw 110 rfl)) (mvT hZ (ww hw 111 rfl)) (notFace_of_selects (args := #[]) (mvT hZ (ww hw 113 rfl))) (mvT hZ (ww hw 113 rfl)) (mvT hZ (ww hw 112 rfl)) (by decide) (backOf (W := 0) (rm21_r l Z a0 hw [] B267 w_ABUSE_REPORTS h267 n0 Z0 F_value_B267) hZ (ww hw 114 rfl) (ww hw 107 rfl) (by decide) (by decide)) q268a q268c (g := (mkF m 314 (lo0_37 p1 p2 p3 p4 b206 b207 b255 w_ABUSE_REPORTS B267) [.null, (.ref B267)])) rfl (by rw [hml]; rfl) (Steps.refl _) (argsL := [.null]) (rest := []) (lenOf pd_4 rfl) rfl (by show 2 * 0 + _ ≤ _; exact Nat.le_of_eq rfl) (hb hby at_314) (fun _ _ => ⟨rfl, e267, (by decide : 9 + 0 ≤ _), (by decide : 127 + 0 ≤ _)⟩)
        dsimp only [Pt.U, Pt.locs, Pt.cells, Pt.slots] at X268 l268 y268 z268 st268 hQ268
        rw [l268, y268, z268] at X268
        obtain ⟨rfl, N268q, e268⟩ := hQ268
        have N268 := Fr.app N267 N268q
        obtain ⟨fs, hr, hrun, hended, hEW⟩ := X268.leaveW hS (by rw [e268]; exact hk) (v := some (.int (1 : Int32))) (fun h => by rw [Bd.returns] at h; cases h)
        refine ⟨_, _, pre257 _ ?_, hrun, hended, _, _, rfl, ?_, hEW.1, hEW.2.1, hEW.2.2.1, hEW.2.2.2.mono (by decide) (by decide)⟩
        · refine y_icmpYes X255 hx hby (pc' := 120) at_101 (flt hc256).2.1 (by decide) (by decide) ?_
          refine st266 _ ?_
          show Steps p.tables e below (T266.setTop (mkF m 123 (lo0_32 p1 p2 p3 p4 b206 b207 b255) [(.ref w_ABUSE_REPORTS)])) _
          refine y_astore X266 hx hby at_123 rfl (l' := (lo0_33 p1 p2 p3 p4 b206 b207 b255 w_ABUSE_REPORTS)) rfl ?_
          refine y_goto X266 hx hby (pc' := 297) at_125 (by decide) (by decide) ?_
          refine y_aload X266 hx hby at_297 rfl rfl ?_
          refine st267 _ ?_
          show Steps p.tables e below (T267.setTop (mkF m 302 (lo0_33 p1 p2 p3 p4 b206 b207 b255 w_ABUSE_REPORTS) [(.ref B267)])) _
          refine y_astore X267 hx hby at_302 rfl (l' := (lo0_37 p1 p2 p3 p4 b206 b207 b255 w_ABUSE_REPORTS B267)) rfl ?_
          refine y_aload X267 hx hby at_304 rfl rfl ?_
          refine y_ifnonnullYes X267 hx hby (pc' := 311) at_306 (by decide) (by decide) ?_
          refine y_aload X267 hx hby at_311 rfl rfl ?_
          refine y_aconstNull X267 hx hby at_313 ?_
          refine st268.trans ?_
          show Steps p.tables e below (T268.setTop (mkF m 317 (lo0_37 p1 p2 p3 p4 b206 b207 b255 w_ABUSE_REPORTS B267) [(.ref w_ABUSE_REPORTS)])) _
          refine y_aload X268 hx hby at_317 rfl rfl ?_
          show Steps p.tables e below (T268.setTop (mkF m 319 (lo0_37 p1 p2 p3 p4 b206 b207 b255 w_ABUSE_REPORTS B267) [(.ref w_ABUSE_REPORTS), (.ref w_ABUSE_REPORTS)])) _
          refine Jvm.RoadKit.acmp (g := (mkF m 319 (lo0_37 p1 p2 p3 p4 b206 b207 b255 w_ABUSE_REPORTS B267) [(.ref w_ABUSE_REPORTS), (.ref w_ABUSE_REPORTS)])) X268 hx rfl rfl rfl (pc0 := 319) (pc' := 322) (same := true) rfl (hb hby at_319) rfl (decide_eq_true (congrArg Value.ref rfl)) (by decide) (by decide) ?_
          show Steps p.tables e below (T268.setTop (mkF m 322 (lo0_37 p1 p2 p3 p4 b206 b207 b255 w_ABUSE_REPORTS B267) [])) _
          refine y_iconst X268 hx hby (v := (1 : Int32)) at_322 rfl ?_
          refine y_goto X268 hx hby (pc' := 327) at_323 (by decide) (by decide) ?_
          exact retN X268 hx (t := .boolean) Bd.returns (by simp) (hb hby at_327) hr
        · exact ⟨rfl, N268⟩
  · obtain ⟨_, _, ⟨T269, L269, k269, n269⟩, -, X269, ⟨Lc269, hQ269, l269, y269, z269⟩, st269⟩ := Jvm.LawKit.callS X207 hx (y := mn4) hown (mvT hZ (ww hw 9 rfl)) (mvT hZ (ww hw 10 rfl)) (mvT hZ (ww hw 11 rfl)) (mvT hZ (ww hw 12 rfl)) (by decide) (backOf (W := 0) (rm1_10 l Z a0 hw [] b206 (p2 &&& (15 : Int32)) ((p3 &&& (255 : Int32)).toUInt32.toUInt16.toUInt32.toInt32) B206 kb206 (10 : Int32) ((C1.map StrChars.lo8).map Value.int) C1 w_COMPACT_STRINGS fm h207 n0 Z0 S_COMPACT_STRINGS hz S_SIOOBE_FORMATTER rf (own_cod (n := 10) rfl own_rc1) own_rc1 (by decide) (own_char p3) E_b206 F_coder_b206 F_value_b206 V_B206) hZ (ww hw 12 rfl) (ww hw 11 rfl) (by decide) (by decide)) (g := (mkF m 42 (lo0_5 p1 p2 p3 p4 b206 b207) [(.int (10 : Int32)), (.int ((p3 &&& (255 : Int32)).toUInt32.toUInt16.toUInt32.toInt32)), (.int (p2 &&& (15 : Int32))), (.ref b206)])) rfl (by rw [hml]; rfl) (argsL := [(.ref b206), (.int (p2 &&& (15 : Int32))), (.int ((p3 &&& (255 : Int32)).toUInt32.toUInt16.toUInt32.toInt32)), (.int (10 : Int32))]) (rest := []) (lenOf pd_13 rfl) rfl (by show 2 * 0 + _ ≤ _; exact Nat.le_of_eq rfl) (hb hby at_42) (fun _ _ => ⟨rfl, e207, (by decide : 4 + 3 ≤ _), (by decide : 96 + 24 ≤ _)⟩)
    dsimp only [Pt.U, Pt.locs, Pt.cells, Pt.slots] at X269 l269 y269 z269 st269 hQ269
    rw [l269, y269, z269] at X269
    obtain ⟨h269, e269⟩ : ∃ z, T269.heap = z := ⟨_, rfl⟩
    rw [e269] at hQ269
    obtain ⟨b269, B269, kb269, rfl, N269q, K269, szx269, szt269, G269E, G269C, G269V, G269A⟩ := hQ269
    have g_b269 : n0 ≤ b269 := Nat.le_trans Z0 szx269
    have ne_w__VALUES_b269 : w__VALUES ≠ b269 := Nat.ne_of_lt (Nat.lt_of_lt_of_le E_w__VALUES.lt szx269)
    have ne_sM_b269 : sM ≠ b269 := Nat.ne_of_lt (Nat.lt_of_lt_of_le E_sM.lt szx269)
    have ne_tM_b269 : tM ≠ b269 := Nat.ne_of_lt (Nat.lt_of_lt_of_le V_tM.lt szx269)
    have ne_sA_b269 : sA ≠ b269 := Nat.ne_of_lt (Nat.lt_of_lt_of_le E_sA.lt szx269)
    have ne_tA_b269 : tA ≠ b269 := Nat.ne_of_lt (Nat.lt_of_lt_of_le V_tA.lt szx269)
    have ne_w_EMPTY_b269 : w_EMPTY ≠ b269 := Nat.ne_of_lt (Nat.lt_of_lt_of_le E_w_EMPTY.lt szx269)
    have ne_w_MONITORING_b269 : w_MONITORING ≠ b269 := Nat.ne_of_lt (Nat.lt_of_lt_of_le F_jsonName_w_MONITORING.lt szx269)
    have ne_w_ABUSE_REPORTS_b269 : w_ABUSE_REPORTS ≠ b269 := Nat.ne_of_lt (Nat.lt_of_lt_of_le F_jsonName_w_ABUSE_REPORTS.lt szx269)
    have ne_b206_b269 : b206 ≠ b269 := Nat.ne_of_lt (Nat.lt_of_lt_of_le E_b206.lt szx269)
    have ne_B206_b269 : B206 ≠ b269 := Nat.ne_of_lt (Nat.lt_of_lt_of_le V_B206.lt szx269)
    have ne_b207_b269 : b207 ≠ b269 := Nat.ne_of_lt (Nat.lt_of_lt_of_le E_b207.lt szx269)
    have ne_B207_b269 : B207 ≠ b269 := Nat.ne_of_lt (Nat.lt_of_lt_of_le V_B207.lt szx269)
    have g_B269 : n0 ≤ B269 := Nat.le_trans Z0 szt269
    have ne_w__VALUES_B269 : w__VALUES ≠ B269 := Nat.ne_of_lt (Nat.lt_of_lt_of_le E_w__VALUES.lt szt269)
    have ne_sM_B269 : sM ≠ B269 := Nat.ne_of_lt (Nat.lt_of_lt_of_le E_sM.lt szt269)
    have ne_tM_B269 : tM ≠ B269 := Nat.ne_of_lt (Nat.lt_of_lt_of_le V_tM.lt szt269)
    have ne_sA_B269 : sA ≠ B269 := Nat.ne_of_lt (Nat.lt_of_lt_of_le E_sA.lt szt269)
    have ne_tA_B269 : tA ≠ B269 := Nat.ne_of_lt (Nat.lt_of_lt_of_le V_tA.lt szt269)
    have ne_w_EMPTY_B269 : w_EMPTY ≠ B269 := Nat.ne_of_lt (Nat.lt_of_lt_of_le E_w_EMPTY.lt szt269)
    have ne_w_MONITORING_B269 : w_MONITORING ≠ B269 := Nat.ne_of_lt (Nat.lt_of_lt_of_le F_jsonName_w_MONITORING.lt szt269)
    have ne_w_ABUSE_REPORTS_B269 : w_ABUSE_REPORTS ≠ B269 := Nat.ne_of_lt (Nat.lt_of_lt_of_le F_jsonName_w_ABUSE_REPORTS.lt szt269)
    have ne_b206_B269 : b206 ≠ B269 := Nat.ne_of_lt (Nat.lt_of_lt_of_le E_b206.lt szt269)
    have ne_B206_B269 : B206 ≠ B269 := Nat.ne_of_lt (Nat.lt_of_lt_of_le V_B206.lt szt269)
    have ne_b207_B269 : b207 ≠ B269 := Nat.ne_of_lt (Nat.lt_of_lt_of_le E_b207.lt szt269)
    have ne_B207_B269 : B207 ≠ B269 := Nat.ne_of_lt (Nat.lt_of_lt_of_le V_B207.lt szt269)
    replace S__VALUES := own_stakeep S__VALUES K269 ns0
    replace S_EMPTY := own_stakeep S_EMPTY K269 ns0
    replace S_COMPACT_STRINGS := own_stakeep S_COMPACT_STRINGS K269 ns0
    replace S_SIOOBE_FORMATTER := own_stakeep S_SIOOBE_FORMATTER K269 ns0
    replace S_MONITORING := own_stakeep S_MONITORING K269 ns0
    replace S_ABUSE_REPORTS := own_stakeep S_ABUSE_REPORTS K269 ns0
    replace E_w__VALUES := E_w__VALUES.keep K269
    replace V_w__VALUES := V_w__VALUES.keep K269 nin0
    replace F_jsonName_w_MONITORING := F_jsonName_w_MONITORING.keep K269 nin0
    replace F_jsonName_w_ABUSE_REPORTS := F_jsonName_w_ABUSE_REPORTS.keep K269 nin0
    replace E_sM := E_sM.keep K269
    replace F_coder_sM := F_coder_sM.keep K269 nin0
    replace F_value_sM := F_value_sM.keep K269 nin0
    replace V_tM := V_tM.keep K269 nin0
    replace E_sA := E_sA.keep K269
    replace F_coder_sA := F_coder_sA.keep K269 nin0
    replace F_value_sA := F_value_sA.keep K269 nin0
    replace V_tA := V_tA.keep K269 nin0
    replace E_w_EMPTY := E_w_EMPTY.keep K269
    replace F_value_w_EMPTY := F_value_w_EMPTY.keep K269 nin0
    replace E_b206 := E_b206.keep K269
    replace F_coder_b206 := F_coder_b206.keep K269 nin0
    replace F_value_b206 := F_value_b206.keep K269 nin0
    replace V_B206 := V_B206.keep K269 nin0
    replace E_b207 := E_b207.keep K269
    replace F_coder_b207 := F_coder_b207.keep K269 nin0
    replace F_value_b207 := F_value_b207.keep K269 nin0
    replace V_B207 := V_B207.keep K269 nin0
    replace Z0 := Nat.le_trans Z0 K269.1
    replace hk := Nat.le_trans hk K269.1
    have E_b269 : Exa Z h269 b269 "java/lang/String" := G269E
    have F_coder_b269 : Fld Z h269 b269 "java/lang/String" "coder" "B" (.int (0 : Int32)) := G269C
    have F_value_b269 : Fld Z h269 b269 "java/lang/String" "value" "[B" (.ref B269) := G269V
    have V_B269 : Arv Z h269 B269 kb269 .byte (10 : Int32) (((mkl C1 (p2 &&& (15 : Int32)) ((p3 &&& (255 : Int32)).toUInt32.toUInt16.toUInt32.toInt32) 10).map StrChars.lo8).map Value.int) (.int (0 : Int32)) := G269A
    have N269 := Fr.app N0 N269q
    have pre271 : GO p e below (T269.setTop (mkF m 51 (lo0_38 p1 p2 p3 p4 b206 b207 b269) [(.int (10 : Int32)), (.int (p2 &&& (15 : Int32)))])) (s₁.setTop (entryFrame m #[(.int p1), (.int p2), (.int p3), (.int p4)] maxLocals)) := fun t k => by
      refine pre209 _ ?_
      refine y_icmpNo X207 hx hby at_31 (flt hc208).2.2.1 ?_
      refine y_aload X207 hx hby at_34 rfl rfl ?_
      refine y_iload X207 hx hby at_36 rfl ?_
      refine y_iload X207 hx hby at_38 rfl ?_
      refine y_bipush X207 hx hby (v := (10 : Int32)) at_40 rfl ?_
      refine st269 _ ?_
      show Steps p.tables e below (T269.setTop (mkF m 45 (lo0_5 p1 p2 p3 p4 b206 b207) [(.ref b269)])) _
      refine y_astore X269 hx hby at_45 rfl (l' := (lo0_38 p1 p2 p3 p4 b206 b207 b269)) rfl ?_
      refine y_iload X269 hx hby at_47 rfl ?_
      refine y_bipush X269 hx hby (v := (10 : Int32)) at_49 rfl ?_
      exact k
    by_cases hc270 : (p2 &&& (15 : Int32)) < (10 : Int32)
    · obtain ⟨cq272, kq272, q272a, q272b, q272c⟩ := isOf hZ e269 E_b206
      obtain ⟨_, _, ⟨T272, L272, k272, n272⟩, -, X272, ⟨Lc272, hQ272, l272, y272, z272⟩, st272⟩ := X269.virtualBack hx (y := mn1) (z := mn1) hown (mvT hZ (ww hw 31 rfl)) (mvT hZ (ww hw 32 rfl)) (notFace_of_selects (args := #[]) (mvT hZ (ww hw 34 rfl))) (mvT hZ (ww hw 34 rfl)) (mvT hZ (ww hw 33 rfl)) (by decide) (StrChars.Road.chN (W := 1) hZ hch (kI := 4) (ww hw 2 rfl) E_b206 F_value_b206 F_coder_b206 V_B206 (own_cod (n := 10) rfl own_rc1) (own_up own_rc1) S_COMPACT_STRINGS hz S_SIOOBE_FORMATTER rf (by decide) (i := (p2 &&& (15 : Int32)).toNatClampNeg) (own_pl (n := 10) (by decide) hc270) (j := (p2 &&& (15 : Int32))) (own_pj p2) (by decide) (by decide)) q272a q272c (g := (mkF m 60 (lo0_38 p1 p2 p3 p4 b206 b207 b269) [(.int (p2 &&& (15 : Int32))), (.ref b206), (.int ((p3 &&& (255 : Int32)).toUInt32.toUInt16.toUInt32.toInt32))])) rfl (by rw [hml]; rfl) (Steps.refl _) (argsL := [(.int (p2 &&& (15 : Int32)))]) (rest := [(.int ((p3 &&& (255 : Int32)).toUInt32.toUInt16.toUInt32.toInt32))]) (lenOf pd_1 rfl) rfl (by show 2 * 0 + _ ≤ _; exact Nat.le_of_eq rfl) (hb hby at_60) (fun _ _ => ⟨rfl, e269, (by decide : 7 + 0 ≤ _), (by decide : 120 + 0 ≤ _)⟩)
      dsimp only [Pt.U, Pt.locs, Pt.cells, Pt.slots] at X272 l272 y272 z272 st272 hQ272
      rw [l272, y272, z272] at X272
      obtain ⟨rfl, rfl, e272⟩ := hQ272
      have N272q := Fr.nil n0
      have N272 := Fr.app N269 N272q
      have pre274 : GO p e below (T272.setTop (mkF m 63 (lo0_38 p1 p2 p3 p4 b206 b207 b269) [(.int (C1.getD (p2 &&& (15 : Int32)).toNatClampNeg 0)), (.int ((p3 &&& (255 : Int32)).toUInt32.toUInt16.toUInt32.toInt32))])) (s₁.setTop (entryFrame m #[(.int p1), (.int p2), (.int p3), (.int p4)] maxLocals)) := fun t k => by
        refine pre271 _ ?_
        refine y_icmpNo X269 hx hby at_51 (tlt hc270).2.1 ?_
        refine y_iload X269 hx hby at_54 rfl ?_
        refine y_aload X269 hx hby at_56 rfl rfl ?_
        refine y_iload X269 hx hby at_58 rfl ?_
        refine st272.trans ?_
        show Steps p.tables e below (T272.setTop (mkF m 63 (lo0_38 p1 p2 p3 p4 b206 b207 b269) [(.int (C1.getD (p2 &&& (15 : Int32)).toNatClampNeg 0)), (.int ((p3 &&& (255 : Int32)).toUInt32.toUInt16.toUInt32.toInt32))])) _
        exact k
      by_cases hc273 : ((p3 &&& (255 : Int32)).toUInt32.toUInt16.toUInt32.toInt32) = (C1.getD (p2 &&& (15 : Int32)).toNatClampNeg 0)
      · obtain ⟨T275, X275, e275, st275⟩ := getS2 X272 hx hZ hown (host := "") (Or.inl (ww hw 144 rfl)) Via.refl e272 S_MONITORING (g := (mkF m 70 (lo0_38 p1 p2 p3 p4 b206 b207 b269) [])) rfl (hb hby at_70)
        obtain ⟨_, _, ⟨T276, L276, k276, n276⟩, -, X276, ⟨Lc276, hQ276, l276, y276, z276⟩, st276⟩ := Jvm.LawKit.callS X275 hx (y := mn16) hown (mvT hZ (ww hw 73 rfl)) (mvT hZ (ww hw 74 rfl)) (mvT hZ (ww hw 75 rfl)) (mvT hZ (ww hw 76 rfl)) (by decide) (backOf (W := 0) (rm16_s l Z a0 hw [] b269 B269 kb269 (10 : Int32) (((mkl C1 (p2 &&& (15 : Int32)) ((p3 &&& (255 : Int32)).toUInt32.toUInt16.toUInt32.toInt32) 10).map StrChars.lo8).map Value.int) (mkl C1 (p2 &&& (15 : Int32)) ((p3 &&& (255 : Int32)).toUInt32.toUInt16.toUInt32.toInt32) 10) w_MONITORING w_ABUSE_REPORTS kV w__VALUES sM tM kM sA tA kA w_EMPTY w_COMPACT_STRINGS h269 n0 Z0 S__VALUES S_EMPTY S_COMPACT_STRINGS hz (own_cod (n := 10) (own_mklen _ _ _ 10) (own_mkr own_rc1 (own_char p3) 10)) (own_mkr own_rc1 (own_char p3) 10) (by rw [own_mklen]; decide) E_b269 F_coder_b269 F_value_b269 V_B269 E_w__VALUES V_w__VALUES F_jsonName_w_MONITORING F_jsonName_w_ABUSE_REPORTS E_sM F_coder_sM F_value_sM V_tM E_sA F_coder_sA F_value_sA V_tA E_w_EMPTY F_value_w_EMPTY) hZ (ww hw 76 rfl) (ww hw 75 rfl) (by decide) (by decide)) (g := (mkF m 299 (lo0_39 p1 p2 p3 p4 b206 b207 b269 w_MONITORING) [(.ref b269)])) rfl (by rw [hml]; rfl) (argsL := [(.ref b269)]) (rest := []) (lenOf pd_14 rfl) rfl (by show 2 * 0 + _ ≤ _; exact Nat.le_of_eq rfl) (hb hby at_299) (fun _ _ => ⟨rfl, e275, (by decide : 7 + 2 ≤ _), (by decide : 120 + 3 ≤ _)⟩)
        dsimp only [Pt.U, Pt.locs, Pt.cells, Pt.slots] at X276 l276 y276 z276 st276 hQ276
        rw [l276, y276, z276] at X276
        obtain ⟨h276, e276⟩ : ∃ z, T276.heap = z := ⟨_, rfl⟩
        rw [e276] at hQ276
        obtain ⟨B276, w276, rfl, N276q, K276, G276E, G276V, G276R⟩ := hQ276
        replace S__VALUES := own_stakeep S__VALUES K276 ns0
        replace S_EMPTY := own_stakeep S_EMPTY K276 ns0
        replace S_COMPACT_STRINGS := own_stakeep S_COMPACT_STRINGS K276 ns0
        replace S_SIOOBE_FORMATTER := own_stakeep S_SIOOBE_FORMATTER K276 ns0
        replace S_MONITORING := own_stakeep S_MONITORING K276 ns0
        replace S_ABUSE_REPORTS := own_stakeep S_ABUSE_REPORTS K276 ns0
        replace E_w__VALUES := E_w__VALUES.keep K276
        replace V_w__VALUES := V_w__VALUES.keep K276 nin0
        replace F_jsonName_w_MONITORING := F_jsonName_w_MONITORING.keep K276 nin0
        replace F_jsonName_w_ABUSE_REPORTS := F_jsonName_w_ABUSE_REPORTS.keep K276 nin0
        replace E_sM := E_sM.keep K276
        replace F_coder_sM := F_coder_sM.keep K276 nin0
        replace F_value_sM := F_value_sM.keep K276 nin0
        replace V_tM := V_tM.keep K276 nin0
        replace E_sA := E_sA.keep K276
        replace F_coder_sA := F_coder_sA.keep K276 nin0
        replace F_value_sA := F_value_sA.keep K276 nin0
        replace V_tA := V_tA.keep K276 nin0
        replace E_w_EMPTY := E_w_EMPTY.keep K276
        replace F_value_w_EMPTY := F_value_w_EMPTY.keep K276 nin0
        replace E_b206 := E_b206.keep K276
        replace F_coder_b206 := F_coder_b206.keep K276 nin0
        replace F_value_b206 := F_value_b206.keep K276 nin0
        replace V_B206 := V_B206.keep K276 nin0
        replace E_b207 := E_b207.keep K276
        replace F_coder_b207 := F_coder_b207.keep K276 nin0
        replace F_value_b207 := F_value_b207.keep K276 nin0
        replace V_B207 := V_B207.keep K276 nin0
        replace E_b269 := E_b269.keep K276
        replace F_coder_b269 := F_coder_b269.keep K276 nin0
        replace F_value_b269 := F_value_b269.keep K276 nin0
        replace V_B269 := V_B269.keep K276 nin0
        replace Z0 := Nat.le_trans Z0 K276.1
        replace hk := Nat.le_trans hk K276.1
        have G276R := own_rvM G276R (own_mkeq own_rc1 (own_char p3) rfl (by decide) (own_at (by decide) hc273))
        subst G276R
        have E_B276 : Exa Z h276 B276 "java/util/Optional" := G276E
        have F_value_B276 : Fld Z h276 B276 "java/util/Optional" "value" "Ljava/lang/Object;" (.ref w_MONITORING) := G276V
        have N276 := Fr.app N272 N276q
        obtain ⟨cq277, kq277, q277a, q277b, q277c⟩ := isOf hZ e276 E_B276
        obtain ⟨_, _, ⟨T277, L277, k277, n277⟩, -, X277, ⟨Lc277, hQ277, l277, y277, z277⟩, st277⟩ := X276.virtualBack hx (y := mn10) (z := mn10) hown (mvT hZ (ww hw 110 rfl)) (mvT hZ (ww hw 111 rfl)) (notFace_of_selects (args := #[]) (mvT hZ (ww hw 113 rfl))) (mvT hZ (ww hw 113 rfl)) (mvT hZ (ww hw 112 rfl)) (by decide) (backOf (W := 0) (rm21_r l Z a0 hw [] B276 w_MONITORING h276 n0 Z0 F_value_B276) hZ (ww hw 114 rfl) (ww hw 107 rfl) (by decide) (by decide)) q277a q277c (g := (mkF m 314 (lo0_40 p1 p2 p3 p4 b206 b207 b269 w_MONITORING B276) [.null, (.ref B276)])) rfl (by rw [hml]; rfl) (Steps.refl _) (argsL := [.null]) (rest := []) (lenOf pd_4 rfl) rfl (by show 2 * 0 + _ ≤ _; exact Nat.le_of_eq rfl) (hb hby at_314) (fun _ _ => ⟨rfl, e276, (by decide : 9 + 0 ≤ _), (by decide : 123 + 0 ≤ _)⟩)
        dsimp only [Pt.U, Pt.locs, Pt.cells, Pt.slots] at X277 l277 y277 z277 st277 hQ277
        rw [l277, y277, z277] at X277
        obtain ⟨rfl, N277q, e277⟩ := hQ277
        have N277 := Fr.app N276 N277q
        obtain ⟨fs, hr, hrun, hended, hEW⟩ := X277.leaveW hS (by rw [e277]; exact hk) (v := some (.int (1 : Int32))) (fun h => by rw [Bd.returns] at h; cases h)
        refine ⟨_, _, pre274 _ ?_, hrun, hended, _, _, rfl, ?_, hEW.1, hEW.2.1, hEW.2.2.1, hEW.2.2.2.mono (by decide) (by decide)⟩
        · refine y_icmpYes X272 hx hby (pc' := 70) at_63 (teq hc273).1 (by decide) (by decide) ?_
          refine st275 _ ?_
          show Steps p.tables e below (T275.setTop (mkF m 73 (lo0_38 p1 p2 p3 p4 b206 b207 b269) [(.ref w_MONITORING)])) _
          refine y_astore X275 hx hby at_73 rfl (l' := (lo0_39 p1 p2 p3 p4 b206 b207 b269 w_MONITORING)) rfl ?_
          refine y_goto X275 hx hby (pc' := 297) at_75 (by decide) (by decide) ?_
          refine y_aload X275 hx hby at_297 rfl rfl ?_
          refine st276 _ ?_
          show Steps p.tables e below (T276.setTop (mkF m 302 (lo0_39 p1 p2 p3 p4 b206 b207 b269 w_MONITORING) [(.ref B276)])) _
          refine y_astore X276 hx hby at_302 rfl (l' := (lo0_40 p1 p2 p3 p4 b206 b207 b269 w_MONITORING B276)) rfl ?_
          refine y_aload X276 hx hby at_304 rfl rfl ?_
          refine y_ifnonnullYes X276 hx hby (pc' := 311) at_306 (by decide) (by decide) ?_
          refine y_aload X276 hx hby at_311 rfl rfl ?_
          refine y_aconstNull X276 hx hby at_313 ?_
          refine st277.trans ?_
          show Steps p.tables e below (T277.setTop (mkF m 317 (lo0_40 p1 p2 p3 p4 b206 b207 b269 w_MONITORING B276) [(.ref w_MONITORING)])) _
          refine y_aload X277 hx hby at_317 rfl rfl ?_
          show Steps p.tables e below (T277.setTop (mkF m 319 (lo0_40 p1 p2 p3 p4 b206 b207 b269 w_MONITORING B276) [(.ref w_MONITORING), (.ref w_MONITORING)])) _
          refine Jvm.RoadKit.acmp (g := (mkF m 319 (lo0_40 p1 p2 p3 p4 b206 b207 b269 w_MONITORING B276) [(.ref w_MONITORING), (.ref w_MONITORING)])) X277 hx rfl rfl rfl (pc0 := 319) (pc' := 322) (same := true) rfl (hb hby at_319) rfl (decide_eq_true (congrArg Value.ref rfl)) (by decide) (by decide) ?_
          show Steps p.tables e below (T277.setTop (mkF m 322 (lo0_40 p1 p2 p3 p4 b206 b207 b269 w_MONITORING B276) [])) _
          refine y_iconst X277 hx hby (v := (1 : Int32)) at_322 rfl ?_
          refine y_goto X277 hx hby (pc' := 327) at_323 (by decide) (by decide) ?_
          exact retN X277 hx (t := .boolean) Bd.returns (by simp) (hb hby at_327) hr
        · exact ⟨rfl, N277⟩
      · obtain ⟨_, _, ⟨T278, L278, k278, n278⟩, -, X278, ⟨Lc278, hQ278, l278, y278, z278⟩, st278⟩ := Jvm.LawKit.callS X272 hx (y := mn16) hown (mvT hZ (ww hw 73 rfl)) (mvT hZ (ww hw 74 rfl)) (mvT hZ (ww hw 75 rfl)) (mvT hZ (ww hw 76 rfl)) (by decide) (backOf (W := 0) (rm16_s l Z a0 hw [] b269 B269 kb269 (10 : Int32) (((mkl C1 (p2 &&& (15 : Int32)) ((p3 &&& (255 : Int32)).toUInt32.toUInt16.toUInt32.toInt32) 10).map StrChars.lo8).map Value.int) (mkl C1 (p2 &&& (15 : Int32)) ((p3 &&& (255 : Int32)).toUInt32.toUInt16.toUInt32.toInt32) 10) w_MONITORING w_ABUSE_REPORTS kV w__VALUES sM tM kM sA tA kA w_EMPTY w_COMPACT_STRINGS h269 n0 Z0 S__VALUES S_EMPTY S_COMPACT_STRINGS hz (own_cod (n := 10) (own_mklen _ _ _ 10) (own_mkr own_rc1 (own_char p3) 10)) (own_mkr own_rc1 (own_char p3) 10) (by rw [own_mklen]; decide) E_b269 F_coder_b269 F_value_b269 V_B269 E_w__VALUES V_w__VALUES F_jsonName_w_MONITORING F_jsonName_w_ABUSE_REPORTS E_sM F_coder_sM F_value_sM V_tM E_sA F_coder_sA F_value_sA V_tA E_w_EMPTY F_value_w_EMPTY) hZ (ww hw 76 rfl) (ww hw 75 rfl) (by decide) (by decide)) (g := (mkF m 299 (lo0_41 p1 p2 p3 p4 b206 b207 b269) [(.ref b269)])) rfl (by rw [hml]; rfl) (argsL := [(.ref b269)]) (rest := []) (lenOf pd_14 rfl) rfl (by show 2 * 0 + _ ≤ _; exact Nat.le_of_eq rfl) (hb hby at_299) (fun _ _ => ⟨rfl, e272, (by decide : 7 + 2 ≤ _), (by decide : 120 + 3 ≤ _)⟩)
        dsimp only [Pt.U, Pt.locs, Pt.cells, Pt.slots] at X278 l278 y278 z278 st278 hQ278
        rw [l278, y278, z278] at X278
        obtain ⟨h278, e278⟩ : ∃ z, T278.heap = z := ⟨_, rfl⟩
        rw [e278] at hQ278
        obtain ⟨B278, w278, rfl, N278q, K278, G278E, G278V, G278R⟩ := hQ278
        replace S__VALUES := own_stakeep S__VALUES K278 ns0
        replace S_EMPTY := own_stakeep S_EMPTY K278 ns0
        replace S_COMPACT_STRINGS := own_stakeep S_COMPACT_STRINGS K278 ns0
        replace S_SIOOBE_FORMATTER := own_stakeep S_SIOOBE_FORMATTER K278 ns0
        replace S_MONITORING := own_stakeep S_MONITORING K278 ns0
        replace S_ABUSE_REPORTS := own_stakeep S_ABUSE_REPORTS K278 ns0
        replace E_w__VALUES := E_w__VALUES.keep K278
        replace V_w__VALUES := V_w__VALUES.keep K278 nin0
        replace F_jsonName_w_MONITORING := F_jsonName_w_MONITORING.keep K278 nin0
        replace F_jsonName_w_ABUSE_REPORTS := F_jsonName_w_ABUSE_REPORTS.keep K278 nin0
        replace E_sM := E_sM.keep K278
        replace F_coder_sM := F_coder_sM.keep K278 nin0
        replace F_value_sM := F_value_sM.keep K278 nin0
        replace V_tM := V_tM.keep K278 nin0
        replace E_sA := E_sA.keep K278
        replace F_coder_sA := F_coder_sA.keep K278 nin0
        replace F_value_sA := F_value_sA.keep K278 nin0
        replace V_tA := V_tA.keep K278 nin0
        replace E_w_EMPTY := E_w_EMPTY.keep K278
        replace F_value_w_EMPTY := F_value_w_EMPTY.keep K278 nin0
        replace E_b206 := E_b206.keep K278
        replace F_coder_b206 := F_coder_b206.keep K278 nin0
        replace F_value_b206 := F_value_b206.keep K278 nin0
        replace V_B206 := V_B206.keep K278 nin0
        replace E_b207 := E_b207.keep K278
        replace F_coder_b207 := F_coder_b207.keep K278 nin0
        replace F_value_b207 := F_value_b207.keep K278 nin0
        replace V_B207 := V_B207.keep K278 nin0
        replace E_b269 := E_b269.keep K278
        replace F_coder_b269 := F_coder_b269.keep K278 nin0
        replace F_value_b269 := F_value_b269.keep K278 nin0
        replace V_B269 := V_B269.keep K278 nin0
        replace Z0 := Nat.le_trans Z0 K278.1
        replace hk := Nat.le_trans hk K278.1
        have G278R := own_rvN G278R (own_mkne own_rc1 (own_char p3) rfl (by decide) (own_pl (n := 10) (by decide) hc270) (own_pj p2) hc273) (own_mkl (by decide))
        subst G278R
        have E_B278 : Exa Z h278 B278 "java/util/Optional" := G278E
        have F_value_B278 : Fld Z h278 B278 "java/util/Optional" "value" "Ljava/lang/Object;" .null := G278V
        have N278 := Fr.app N272 N278q
        obtain ⟨cq279, kq279, q279a, q279b, q279c⟩ := isOf hZ e278 E_B278
        obtain ⟨_, _, ⟨T279, L279, k279, n279⟩, -, X279, ⟨Lc279, hQ279, l279, y279, z279⟩, st279⟩ := X278.virtualBack hx (y := mn10) (z := mn10) hown (mvT hZ (ww hw 110 rfl)) (mvT hZ (ww hw 111 rfl)) (notFace_of_selects (args := #[]) (mvT hZ (ww hw 113 rfl))) (mvT hZ (ww hw 113 rfl)) (mvT hZ (ww hw 112 rfl)) (by decide) (backOf (W := 0) (rm21_n l Z a0 hw [] B278 h278 n0 Z0 F_value_B278) hZ (ww hw 114 rfl) (ww hw 107 rfl) (by decide) (by decide)) q279a q279c (g := (mkF m 314 (lo0_42 p1 p2 p3 p4 b206 b207 b269 B278) [.null, (.ref B278)])) rfl (by rw [hml]; rfl) (Steps.refl _) (argsL := [.null]) (rest := []) (lenOf pd_4 rfl) rfl (by show 2 * 0 + _ ≤ _; exact Nat.le_of_eq rfl) (hb hby at_314) (fun _ _ => ⟨rfl, e278, (by decide : 9 + 0 ≤ _), (by decide : 123 + 0 ≤ _)⟩)
        dsimp only [Pt.U, Pt.locs, Pt.cells, Pt.slots] at X279 l279 y279 z279 st279 hQ279
        rw [l279, y279, z279] at X279
        obtain ⟨rfl, N279q, e279⟩ := hQ279
        have N279 := Fr.app N278 N279q
        obtain ⟨fs, hr, hrun, hended, hEW⟩ := X279.leaveW hS (by rw [e279]; exact hk) (v := some (.int (1 : Int32))) (fun h => by rw [Bd.returns] at h; cases h)
        refine ⟨_, _, pre274 _ ?_, hrun, hended, _, _, rfl, ?_, hEW.1, hEW.2.1, hEW.2.2.1, hEW.2.2.2.mono (by decide) (by decide)⟩
        · refine y_icmpNo X272 hx hby at_63 (feq hc273).1 ?_
          refine y_aconstNull X272 hx hby at_66 ?_
          refine y_goto X272 hx hby (pc' := 73) at_67 (by decide) (by decide) ?_
          refine y_astore X272 hx hby at_73 rfl (l' := (lo0_41 p1 p2 p3 p4 b206 b207 b269)) rfl ?_
          refine y_goto X272 hx hby (pc' := 297) at_75 (by decide) (by decide) ?_
          refine y_aload X272 hx hby at_297 rfl rfl ?_
          refine st278 _ ?_
          show Steps p.tables e below (T278.setTop (mkF m 302 (lo0_41 p1 p2 p3 p4 b206 b207 b269) [(.ref B278)])) _
          refine y_astore X278 hx hby at_302 rfl (l' := (lo0_42 p1 p2 p3 p4 b206 b207 b269 B278)) rfl ?_
          refine y_aload X278 hx hby at_304 rfl rfl ?_
          refine y_ifnonnullYes X278 hx hby (pc' := 311) at_306 (by decide) (by decide) ?_
          refine y_aload X278 hx hby at_311 rfl rfl ?_
          refine y_aconstNull X278 hx hby at_313 ?_
          refine st279.trans ?_
          show Steps p.tables e below (T279.setTop (mkF m 317 (lo0_42 p1 p2 p3 p4 b206 b207 b269 B278) [.null])) _
          refine y_aload X279 hx hby at_317 rfl rfl ?_
          show Steps p.tables e below (T279.setTop (mkF m 319 (lo0_42 p1 p2 p3 p4 b206 b207 b269 B278) [.null, .null])) _
          refine Jvm.RoadKit.acmp (g := (mkF m 319 (lo0_42 p1 p2 p3 p4 b206 b207 b269 B278) [.null, .null])) X279 hx rfl rfl rfl (pc0 := 319) (pc' := 322) (same := true) rfl (hb hby at_319) rfl (decide_eq_true rfl) (by decide) (by decide) ?_
          show Steps p.tables e below (T279.setTop (mkF m 322 (lo0_42 p1 p2 p3 p4 b206 b207 b269 B278) [])) _
          refine y_iconst X279 hx hby (v := (1 : Int32)) at_322 rfl ?_
          refine y_goto X279 hx hby (pc' := 327) at_323 (by decide) (by decide) ?_
          exact retN X279 hx (t := .boolean) Bd.returns (by simp) (hb hby at_327) hr
        · exact ⟨rfl, N279⟩
    · obtain ⟨T280, X280, e280, st280⟩ := getS2 X269 hx hZ hown (host := "") (Or.inl (ww hw 144 rfl)) Via.refl e269 S_MONITORING (g := (mkF m 70 (lo0_38 p1 p2 p3 p4 b206 b207 b269) [])) rfl (hb hby at_70)
      obtain ⟨_, _, ⟨T281, L281, k281, n281⟩, -, X281, ⟨Lc281, hQ281, l281, y281, z281⟩, st281⟩ := Jvm.LawKit.callS X280 hx (y := mn16) hown (mvT hZ (ww hw 73 rfl)) (mvT hZ (ww hw 74 rfl)) (mvT hZ (ww hw 75 rfl)) (mvT hZ (ww hw 76 rfl)) (by decide) (backOf (W := 0) (rm16_s l Z a0 hw [] b269 B269 kb269 (10 : Int32) (((mkl C1 (p2 &&& (15 : Int32)) ((p3 &&& (255 : Int32)).toUInt32.toUInt16.toUInt32.toInt32) 10).map StrChars.lo8).map Value.int) (mkl C1 (p2 &&& (15 : Int32)) ((p3 &&& (255 : Int32)).toUInt32.toUInt16.toUInt32.toInt32) 10) w_MONITORING w_ABUSE_REPORTS kV w__VALUES sM tM kM sA tA kA w_EMPTY w_COMPACT_STRINGS h269 n0 Z0 S__VALUES S_EMPTY S_COMPACT_STRINGS hz (own_cod (n := 10) (own_mklen _ _ _ 10) (own_mkr own_rc1 (own_char p3) 10)) (own_mkr own_rc1 (own_char p3) 10) (by rw [own_mklen]; decide) E_b269 F_coder_b269 F_value_b269 V_B269 E_w__VALUES V_w__VALUES F_jsonName_w_MONITORING F_jsonName_w_ABUSE_REPORTS E_sM F_coder_sM F_value_sM V_tM E_sA F_coder_sA F_value_sA V_tA E_w_EMPTY F_value_w_EMPTY) hZ (ww hw 76 rfl) (ww hw 75 rfl) (by decide) (by decide)) (g := (mkF m 299 (lo0_39 p1 p2 p3 p4 b206 b207 b269 w_MONITORING) [(.ref b269)])) rfl (by rw [hml]; rfl) (argsL := [(.ref b269)]) (rest := []) (lenOf pd_14 rfl) rfl (by show 2 * 0 + _ ≤ _; exact Nat.le_of_eq rfl) (hb hby at_299) (fun _ _ => ⟨rfl, e280, (by decide : 7 + 2 ≤ _), (by decide : 120 + 3 ≤ _)⟩)
      dsimp only [Pt.U, Pt.locs, Pt.cells, Pt.slots] at X281 l281 y281 z281 st281 hQ281
      rw [l281, y281, z281] at X281
      obtain ⟨h281, e281⟩ : ∃ z, T281.heap = z := ⟨_, rfl⟩
      rw [e281] at hQ281
      obtain ⟨B281, w281, rfl, N281q, K281, G281E, G281V, G281R⟩ := hQ281
      replace S__VALUES := own_stakeep S__VALUES K281 ns0
      replace S_EMPTY := own_stakeep S_EMPTY K281 ns0
      replace S_COMPACT_STRINGS := own_stakeep S_COMPACT_STRINGS K281 ns0
      replace S_SIOOBE_FORMATTER := own_stakeep S_SIOOBE_FORMATTER K281 ns0
      replace S_MONITORING := own_stakeep S_MONITORING K281 ns0
      replace S_ABUSE_REPORTS := own_stakeep S_ABUSE_REPORTS K281 ns0
      replace E_w__VALUES := E_w__VALUES.keep K281
      replace V_w__VALUES := V_w__VALUES.keep K281 nin0
      replace F_jsonName_w_MONITORING := F_jsonName_w_MONITORING.keep K281 nin0
      replace F_jsonName_w_ABUSE_REPORTS := F_jsonName_w_ABUSE_REPORTS.keep K281 nin0
      replace E_sM := E_sM.keep K281
      replace F_coder_sM := F_coder_sM.keep K281 nin0
      replace F_value_sM := F_value_sM.keep K281 nin0
      replace V_tM := V_tM.keep K281 nin0
      replace E_sA := E_sA.keep K281
      replace F_coder_sA := F_coder_sA.keep K281 nin0
      replace F_value_sA := F_value_sA.keep K281 nin0
      replace V_tA := V_tA.keep K281 nin0
      replace E_w_EMPTY := E_w_EMPTY.keep K281
      replace F_value_w_EMPTY := F_value_w_EMPTY.keep K281 nin0
      replace E_b206 := E_b206.keep K281
      replace F_coder_b206 := F_coder_b206.keep K281 nin0
      replace F_value_b206 := F_value_b206.keep K281 nin0
      replace V_B206 := V_B206.keep K281 nin0
      replace E_b207 := E_b207.keep K281
      replace F_coder_b207 := F_coder_b207.keep K281 nin0
      replace F_value_b207 := F_value_b207.keep K281 nin0
      replace V_B207 := V_B207.keep K281 nin0
      replace E_b269 := E_b269.keep K281
      replace F_coder_b269 := F_coder_b269.keep K281 nin0
      replace F_value_b269 := F_value_b269.keep K281 nin0
      replace V_B269 := V_B269.keep K281 nin0
      replace Z0 := Nat.le_trans Z0 K281.1
      replace hk := Nat.le_trans hk K281.1
      have G281R := own_rvM G281R (own_mkeq own_rc1 (own_char p3) rfl (by decide) (own_ge (n := 10) (by decide) hc270))
      subst G281R
      have E_B281 : Exa Z h281 B281 "java/util/Optional" := G281E
      have F_value_B281 : Fld Z h281 B281 "java/util/Optional" "value" "Ljava/lang/Object;" (.ref w_MONITORING) := G281V
      have N281 := Fr.app N269 N281q
      obtain ⟨cq282, kq282, q282a, q282b, q282c⟩ := isOf hZ e281 E_B281
      obtain ⟨_, _, ⟨T282, L282, k282, n282⟩, -, X282, ⟨Lc282, hQ282, l282, y282, z282⟩, st282⟩ := X281.virtualBack hx (y := mn10) (z := mn10) hown (mvT hZ (ww hw 110 rfl)) (mvT hZ (ww hw 111 rfl)) (notFace_of_selects (args := #[]) (mvT hZ (ww hw 113 rfl))) (mvT hZ (ww hw 113 rfl)) (mvT hZ (ww hw 112 rfl)) (by decide) (backOf (W := 0) (rm21_r l Z a0 hw [] B281 w_MONITORING h281 n0 Z0 F_value_B281) hZ (ww hw 114 rfl) (ww hw 107 rfl) (by decide) (by decide)) q282a q282c (g := (mkF m 314 (lo0_43 p1 p2 p3 p4 b206 b207 b269 w_MONITORING B281) [.null, (.ref B281)])) rfl (by rw [hml]; rfl) (Steps.refl _) (argsL := [.null]) (rest := []) (lenOf pd_4 rfl) rfl (by show 2 * 0 + _ ≤ _; exact Nat.le_of_eq rfl) (hb hby at_314) (fun _ _ => ⟨rfl, e281, (by decide : 9 + 0 ≤ _), (by decide : 123 + 0 ≤ _)⟩)
      dsimp only [Pt.U, Pt.locs, Pt.cells, Pt.slots] at X282 l282 y282 z282 st282 hQ282
      rw [l282, y282, z282] at X282
      obtain ⟨rfl, N282q, e282⟩ := hQ282
      have N282 := Fr.app N281 N282q
      obtain ⟨fs, hr, hrun, hended, hEW⟩ := X282.leaveW hS (by rw [e282]; exact hk) (v := some (.int (1 : Int32))) (fun h => by rw [Bd.returns] at h; cases h)
      refine ⟨_, _, pre271 _ ?_, hrun, hended, _, _, rfl, ?_, hEW.1, hEW.2.1, hEW.2.2.1, hEW.2.2.2.mono (by decide) (by decide)⟩
      · refine y_icmpYes X269 hx hby (pc' := 70) at_51 (flt hc270).2.1 (by decide) (by decide) ?_
        refine st280 _ ?_
        show Steps p.tables e below (T280.setTop (mkF m 73 (lo0_38 p1 p2 p3 p4 b206 b207 b269) [(.ref w_MONITORING)])) _
        refine y_astore X280 hx hby at_73 rfl (l' := (lo0_39 p1 p2 p3 p4 b206 b207 b269 w_MONITORING)) rfl ?_
        refine y_goto X280 hx hby (pc' := 297) at_75 (by decide) (by decide) ?_
        refine y_aload X280 hx hby at_297 rfl rfl ?_
        refine st281 _ ?_
        show Steps p.tables e below (T281.setTop (mkF m 302 (lo0_39 p1 p2 p3 p4 b206 b207 b269 w_MONITORING) [(.ref B281)])) _
        refine y_astore X281 hx hby at_302 rfl (l' := (lo0_43 p1 p2 p3 p4 b206 b207 b269 w_MONITORING B281)) rfl ?_
        refine y_aload X281 hx hby at_304 rfl rfl ?_
        refine y_ifnonnullYes X281 hx hby (pc' := 311) at_306 (by decide) (by decide) ?_
        refine y_aload X281 hx hby at_311 rfl rfl ?_
        refine y_aconstNull X281 hx hby at_313 ?_
        refine st282.trans ?_
        show Steps p.tables e below (T282.setTop (mkF m 317 (lo0_43 p1 p2 p3 p4 b206 b207 b269 w_MONITORING B281) [(.ref w_MONITORING)])) _
        refine y_aload X282 hx hby at_317 rfl rfl ?_
        show Steps p.tables e below (T282.setTop (mkF m 319 (lo0_43 p1 p2 p3 p4 b206 b207 b269 w_MONITORING B281) [(.ref w_MONITORING), (.ref w_MONITORING)])) _
        refine Jvm.RoadKit.acmp (g := (mkF m 319 (lo0_43 p1 p2 p3 p4 b206 b207 b269 w_MONITORING B281) [(.ref w_MONITORING), (.ref w_MONITORING)])) X282 hx rfl rfl rfl (pc0 := 319) (pc' := 322) (same := true) rfl (hb hby at_319) rfl (decide_eq_true (congrArg Value.ref rfl)) (by decide) (by decide) ?_
        show Steps p.tables e below (T282.setTop (mkF m 322 (lo0_43 p1 p2 p3 p4 b206 b207 b269 w_MONITORING B281) [])) _
        refine y_iconst X282 hx hby (v := (1 : Int32)) at_322 rfl ?_
        refine y_goto X282 hx hby (pc' := 327) at_323 (by decide) (by decide) ?_
        exact retN X282 hx (t := .boolean) Bd.returns (by simp) (hb hby at_327) hr
      · exact ⟨rfl, N282⟩
theorem own_nz {args : Array Value} {first s : State} {o : Option Outcome} {idx : List Nat} {t : Term} {z : Int32} (h : (Jvm.Cond.not (.eq t (.int 0))).value args first o s idx = some true) (e : t.eval args first o idx s = some (.int z)) : ¬ z = 0 := by
  intro q
  subst q
  simp [Cond.value, Term.eval, e] at h
theorem own_isref {args : Array Value} {first s : State} {o : Option Outcome} {idx : List Nat} {t : Term} (h : (Jvm.Cond.isRef t).value args first o s idx = some true) : ∃ v, t.eval args first o idx s = some v ∧ v.isRef = true := by
  simp only [Cond.value] at h
  cases ht : t.eval args first o idx s with
  | none => simp [ht] at h
  | some x => exact ⟨x, rfl, by cases x <;> first | rfl | (simp [ht] at h)⟩
theorem own_eqn0 {args : Array Value} {first s : State} {o : Option Outcome} {idx : List Nat} {t : Term} (h : (Jvm.Cond.eq t .null).value args first o s idx = some true) : t.eval args first o idx s = some .null := by
  simp only [Cond.value, Term.eval] at h
  cases ht : t.eval args first o idx s with
  | none => simp [ht] at h
  | some x => cases x <;> simp [ht] at h ⊢
theorem own_eqr {args : Array Value} {first s : State} {o : Option Outcome} {idx : List Nat} {t u : Term} {a : Addr} (h : (Jvm.Cond.eq t u).value args first o s idx = some true) (e : u.eval args first o idx s = some (.ref a)) : t.eval args first o idx s = some (.ref a) := by
  simp only [Cond.value, e] at h
  cases ht : t.eval args first o idx s with
  | none => simp [ht] at h
  | some x => cases x <;> simp [ht] at h ⊢ <;> exact h
theorem own_len {s : State} {args : Array Value} {t : Term} {a : Addr} {cl : Cell} {ty : FieldType} {z : Int32} (ev : t.eval args s none [] s = some (.ref a)) (A : Arr s s.heap a cl ty) (h : (Term.length t).eval args s none [] s = some (.int z)) : cl.slots.size < 2 ^ 31 ∧ cl.slots.size.toInt32 = z := by
  have ha : s.arrayAt? a = some cl := A.fin (Vm.Alike.refl _)
  simpa [Term.eval, ev, ha] using h
theorem own_elem {s : State} {args : Array Value} {t : Term} {a : Addr} {cl : Cell} {ty : FieldType} {k : Int32} {v : Value} (ev : t.eval args s none [] s = some (.ref a)) (A : Arr s s.heap a cl ty) (hk : ¬ k < 0) (h : (Term.elem t (.int k)).eval args s none [] s = some v) : cl.slots[k.toNatClampNeg]? = some v := (elem_f ev (Term.int_eval k) (A.fin (Vm.Alike.refl _)) hk).symm.trans h
theorem own_v1 : (C1.map StrChars.lo8).map Value.int = [.int 109, .int 111, .int 110, .int 105, .int 116, .int 111, .int 114, .int 105, .int 110, .int 103] := rfl
theorem own_v2 : (C2.map StrChars.lo8).map Value.int = [.int 97, .int 98, .int 117, .int 115, .int 101, .int 82, .int 101, .int 112, .int 111, .int 114, .int 116, .int 115] := rfl
set_option maxRecDepth 65536 in
set_option maxHeartbeats 40000000 in
theorem comes_1 {Post : Tables → Env → Array Value → State → Outcome → State → Prop} (hpost : ∀ tb e args s v u, (limb_1_1.after args s (.returned v) u = true ∧ limb_1_2.after args s (.returned v) u = true ∧ True) → ReturnedEndW s (.returned v) u (Jvm.fieldLocs frame_1_writes args s ++ Jvm.arrayLocs frame_1_arrays args s ++ Jvm.staticLocs frame_1_statics s) 32 4288 → Post tb e args s (.returned v) u) :
    ArmFor flags0 classFile x code maxLocals ret World_1 tables_1 room_1 Calls_1 rest_1 Pre_1 Post := by
  intro l hfl _ _ p e ha hc hk s m args below hf hA hF happ hP
  obtain ⟨hcalls, hrest, hpre⟩ := hP
  obtain ⟨-, -, -, hnamed, -, -, -, hat⟩ := (Spec.applies_iff hf).mp happ
  obtain ⟨hg, hn⟩ := and_e (Cond.before_iff.mp (show (Jvm.Cond.and given_1 narrow_1).before args s = true from hpre))
  obtain ⟨gc, gr0⟩ := and_e hg
  obtain ⟨g0, gr1⟩ := and_e gr0
  obtain ⟨g1, gr2⟩ := and_e gr1
  obtain ⟨g2, gr3⟩ := and_e gr2
  obtain ⟨w0, w1, w2, w3, rfl⟩ : ∃ w0 w1 w2 w3 : Value, args = #[w0, w1, w2, w3] := by
    have hs : args.size = 4 := by simpa [Cond.value, given_1] using gc
    obtain ⟨L⟩ := args
    match L, hs with
    | [w0, w1, w2, w3], _ => exact ⟨w0, w1, w2, w3, rfl⟩
  have hw := fun d (hd : d ∈ tables_1) => atoms_spec (ws := Jvm.Cond.code x code maxLocals ret :: tables_1) hat d (List.mem_cons_of_mem _ hd)
  have hfit : Fit s := fun {y c} hc i hi => by
    obtain ⟨ha, rfl⟩ := Array.getElem?_eq_some_iff.mp hc
    have q := List.all_eq_true.mp ((Array.all_eq_true_iff_forall_mem.mp hF) _ (Array.getElem_mem ha)) i (List.mem_range.mpr hi)
    simpa [Array.getElem?_eq_getElem hi] using q
  obtain ⟨hsets, hown0⟩ := atoms_of _ (rest_1_c_eq ▸ (show rest_1_c.before _ s = true from hrest))
  have hr0 := Cond.before_iff.mp hown0
  obtain ⟨i0, ei0⟩ := is_v g0
  obtain rfl : w0 = (.int i0) := Option.some.inj ei0
  obtain ⟨i1, ei1⟩ := is_v g1
  obtain rfl : w1 = (.int i1) := Option.some.inj ei1
  obtain ⟨i2, ei2⟩ := is_v g2
  obtain rfl : w2 = (.int i2) := Option.some.inj ei2
  obtain ⟨i3, ei3⟩ := is_v gr3
  obtain rfl : w3 = (.int i3) := Option.some.inj ei3
  obtain ⟨nn0, nr0⟩ := and_e hn
  obtain ⟨nn1, nr1⟩ := and_e nr0
  obtain ⟨nn2, nr2⟩ := and_e nr1
  obtain ⟨nn3, nr3⟩ := and_e nr2
  obtain ⟨nn4, nr4⟩ := and_e nr3
  obtain ⟨nn5, nr5⟩ := and_e nr4
  obtain ⟨nn6, nr6⟩ := and_e nr5
  obtain ⟨nn7, nr7⟩ := and_e nr6
  obtain ⟨nn8, nr8⟩ := and_e nr7
  obtain ⟨nn9, nr9⟩ := and_e nr8
  obtain ⟨nn10, nr10⟩ := and_e nr9
  obtain ⟨nn11, nr11⟩ := and_e nr10
  obtain ⟨nn12, nr12⟩ := and_e nr11
  obtain ⟨nn13, nr13⟩ := and_e nr12
  obtain ⟨nn14, nr14⟩ := and_e nr13
  obtain ⟨nn15, nr15⟩ := and_e nr14
  obtain ⟨nn16, nr16⟩ := and_e nr15
  obtain ⟨nn17, nr17⟩ := and_e nr16
  obtain ⟨nn18, nr18⟩ := and_e nr17
  obtain ⟨nn19, nr19⟩ := and_e nr18
  obtain ⟨nn20, nr20⟩ := and_e nr19
  obtain ⟨nn21, nr21⟩ := and_e nr20
  obtain ⟨nn22, nr22⟩ := and_e nr21
  obtain ⟨nn23, nr23⟩ := and_e nr22
  obtain ⟨nn24, nr24⟩ := and_e nr23
  obtain ⟨nn25, nr25⟩ := and_e nr24
  obtain ⟨nn26, nr26⟩ := and_e nr25
  obtain ⟨nn27, nr27⟩ := and_e nr26
  obtain ⟨nn28, nr28⟩ := and_e nr27
  obtain ⟨nn29, nr29⟩ := and_e nr28
  obtain ⟨nn30, nr30⟩ := and_e nr29
  obtain ⟨nn31, nr31⟩ := and_e nr30
  obtain ⟨nn32, nr32⟩ := and_e nr31
  obtain ⟨nn33, nr33⟩ := and_e nr32
  obtain ⟨nn34, nr34⟩ := and_e nr33
  obtain ⟨nn35, nr35⟩ := and_e nr34
  obtain ⟨w__VALUES, ev__VALUES⟩ := exa_v nn1
  have S__VALUES : Sta s s.heap "com/example/assay/assay/config/TlsClient$Role" "$VALUES" "[Lcom/example/assay/assay/config/TlsClient$Role;" (.ref w__VALUES) := Sta.start ev__VALUES (Or.inr ⟨(ww hw 75 rfl), (ww hw 81 rfl)⟩)
  have E__VALUES : Exa s s.heap w__VALUES "[Lcom/example/assay/assay/config/TlsClient$Role;" := Exa.start ev__VALUES nn1
  obtain ⟨w_MONITORING, ev_MONITORING⟩ := exa_v nn3
  have S_MONITORING : Sta s s.heap "com/example/assay/assay/config/TlsClient$Role" "MONITORING" "Lcom/example/assay/assay/config/TlsClient$Role;" (.ref w_MONITORING) := Sta.start ev_MONITORING (Or.inr ⟨(ww hw 75 rfl), (ww hw 89 rfl)⟩)
  have E_MONITORING : Exa s s.heap w_MONITORING "com/example/assay/assay/config/TlsClient$Role" := Exa.start ev_MONITORING nn3
  obtain ⟨w_ABUSE_REPORTS, ev_ABUSE_REPORTS⟩ := exa_v nn5
  have S_ABUSE_REPORTS : Sta s s.heap "com/example/assay/assay/config/TlsClient$Role" "ABUSE_REPORTS" "Lcom/example/assay/assay/config/TlsClient$Role;" (.ref w_ABUSE_REPORTS) := Sta.start ev_ABUSE_REPORTS (Or.inr ⟨(ww hw 75 rfl), (ww hw 90 rfl)⟩)
  have E_ABUSE_REPORTS : Exa s s.heap w_ABUSE_REPORTS "com/example/assay/assay/config/TlsClient$Role" := Exa.start ev_ABUSE_REPORTS nn5
  obtain ⟨w_COMPACT_STRINGS, eC⟩ := is_v (Cond.before_iff.mp (hsets _ (List.mem_of_getElem? (i := 1) rfl)))
  have S_COMPACT_STRINGS : Sta s s.heap "java/lang/String" "COMPACT_STRINGS" "Z" (.int w_COMPACT_STRINGS) := Sta.start eC (Or.inl (hsets _ (List.mem_of_getElem? (i := 0) rfl)))
  have hz : ¬ w_COMPACT_STRINGS = 0 := own_nz (Cond.before_iff.mp (hsets _ (List.mem_of_getElem? (i := 2) rfl))) eC
  obtain ⟨fm, eF, rf⟩ := own_isref (Cond.before_iff.mp (hsets _ (List.mem_of_getElem? (i := 8) rfl)))
  have S_SIOOBE_FORMATTER : Sta s s.heap "jdk/internal/util/Preconditions" "SIOOBE_FORMATTER" "Ljava/util/function/BiFunction;" fm := Sta.start eF (Or.inl (hsets _ (List.mem_of_getElem? (i := 7) rfl)))
  obtain ⟨w_EMPTY, evE⟩ := exa_v (Cond.before_iff.mp (hsets _ (List.mem_of_getElem? (i := 11) rfl)))
  have S_EMPTY : Sta s s.heap "java/util/Optional" "EMPTY" "Ljava/util/Optional;" (.ref w_EMPTY) := Sta.start evE (Or.inl (hsets _ (List.mem_of_getElem? (i := 10) rfl)))
  have E_w_EMPTY : Exa s s.heap w_EMPTY "java/util/Optional" := Exa.start evE (Cond.before_iff.mp (hsets _ (List.mem_of_getElem? (i := 11) rfl)))
  have F_value_w_EMPTY : Fld s s.heap w_EMPTY "java/util/Optional" "value" "Ljava/lang/Object;" .null := Fld.start ((fld_at evE).symm.trans (own_eqn0 (Cond.before_iff.mp (hsets _ (List.mem_of_getElem? (i := 12) rfl)))))
  have E_w__VALUES := E__VALUES
  obtain ⟨cV, AV⟩ := Arr.start ev__VALUES nn0
  obtain ⟨qV, zV⟩ := own_len ev__VALUES AV (own_eqi nn2)
  obtain ⟨kV, V_w__VALUES⟩ : ∃ kV, Arv s s.heap w__VALUES kV (.object "com/example/assay/assay/config/TlsClient$Role") (2 : Int32) [(.ref w_MONITORING), (.ref w_ABUSE_REPORTS)] .null := ⟨_, Arv.start hfit AV qV zV (by decide) rfl ⟨own_elem ev__VALUES AV (by decide) (own_eqr nn4 ev_MONITORING), own_elem ev__VALUES AV (by decide) (own_eqr nn6 ev_ABUSE_REPORTS), trivial⟩⟩
  obtain ⟨sM, ev_sM⟩ := exa_v nn7
  have F_jsonName_w_MONITORING : Fld s s.heap w_MONITORING "com/example/assay/assay/config/TlsClient$Role" "jsonName" "Ljava/lang/String;" (.ref sM) := Fld.start ((fld_at ev_MONITORING).symm.trans ev_sM)
  have E_sM : Exa s s.heap sM "java/lang/String" := Exa.start ev_sM nn7
  have F_coder_sM : Fld s s.heap sM "java/lang/String" "coder" "B" (.int 0) := Fld.start ((fld_at ev_sM).symm.trans (own_eqi nn8))
  obtain ⟨tM, ev_tM⟩ := arr_v nn9
  have F_value_sM : Fld s s.heap sM "java/lang/String" "value" "[B" (.ref tM) := Fld.start ((fld_at ev_sM).symm.trans ev_tM)
  obtain ⟨cM, AM⟩ := Arr.start ev_tM nn9
  obtain ⟨qM, zM⟩ := own_len ev_tM AM (own_eqi nn10)
  obtain ⟨kM, V_tM⟩ : ∃ k, Arv s s.heap tM k .byte (10 : Int32) ((C1.map StrChars.lo8).map Value.int) (.int 0) := ⟨_, Arv.start hfit AM qM zM (by decide) rfl (by rw [own_v1]; exact ⟨own_elem ev_tM AM (by decide) (own_eqi nn15), own_elem ev_tM AM (by decide) (own_eqi nn16), own_elem ev_tM AM (by decide) (own_eqi nn17), own_elem ev_tM AM (by decide) (own_eqi nn18), own_elem ev_tM AM (by decide) (own_eqi nn19), own_elem ev_tM AM (by decide) (own_eqi nn20), own_elem ev_tM AM (by decide) (own_eqi nn21), own_elem ev_tM AM (by decide) (own_eqi nn22), own_elem ev_tM AM (by decide) (own_eqi nn23), own_elem ev_tM AM (by decide) (own_eqi nn24), trivial⟩)⟩
  obtain ⟨sA, ev_sA⟩ := exa_v nn11
  have F_jsonName_w_ABUSE_REPORTS : Fld s s.heap w_ABUSE_REPORTS "com/example/assay/assay/config/TlsClient$Role" "jsonName" "Ljava/lang/String;" (.ref sA) := Fld.start ((fld_at ev_ABUSE_REPORTS).symm.trans ev_sA)
  have E_sA : Exa s s.heap sA "java/lang/String" := Exa.start ev_sA nn11
  have F_coder_sA : Fld s s.heap sA "java/lang/String" "coder" "B" (.int 0) := Fld.start ((fld_at ev_sA).symm.trans (own_eqi nn12))
  obtain ⟨tA, ev_tA⟩ := arr_v nn13
  have F_value_sA : Fld s s.heap sA "java/lang/String" "value" "[B" (.ref tA) := Fld.start ((fld_at ev_sA).symm.trans ev_tA)
  obtain ⟨cA, AA⟩ := Arr.start ev_tA nn13
  obtain ⟨qA, zA⟩ := own_len ev_tA AA (own_eqi nn14)
  obtain ⟨kA, V_tA⟩ : ∃ k, Arv s s.heap tA k .byte (12 : Int32) ((C2.map StrChars.lo8).map Value.int) (.int 0) := ⟨_, Arv.start hfit AA qA zA (by decide) rfl (by rw [own_v2]; exact ⟨own_elem ev_tA AA (by decide) (own_eqi nn25), own_elem ev_tA AA (by decide) (own_eqi nn26), own_elem ev_tA AA (by decide) (own_eqi nn27), own_elem ev_tA AA (by decide) (own_eqi nn28), own_elem ev_tA AA (by decide) (own_eqi nn29), own_elem ev_tA AA (by decide) (own_eqi nn30), own_elem ev_tA AA (by decide) (own_eqi nn31), own_elem ev_tA AA (by decide) (own_eqi nn32), own_elem ev_tA AA (by decide) (own_eqi nn33), own_elem ev_tA AA (by decide) (own_eqi nn34), own_elem ev_tA AA (by decide) (own_eqi nn35), own_elem ev_tA AA (by decide) (own_eqi nr35), trivial⟩)⟩
  have hCH : CHv s consts_1 s.vm s.heap := CHv.start (own_EW hw) (fun p hp => hcalls.1 p hp) (hsets _ (List.mem_of_getElem? (i := 2) rfl)) (ww hw 3 rfl) (ww hw 2 rfl)
  obtain ⟨n, o, h1, h2, h3, _, L, rfl, ⟨rfl, N⟩, hq⟩ := rm0 l s _ hw tables_1 i0 i1 i2 i3 kV w__VALUES sM tM kM sA tA kA w_EMPTY w_COMPACT_STRINGS fm w_MONITORING w_ABUSE_REPORTS s.heap s.heap.size (Nat.le_refl _) S_MONITORING S_ABUSE_REPORTS S__VALUES S_EMPTY S_COMPACT_STRINGS hz S_SIOOBE_FORMATTER rf E_w__VALUES V_w__VALUES F_jsonName_w_MONITORING F_jsonName_w_ABUSE_REPORTS E_sM F_coder_sM F_value_sM V_tM E_sA F_coder_sA F_value_sA V_tA E_w_EMPTY F_value_w_EMPTY p e ha hc hk s m _ below hf ((Spec.applies_iff_loose hf).mp happ).1 ⟨rfl, State.Warmed39.refl s, rfl, hCH⟩ trivial
  refine ⟨n, _, h1, h2, h3, hpost _ _ _ _ _ _ ⟨Cond.after_iff.mpr rfl, Cond.after_iff.mpr (eq_i res_at (Term.int_eval (1)) rfl), trivial⟩ ⟨hq.1, hq.2.1, hq.2.2.1, (hq.2.2.2.sift fun y hy => Or.inr (N y hy)).mono (by decide) (by decide)⟩⟩
theorem main_1_1 : Claimed_1_1 := comes_1 fun _ _ _ _ _ _ h hF => ⟨h.1, hF⟩
theorem main_1_2 : Claimed_1_2 := comes_1 fun _ _ _ _ _ _ h hF => ⟨h.2.1, hF⟩
end Jvm.Pilot.@@N@@
namespace Jvm.Pilot.@@N@@
open Jvm Jvm.ClassFile Sem Op Lib Jvm.Free Jvm.Stand Jvm.Pilot.@@N@@.Jvm.D
/-! MADE BY PROGRAM (witnessworld.py) out of the Statement's table words and the real class files: 24 classes; the members and pool entries that the words name. The judged class is class 1, her method 3. -/
namespace start1
open Jvm.ClassFile
def u (s : String) : CpInfo := .utf8 (stringToUtf16 s)
/-- a pool by its gaps: so many unusable entries, then the entry; so many at the end -/
def gap : Nat → List CpInfo → List CpInfo
  | 0, r => r
  | n + 1, r => .unusable :: gap n r
def poolList (es : List (Nat × CpInfo)) (last : Nat) : List CpInfo := es.foldr (fun e r => gap e.1 (e.2 :: r)) (gap last [])
def pool (es : List (Nat × CpInfo)) (last : Nat) : Array CpInfo := ⟨poolList es last⟩
def fileOf (pool : Array CpInfo) (this : Nat) (attrs : Array Attribute := #[]) (ms : Array MethodInfo := #[]) (fl : Nat := 33) (sup : Nat := 0) (ifs : Array Nat := #[]) (fds : Array FieldInfo := #[]) : ClassFile where
  minorVersion := 0
  majorVersion := 65
  constantPool := pool
  accessFlags := fl
  thisClass := this
  superClass := sup
  interfaces := ifs
  fields := fds
  methods := ms
  attributes := attrs
def plain (name : String) (sup : Option ClassId) : Class where
  name := name
  kind := .ordinary
  loader := none
  accessFlags := 33
  super := sup
  interfaces := #[]
  cf := none
  fields := #[]
  methods := #[]
  instanceTypes := #[]
  staticTypes := #[]
  resolved := #[]
  callSites := []
  init := .initialized
  statics := none
  mirror := none

def pool0 : Array CpInfo := pool [(5, u "<init>"), (0, u "()V"), (1, .class_ 10), (1, u "java/lang/Object"), (85, u "clone"), (0, u "()Ljava/lang/Object;")] 26

def k0c0 : Code := { maxStack := 0, maxLocals := 1, code := object_method_1_code, exceptionTable := #[], attributes := #[] }
def k0m0 : Method := { name := "<init>", desc := "()V", sig := { parameters := [], returnType := none }, accessFlags := 1, code := some k0c0 }
def k0m1 : Method := { name := "clone", desc := "()Ljava/lang/Object;", sig := { parameters := [], returnType := some (.object "java/lang/Object") }, accessFlags := 260, code := none }
/-- java/lang/Object -/
def k0 : Class := { plain "java/lang/Object" none with
  accessFlags := 33
  interfaces := #[]
  cf := some (fileOf pool0 8 #[] #[{ accessFlags := 1, nameIndex := 5, descriptorIndex := 6, attributes := #[] }, { accessFlags := 260, nameIndex := 96, descriptorIndex := 97, attributes := #[] }] 33 0 #[] #[])
  fields := #[]
  methods := #[k0m0, k0m1]
  instanceTypes := #[]
  staticTypes := #[]
  resolved := Array.replicate 124 none
  statics := none }

def pool1 : Array CpInfo := pool [(2, .class_ 4), (1, u "java/lang/Object"), (0, u "<init>"), (0, u "()V"), (0, .methodref 8 9), (0, .class_ 10), (0, .nameAndType 11 12), (0, u "java/lang/String"), (0, u "length"), (0, u "()I"), (0, .methodref 8 14), (0, .nameAndType 15 16), (0, u "charAt"), (0, u "(I)C"), (0, .methodref 18 19), (0, .class_ 20), (0, .nameAndType 21 22), (0, u "com/example/assay/assay/config/RoleFromJsonNamePinLaw"), (0, u "at"), (0, u "(Ljava/lang/String;IIC)C"), (0, .methodref 8 24), (0, .nameAndType 5 25), (0, u "([C)V"), (0, .string 27), (0, u "monitoring"), (0, .string 29), (0, u "abuseReports"), (0, .methodref 18 31), (0, .nameAndType 32 33), (0, u "mk"), (0, u "(Ljava/lang/String;ICI)Ljava/lang/String;"), (0, .fieldref 35 36), (0, .class_ 37), (0, .nameAndType 38 39), (0, u "com/example/assay/assay/config/TlsClient$Role"), (0, u "MONITORING"), (0, u "Lcom/example/assay/assay/config/TlsClient$Role;"), (0, .fieldref 35 41), (0, .nameAndType 42 39), (0, u "ABUSE_REPORTS"), (0, .string 44), (0, u "monitorin"), (0, .string 46), (0, u ""), (0, .methodref 8 48), (0, .nameAndType 49 50), (0, u "valueOf"), (0, u "(C)Ljava/lang/String;"), (0, .methodref 35 52), (0, .nameAndType 53 54), (0, u "fromJsonName"), (0, u "(Ljava/lang/String;)Ljava/util/Optional;"), (0, .methodref 56 57), (0, .class_ 58), (0, .nameAndType 59 60), (0, u "java/util/Optional"), (0, u "orElse"), (0, u "(Ljava/lang/Object;)Ljava/lang/Object;"), (3, u "law"), (0, u "(IIII)Z")] 6

def k1m0 : Method := { name := "<init>", desc := "()V", sig := { parameters := [], returnType := none }, accessFlags := 2, code := none }
def k1c1 : Code := { maxStack := 2, maxLocals := 4, code := method_2_code, exceptionTable := #[], attributes := #[] }
def k1m1 : Method := { name := "at", desc := "(Ljava/lang/String;IIC)C", sig := { parameters := [(.object "java/lang/String"), .int, .int, .char], returnType := some .char }, accessFlags := 10, code := some k1c1 }
def k1c2 : Code := { maxStack := 9, maxLocals := 4, code := method_3_code, exceptionTable := #[], attributes := #[] }
def k1m2 : Method := { name := "mk", desc := "(Ljava/lang/String;ICI)Ljava/lang/String;", sig := { parameters := [(.object "java/lang/String"), .int, .char, .int], returnType := some (.object "java/lang/String") }, accessFlags := 10, code := some k1c2 }
def k1c3 : Code := { maxStack := 6, maxLocals := 13, code := code, exceptionTable := #[], attributes := #[] }
def k1m3 : Method := { name := "law", desc := "(IIII)Z", sig := { parameters := [.int, .int, .int, .int], returnType := some .boolean }, accessFlags := 9, code := some k1c3 }
/-- com/example/assay/assay/config/RoleFromJsonNamePinLaw -/
def k1 : Class := { plain "com/example/assay/assay/config/RoleFromJsonNamePinLaw" (some 0) with
  accessFlags := 49
  interfaces := #[]
  cf := some (fileOf pool1 18 #[] #[{ accessFlags := 2, nameIndex := 5, descriptorIndex := 6, attributes := #[] }, { accessFlags := 10, nameIndex := 21, descriptorIndex := 22, attributes := #[] }, { accessFlags := 10, nameIndex := 32, descriptorIndex := 33, attributes := #[] }, { accessFlags := 9, nameIndex := 64, descriptorIndex := 65, attributes := #[] }] 49 2 #[] #[])
  fields := #[]
  methods := #[k1m0, k1m1, k1m2, k1m3]
  instanceTypes := #[]
  staticTypes := #[]
  resolved := Array.replicate 72 none
  statics := none }

def pool2 : Array CpInfo := pool [(1, .class_ 2), (0, u "java/io/Serializable"), (0, .class_ 4), (0, u "java/lang/Object")] 2

/-- java/io/Serializable -/
def k2 : Class := { plain "java/io/Serializable" (some 0) with
  accessFlags := 1537
  interfaces := #[]
  cf := some (fileOf pool2 1 #[] #[] 1537 3 #[] #[])
  fields := #[]
  methods := #[]
  instanceTypes := #[]
  staticTypes := #[]
  resolved := Array.replicate 7 none
  statics := none }

def pool3 : Array CpInfo := pool [(1, .class_ 2), (0, u "java/lang/Comparable"), (0, .class_ 4), (0, u "java/lang/Object")] 7

/-- java/lang/Comparable -/
def k3 : Class := { plain "java/lang/Comparable" (some 0) with
  accessFlags := 1537
  interfaces := #[]
  cf := some (fileOf pool3 1 #[] #[] 1537 3 #[] #[])
  fields := #[]
  methods := #[]
  instanceTypes := #[]
  staticTypes := #[]
  resolved := Array.replicate 12 none
  statics := none }

def pool4 : Array CpInfo := pool [(2, .class_ 4), (1, u "java/lang/CharSequence"), (42, .class_ 48), (0, u "java/lang/CharSequence$1CodePointIterator"), (10, .class_ 60), (0, u "java/lang/CharSequence$1CharIterator"), (5, .class_ 67), (0, u "java/lang/Object")] 63

/-- java/lang/CharSequence -/
def k4 : Class := { plain "java/lang/CharSequence" (some 0) with
  accessFlags := 1537
  interfaces := #[]
  cf := some (fileOf pool4 2 #[.nestMembers #[47, 59]] #[] 1537 66 #[] #[])
  fields := #[]
  methods := #[]
  instanceTypes := #[]
  staticTypes := #[]
  resolved := Array.replicate 131 none
  statics := none }

def pool5 : Array CpInfo := pool [(1, .class_ 2), (0, u "java/lang/constant/Constable"), (0, .class_ 4), (0, u "java/lang/Object")] 6

/-- java/lang/constant/Constable -/
def k5 : Class := { plain "java/lang/constant/Constable" (some 0) with
  accessFlags := 1537
  interfaces := #[]
  cf := some (fileOf pool5 1 #[] #[] 1537 3 #[] #[])
  fields := #[]
  methods := #[]
  instanceTypes := #[]
  staticTypes := #[]
  resolved := Array.replicate 11 none
  statics := none }

def pool6 : Array CpInfo := pool [(1, .class_ 2), (0, u "java/lang/constant/ConstantDesc"), (0, .class_ 4), (0, u "java/lang/Object")] 32

/-- java/lang/constant/ConstantDesc -/
def k6 : Class := { plain "java/lang/constant/ConstantDesc" (some 0) with
  accessFlags := 1537
  interfaces := #[]
  cf := some (fileOf pool6 1 #[] #[] 1537 3 #[] #[])
  fields := #[]
  methods := #[]
  instanceTypes := #[]
  staticTypes := #[]
  resolved := Array.replicate 37 none
  statics := none }

def pool7 : Array CpInfo := pool [(1, .methodref 2 3), (0, .class_ 4), (0, .nameAndType 5 6), (0, u "java/lang/Object"), (0, u "<init>"), (0, u "()V"), (2, .fieldref 10 11), (0, .class_ 12), (0, .nameAndType 13 14), (0, u "java/lang/String"), (0, u "value"), (0, u "[B"), (0, .fieldref 10 16), (0, .nameAndType 17 18), (0, u "coder"), (0, u "B"), (2, u "hash"), (0, u "I"), (2, u "hashIsZero"), (0, u "Z"), (0, .methodref 10 28), (0, .nameAndType 5 29), (0, u "([CIILjava/lang/Void;)V"), (8, .fieldref 10 39), (0, .nameAndType 40 26), (0, u "COMPACT_STRINGS"), (1, .class_ 44), (1, u "java/lang/StringUTF16"), (0, u "compress"), (1, .methodref 42 48), (0, .nameAndType 49 50), (0, u "coderFromArrayLen"), (0, u "([BI)B"), (2, u "toBytes"), (53, .class_ 109), (1, u "java/lang/StringLatin1"), (32, u "()Z"), (34, .methodref 42 178), (0, .nameAndType 45 179), (0, u "([CII)[B"), (29, .methodref 10 210), (0, .nameAndType 5 211), (0, u "([BB)V"), (122, u "()I"), (0, .methodref 10 336), (0, .nameAndType 17 337), (0, u "()B"), (25, u "([BI)C"), (5, u "(C)Z"), (21, u "(II)V"), (35, u "(I)C"), (64, .methodref 10 493), (0, .nameAndType 494 142), (0, u "isLatin1"), (0, .methodref 107 496), (0, .nameAndType 497 363), (0, u "charAt"), (3, u "checkIndex"), (5, u "length"), (33, .methodref 107 542), (0, .nameAndType 543 544), (0, u "equals"), (0, u "([B[B)Z"), (28, u "(Ljava/lang/Object;)Z"), (1, .class_ 576), (0, u "java/lang/CharSequence"), (22, u "CASE_INSENSITIVE_ORDER"), (0, u "Ljava/util/Comparator;"), (181, u "valueOf"), (0, u "(C)Ljava/lang/String;"), (226, u "([C)V"), (4, .methodref 107 1016), (0, .nameAndType 1017 369), (0, u "canEncode"), (0, .methodref 107 1019), (0, .nameAndType 53 1020), (0, u "(C)[B"), (32, .fieldref 1054 1055), (0, .class_ 1056), (0, .nameAndType 1057 1058), (0, u "jdk/internal/util/Preconditions"), (0, u "SIOOBE_FORMATTER"), (0, u "Ljava/util/function/BiFunction;"), (0, .methodref 1054 1060), (0, .nameAndType 501 1061), (0, u "(IILjava/util/function/BiFunction;)I"), (39, u "serialPersistentFields"), (0, u "[Ljava/io/ObjectStreamField;"), (0, .class_ 1104), (0, u "java/lang/String$CaseInsensitiveComparator"), (1, .class_ 1107), (0, u "java/io/Serializable"), (0, .class_ 1109), (0, u "java/lang/Comparable"), (0, .class_ 1111), (0, u "java/lang/constant/Constable"), (0, .class_ 1113), (0, u "java/lang/constant/ConstantDesc"), (2, u "serialVersionUID"), (0, u "J"), (3, u "REPL"), (0, u "C"), (2, u "LATIN1"), (1, u "UTF16")] 323

def k7m0 : Method := { name := "<init>", desc := "()V", sig := { parameters := [], returnType := none }, accessFlags := 1, code := none }
def k7c1 : Code := { maxStack := 5, maxLocals := 2, code := jdk_42_method_3_code, exceptionTable := #[], attributes := #[] }
def k7m1 : Method := { name := "<init>", desc := "([C)V", sig := { parameters := [(.array .char)], returnType := none }, accessFlags := 1, code := some k7c1 }
def k7c2 : Code := { maxStack := 2, maxLocals := 1, code := jdk_42_method_54_code, exceptionTable := #[], attributes := #[] }
def k7m2 : Method := { name := "length", desc := "()I", sig := { parameters := [], returnType := some .int }, accessFlags := 1, code := some k7c2 }
def k7c3 : Code := { maxStack := 2, maxLocals := 2, code := jdk_42_method_56_code, exceptionTable := #[], attributes := #[] }
def k7m3 : Method := { name := "charAt", desc := "(I)C", sig := { parameters := [.int], returnType := some .char }, accessFlags := 1, code := some k7c3 }
def k7c4 : Code := { maxStack := 2, maxLocals := 3, code := jdk_42_method_66_code, exceptionTable := #[], attributes := #[] }
def k7m4 : Method := { name := "equals", desc := "(Ljava/lang/Object;)Z", sig := { parameters := [(.object "java/lang/Object")], returnType := some .boolean }, accessFlags := 1, code := some k7c4 }
def k7c5 : Code := { maxStack := 4, maxLocals := 1, code := jdk_42_method_139_code, exceptionTable := #[], attributes := #[] }
def k7m5 : Method := { name := "valueOf", desc := "(C)Ljava/lang/String;", sig := { parameters := [.char], returnType := some (.object "java/lang/String") }, accessFlags := 9, code := some k7c5 }
def k7c6 : Code := { maxStack := 4, maxLocals := 6, code := jdk_42_method_149_code, exceptionTable := #[], attributes := #[] }
def k7m6 : Method := { name := "<init>", desc := "([CIILjava/lang/Void;)V", sig := { parameters := [(.array .char), .int, .int, (.object "java/lang/Void")], returnType := none }, accessFlags := 2, code := some k7c6 }
def k7c7 : Code := { maxStack := 2, maxLocals := 3, code := jdk_42_method_151_code, exceptionTable := #[], attributes := #[] }
def k7m7 : Method := { name := "<init>", desc := "([BB)V", sig := { parameters := [(.array .byte), .byte], returnType := none }, accessFlags := 0, code := some k7c7 }
def k7c8 : Code := { maxStack := 1, maxLocals := 1, code := jdk_42_method_152_code, exceptionTable := #[], attributes := #[] }
def k7m8 : Method := { name := "coder", desc := "()B", sig := { parameters := [], returnType := some .byte }, accessFlags := 0, code := some k7c8 }
def k7c9 : Code := { maxStack := 1, maxLocals := 1, code := jdk_42_method_154_code, exceptionTable := #[], attributes := #[] }
def k7m9 : Method := { name := "isLatin1", desc := "()Z", sig := { parameters := [], returnType := some .boolean }, accessFlags := 0, code := some k7c9 }
def k7c10 : Code := { maxStack := 3, maxLocals := 2, code := jdk_42_method_155_code, exceptionTable := #[], attributes := #[] }
def k7m10 : Method := { name := "checkIndex", desc := "(II)V", sig := { parameters := [.int, .int], returnType := none }, accessFlags := 8, code := some k7c10 }
/-- java/lang/String -/
def k7 : Class := { plain "java/lang/String" (some 0) with
  accessFlags := 49
  interfaces := #[2, 3, 4, 5, 6]
  cf := some (fileOf pool7 10 #[.nestMembers #[1103]] #[{ accessFlags := 1, nameIndex := 5, descriptorIndex := 6, attributes := #[] }, { accessFlags := 1, nameIndex := 5, descriptorIndex := 1010, attributes := #[] }, { accessFlags := 1, nameIndex := 507, descriptorIndex := 334, attributes := #[] }, { accessFlags := 1, nameIndex := 497, descriptorIndex := 427, attributes := #[] }, { accessFlags := 1, nameIndex := 543, descriptorIndex := 573, attributes := #[] }, { accessFlags := 9, nameIndex := 782, descriptorIndex := 783, attributes := #[] }, { accessFlags := 2, nameIndex := 5, descriptorIndex := 29, attributes := #[] }, { accessFlags := 0, nameIndex := 5, descriptorIndex := 211, attributes := #[] }, { accessFlags := 0, nameIndex := 17, descriptorIndex := 337, attributes := #[] }, { accessFlags := 0, nameIndex := 494, descriptorIndex := 142, attributes := #[] }, { accessFlags := 8, nameIndex := 501, descriptorIndex := 391, attributes := #[] }] 49 2 #[1106, 1108, 575, 1110, 1112] #[{ accessFlags := 18, nameIndex := 13, descriptorIndex := 14, attributes := #[] }, { accessFlags := 18, nameIndex := 17, descriptorIndex := 18, attributes := #[] }, { accessFlags := 2, nameIndex := 21, descriptorIndex := 22, attributes := #[] }, { accessFlags := 2, nameIndex := 25, descriptorIndex := 26, attributes := #[] }, { accessFlags := 26, nameIndex := 1116, descriptorIndex := 1117, attributes := #[] }, { accessFlags := 24, nameIndex := 40, descriptorIndex := 26, attributes := #[] }, { accessFlags := 26, nameIndex := 1101, descriptorIndex := 1102, attributes := #[] }, { accessFlags := 26, nameIndex := 1121, descriptorIndex := 1122, attributes := #[] }, { accessFlags := 25, nameIndex := 599, descriptorIndex := 600, attributes := #[] }, { accessFlags := 24, nameIndex := 1125, descriptorIndex := 18, attributes := #[] }, { accessFlags := 24, nameIndex := 1127, descriptorIndex := 18, attributes := #[] }])
  fields := #[{ name := "value", type := (.array .byte), accessFlags := 18, slot := 0, constantValue := 0 }, { name := "coder", type := .byte, accessFlags := 18, slot := 1, constantValue := 0 }, { name := "hash", type := .int, accessFlags := 2, slot := 2, constantValue := 0 }, { name := "hashIsZero", type := .boolean, accessFlags := 2, slot := 3, constantValue := 0 }, { name := "serialVersionUID", type := .long, accessFlags := 26, slot := 0, constantValue := 0 }, { name := "COMPACT_STRINGS", type := .boolean, accessFlags := 24, slot := 1, constantValue := 0 }, { name := "serialPersistentFields", type := (.array (.object "java/io/ObjectStreamField")), accessFlags := 26, slot := 2, constantValue := 0 }, { name := "REPL", type := .char, accessFlags := 26, slot := 3, constantValue := 0 }, { name := "CASE_INSENSITIVE_ORDER", type := (.object "java/util/Comparator"), accessFlags := 25, slot := 4, constantValue := 0 }, { name := "LATIN1", type := .byte, accessFlags := 24, slot := 5, constantValue := 0 }, { name := "UTF16", type := .byte, accessFlags := 24, slot := 6, constantValue := 0 }]
  methods := #[k7m0, k7m1, k7m2, k7m3, k7m4, k7m5, k7m6, k7m7, k7m8, k7m9, k7m10]
  instanceTypes := #[(.array .byte), .byte, .int, .boolean]
  staticTypes := #[.long, .boolean, (.array (.object "java/io/ObjectStreamField")), .char, (.object "java/util/Comparator"), .byte, .byte]
  resolved := Array.replicate 1451 none
  statics := some 0 }

def pool8 : Array CpInfo := pool [(1, .class_ 2), (0, u "java/lang/String"), (1, .class_ 6), (1, u "java/lang/Object"), (0, u "<init>"), (0, u "()V"), (0, .methodref 1 10), (0, .nameAndType 11 12), (0, u "checkIndex"), (0, u "(II)V"), (1, .class_ 16), (1, u "java/lang/StringLatin1"), (36, u "([BI)C"), (36, u "canEncode"), (14, u "(C)Z"), (15, u "$assertionsDisabled"), (0, u "Z"), (98, .class_ 223), (1, u "java/lang/StringLatin1$LinesSpliterator"), (28, u "charAt"), (28, u "equals"), (0, u "([B[B)Z"), (97, u "toBytes"), (1, u "(C)[B"), (7, .class_ 391), (0, u "java/lang/StringLatin1$CharsSpliterator")] 3

def k8m0 : Method := { name := "<init>", desc := "()V", sig := { parameters := [], returnType := none }, accessFlags := 0, code := none }
def k8c1 : Code := { maxStack := 2, maxLocals := 2, code := jdk_43_method_2_code, exceptionTable := #[], attributes := #[] }
def k8m1 : Method := { name := "charAt", desc := "([BI)C", sig := { parameters := [(.array .byte), .int], returnType := some .char }, accessFlags := 9, code := some k8c1 }
def k8c2 : Code := { maxStack := 2, maxLocals := 1, code := jdk_43_method_3_code, exceptionTable := #[], attributes := #[] }
def k8m2 : Method := { name := "canEncode", desc := "(C)Z", sig := { parameters := [.char], returnType := some .boolean }, accessFlags := 9, code := some k8c2 }
def k8c3 : Code := { maxStack := 3, maxLocals := 3, code := jdk_43_method_13_code, exceptionTable := #[], attributes := #[] }
def k8m3 : Method := { name := "equals", desc := "([B[B)Z", sig := { parameters := [(.array .byte), (.array .byte)], returnType := some .boolean }, accessFlags := 9, code := some k8c3 }
def k8c4 : Code := { maxStack := 4, maxLocals := 1, code := jdk_43_method_46_code, exceptionTable := #[], attributes := #[] }
def k8m4 : Method := { name := "toBytes", desc := "(C)[B", sig := { parameters := [.char], returnType := some (.array .byte) }, accessFlags := 9, code := some k8c4 }
/-- java/lang/StringLatin1 -/
def k8 : Class := { plain "java/lang/StringLatin1" (some 0) with
  accessFlags := 48
  interfaces := #[]
  cf := some (fileOf pool8 14 #[.nestMembers #[390, 221]] #[{ accessFlags := 0, nameIndex := 7, descriptorIndex := 8, attributes := #[] }, { accessFlags := 9, nameIndex := 252, descriptorIndex := 53, attributes := #[] }, { accessFlags := 9, nameIndex := 90, descriptorIndex := 105, attributes := #[] }, { accessFlags := 9, nameIndex := 281, descriptorIndex := 282, attributes := #[] }, { accessFlags := 9, nameIndex := 380, descriptorIndex := 382, attributes := #[] }] 48 4 #[] #[{ accessFlags := 4120, nameIndex := 121, descriptorIndex := 122, attributes := #[] }])
  fields := #[{ name := "$assertionsDisabled", type := .boolean, accessFlags := 4120, slot := 0, constantValue := 0 }]
  methods := #[k8m0, k8m1, k8m2, k8m3, k8m4]
  instanceTypes := #[]
  staticTypes := #[.boolean]
  resolved := Array.replicate 395 none
  statics := none }

def pool9 : Array CpInfo := pool [(2, .class_ 4), (1, u "java/lang/Object"), (0, u "<init>"), (0, u "()V"), (17, .class_ 26), (1, u "jdk/internal/util/Preconditions"), (6, u "checkIndex"), (21, .class_ 56), (0, u "jdk/internal/util/Preconditions$4"), (57, .class_ 115), (0, u "jdk/internal/util/Preconditions$1"), (7, u "SIOOBE_FORMATTER"), (0, u "Ljava/util/function/BiFunction;"), (0, .class_ 126), (0, u "jdk/internal/util/Preconditions$2"), (3, u "AIOOBE_FORMATTER"), (0, .class_ 132), (0, u "jdk/internal/util/Preconditions$3"), (3, u "IOOBE_FORMATTER"), (41, u "(IILjava/util/function/BiFunction;)I")] 15

def k9m0 : Method := { name := "<init>", desc := "()V", sig := { parameters := [], returnType := none }, accessFlags := 1, code := none }
def k9c1 : Code := { maxStack := 3, maxLocals := 3, code := jdk_41_method_11_code, exceptionTable := #[], attributes := #[] }
def k9m1 : Method := { name := "checkIndex", desc := "(IILjava/util/function/BiFunction;)I", sig := { parameters := [.int, .int, (.object "java/util/function/BiFunction")], returnType := some .int }, accessFlags := 9, code := some k9c1 }
/-- jdk/internal/util/Preconditions -/
def k9 : Class := { plain "jdk/internal/util/Preconditions" (some 0) with
  accessFlags := 33
  interfaces := #[]
  cf := some (fileOf pool9 24 #[.nestMembers #[55, 131, 125, 114]] #[{ accessFlags := 1, nameIndex := 5, descriptorIndex := 6, attributes := #[] }, { accessFlags := 9, nameIndex := 33, descriptorIndex := 178, attributes := #[] }] 33 2 #[] #[{ accessFlags := 25, nameIndex := 123, descriptorIndex := 124, attributes := #[] }, { accessFlags := 25, nameIndex := 130, descriptorIndex := 124, attributes := #[] }, { accessFlags := 25, nameIndex := 136, descriptorIndex := 124, attributes := #[] }])
  fields := #[{ name := "SIOOBE_FORMATTER", type := (.object "java/util/function/BiFunction"), accessFlags := 25, slot := 0, constantValue := 0 }, { name := "AIOOBE_FORMATTER", type := (.object "java/util/function/BiFunction"), accessFlags := 25, slot := 1, constantValue := 0 }, { name := "IOOBE_FORMATTER", type := (.object "java/util/function/BiFunction"), accessFlags := 25, slot := 2, constantValue := 0 }]
  methods := #[k9m0, k9m1]
  instanceTypes := #[]
  staticTypes := #[(.object "java/util/function/BiFunction"), (.object "java/util/function/BiFunction"), (.object "java/util/function/BiFunction")]
  resolved := Array.replicate 194 none
  statics := some 1 }

def pool10 : Array CpInfo := pool [(6, .class_ 8), (1, u "java/lang/Object"), (0, u "<init>"), (0, u "()V"), (1, .class_ 14), (1, u "java/lang/StringUTF16"), (31, u "$assertionsDisabled"), (0, u "Z"), (13, u "HI_BYTE_SHIFT"), (0, u "I"), (2, u "LO_BYTE_SHIFT"), (49, .methodref 12 116), (0, .nameAndType 117 118), (0, u "compress"), (0, u "([CI[BII)I"), (3, u "([CII)[B"), (138, u "coderFromArrayLen"), (0, u "([BI)B"), (106, .class_ 371), (1, u "java/lang/StringUTF16$LinesSpliterator"), (58, u "MAX_LENGTH"), (196, .class_ 628), (0, u "java/lang/StringUTF16$CodePointsSpliterator"), (0, .class_ 630), (0, u "java/lang/StringUTF16$CharsSpliterator")] 4

def k10m0 : Method := { name := "<init>", desc := "()V", sig := { parameters := [], returnType := none }, accessFlags := 0, code := none }
def k10c1 : Code := { maxStack := 2, maxLocals := 2, code := jdk_52_method_15_code, exceptionTable := #[], attributes := #[] }
def k10m1 : Method := { name := "coderFromArrayLen", desc := "([BI)B", sig := { parameters := [(.array .byte), .int], returnType := some .byte }, accessFlags := 8, code := some k10c1 }
def k10c2 : Code := { maxStack := 5, maxLocals := 6, code := jdk_52_method_16_code, exceptionTable := #[], attributes := #[] }
def k10m2 : Method := { name := "compress", desc := "([CII)[B", sig := { parameters := [(.array .char), .int, .int], returnType := some (.array .byte) }, accessFlags := 9, code := some k10c2 }
def k10c3 : Code := { maxStack := 3, maxLocals := 7, code := jdk_52_method_21_code, exceptionTable := #[], attributes := #[] }
def k10m3 : Method := { name := "compress", desc := "([CI[BII)I", sig := { parameters := [(.array .char), .int, (.array .byte), .int, .int], returnType := some .int }, accessFlags := 9, code := some k10c3 }
/-- java/lang/StringUTF16 -/
def k10 : Class := { plain "java/lang/StringUTF16" (some 0) with
  accessFlags := 48
  interfaces := #[]
  cf := some (fileOf pool10 12 #[.nestMembers #[627, 629, 369]] #[{ accessFlags := 0, nameIndex := 9, descriptorIndex := 10, attributes := #[] }, { accessFlags := 8, nameIndex := 261, descriptorIndex := 262, attributes := #[] }, { accessFlags := 9, nameIndex := 117, descriptorIndex := 122, attributes := #[] }, { accessFlags := 9, nameIndex := 117, descriptorIndex := 118, attributes := #[] }] 48 6 #[] #[{ accessFlags := 26, nameIndex := 61, descriptorIndex := 62, attributes := #[] }, { accessFlags := 26, nameIndex := 65, descriptorIndex := 62, attributes := #[] }, { accessFlags := 24, nameIndex := 430, descriptorIndex := 62, attributes := #[] }, { accessFlags := 4120, nameIndex := 46, descriptorIndex := 47, attributes := #[] }])
  fields := #[{ name := "HI_BYTE_SHIFT", type := .int, accessFlags := 26, slot := 0, constantValue := 0 }, { name := "LO_BYTE_SHIFT", type := .int, accessFlags := 26, slot := 1, constantValue := 0 }, { name := "MAX_LENGTH", type := .int, accessFlags := 24, slot := 2, constantValue := 0 }, { name := "$assertionsDisabled", type := .boolean, accessFlags := 4120, slot := 3, constantValue := 0 }]
  methods := #[k10m0, k10m1, k10m2, k10m3]
  instanceTypes := #[]
  staticTypes := #[.int, .int, .int, .boolean]
  resolved := Array.replicate 635 none
  statics := none }

def pool11 : Array CpInfo := pool [(2, .class_ 4), (1, u "java/lang/Enum"), (0, u "name"), (0, u "Ljava/lang/String;"), (2, u "ordinal"), (0, u "I"), (1, .class_ 14), (1, u "java/lang/Object"), (4, u "hash"), (86, .class_ 108), (1, u "java/lang/Enum$EnumDesc"), (2, .class_ 112), (0, u "java/lang/constant/Constable"), (0, .class_ 114), (0, u "java/lang/Comparable"), (0, .class_ 116), (0, u "java/io/Serializable")] 87

/-- java/lang/Enum -/
def k11 : Class := { plain "java/lang/Enum" (some 0) with
  accessFlags := 1057
  interfaces := #[5, 3, 2]
  cf := some (fileOf pool11 2 #[.nestMembers #[106]] #[] 1057 12 #[111, 113, 115] #[{ accessFlags := 18, nameIndex := 5, descriptorIndex := 6, attributes := #[] }, { accessFlags := 18, nameIndex := 9, descriptorIndex := 10, attributes := #[] }, { accessFlags := 2, nameIndex := 19, descriptorIndex := 10, attributes := #[] }])
  fields := #[{ name := "name", type := (.object "java/lang/String"), accessFlags := 18, slot := 0, constantValue := 0 }, { name := "ordinal", type := .int, accessFlags := 18, slot := 1, constantValue := 0 }, { name := "hash", type := .int, accessFlags := 2, slot := 2, constantValue := 0 }]
  methods := #[]
  instanceTypes := #[(.object "java/lang/String"), .int, .int]
  staticTypes := #[]
  resolved := Array.replicate 204 none
  statics := none }

def pool12 : Array CpInfo := pool [(1, .class_ 2), (0, u "com/example/assay/assay/config/TlsClient$Role"), (2, u "MONITORING"), (0, u "Lcom/example/assay/assay/config/TlsClient$Role;"), (2, u "ABUSE_REPORTS"), (0, .fieldref 1 11), (0, .nameAndType 12 13), (0, u "$VALUES"), (0, u "[Lcom/example/assay/assay/config/TlsClient$Role;"), (0, .methodref 15 16), (0, .class_ 13), (0, .nameAndType 17 18), (0, u "clone"), (0, u "()Ljava/lang/Object;"), (1, .class_ 22), (1, u "java/lang/Enum"), (6, .fieldref 1 30), (0, .nameAndType 31 32), (0, u "jsonName"), (0, u "Ljava/lang/String;"), (0, .methodref 1 34), (0, .nameAndType 35 36), (0, u "values"), (0, u "()[Lcom/example/assay/assay/config/TlsClient$Role;"), (0, .methodref 38 39), (0, .class_ 40), (0, .nameAndType 41 42), (0, u "java/lang/String"), (0, u "equals"), (0, u "(Ljava/lang/Object;)Z"), (0, .methodref 44 45), (0, .class_ 46), (0, .nameAndType 47 48), (0, u "java/util/Optional"), (0, u "of"), (0, u "(Ljava/lang/Object;)Ljava/util/Optional;"), (0, .methodref 44 50), (0, .nameAndType 51 52), (0, u "empty"), (0, u "()Ljava/util/Optional;"), (19, u "fromJsonName"), (0, u "(Ljava/lang/String;)Ljava/util/Optional;"), (8, .class_ 83), (0, u "com/example/assay/assay/config/TlsClient")] 2

def k12c0 : Code := { maxStack := 1, maxLocals := 0, code := prog_25_method_1_code, exceptionTable := #[], attributes := #[] }
def k12m0 : Method := { name := "values", desc := "()[Lcom/example/assay/assay/config/TlsClient$Role;", sig := { parameters := [], returnType := some (.array (.object "com/example/assay/assay/config/TlsClient$Role")) }, accessFlags := 9, code := some k12c0 }
def k12c1 : Code := { maxStack := 2, maxLocals := 5, code := prog_25_method_5_code, exceptionTable := #[], attributes := #[] }
def k12m1 : Method := { name := "fromJsonName", desc := "(Ljava/lang/String;)Ljava/util/Optional;", sig := { parameters := [(.object "java/lang/String")], returnType := some (.object "java/util/Optional") }, accessFlags := 9, code := some k12c1 }
/-- com/example/assay/assay/config/TlsClient$Role -/
def k12 : Class := { plain "com/example/assay/assay/config/TlsClient$Role" (some 11) with
  accessFlags := 16433
  interfaces := #[]
  cf := some (fileOf pool12 1 #[.nestHost 82] #[{ accessFlags := 9, nameIndex := 35, descriptorIndex := 36, attributes := #[] }, { accessFlags := 9, nameIndex := 72, descriptorIndex := 73, attributes := #[] }] 16433 20 #[] #[{ accessFlags := 16409, nameIndex := 5, descriptorIndex := 6, attributes := #[] }, { accessFlags := 16409, nameIndex := 9, descriptorIndex := 6, attributes := #[] }, { accessFlags := 18, nameIndex := 31, descriptorIndex := 32, attributes := #[] }, { accessFlags := 4122, nameIndex := 12, descriptorIndex := 13, attributes := #[] }])
  fields := #[{ name := "MONITORING", type := (.object "com/example/assay/assay/config/TlsClient$Role"), accessFlags := 16409, slot := 0, constantValue := 0 }, { name := "ABUSE_REPORTS", type := (.object "com/example/assay/assay/config/TlsClient$Role"), accessFlags := 16409, slot := 1, constantValue := 0 }, { name := "jsonName", type := (.object "java/lang/String"), accessFlags := 18, slot := 3, constantValue := 0 }, { name := "$VALUES", type := (.array (.object "com/example/assay/assay/config/TlsClient$Role")), accessFlags := 4122, slot := 2, constantValue := 0 }]
  methods := #[k12m0, k12m1]
  instanceTypes := #[(.object "java/lang/String"), .int, .int, (.object "java/lang/String")]
  staticTypes := #[(.object "com/example/assay/assay/config/TlsClient$Role"), (.object "com/example/assay/assay/config/TlsClient$Role"), (.array (.object "com/example/assay/assay/config/TlsClient$Role"))]
  resolved := Array.replicate 86 none
  statics := some 2 }

def pool13 : Array CpInfo := pool [(1, .class_ 2), (0, u "java/lang/Cloneable"), (0, .class_ 4), (0, u "java/lang/Object")] 2

/-- java/lang/Cloneable -/
def k13 : Class := { plain "java/lang/Cloneable" (some 0) with
  accessFlags := 1537
  interfaces := #[]
  cf := some (fileOf pool13 1 #[] #[] 1537 3 #[] #[])
  fields := #[]
  methods := #[]
  instanceTypes := #[]
  staticTypes := #[]
  resolved := Array.replicate 7 none
  statics := none }

def pool14 : Array CpInfo := pool [(1, .fieldref 2 3), (0, .class_ 4), (0, .nameAndType 5 6), (0, u "java/util/Optional"), (0, u "EMPTY"), (0, u "Ljava/util/Optional;"), (0, .methodref 8 9), (0, .class_ 10), (0, .nameAndType 11 12), (0, u "java/lang/Object"), (0, u "<init>"), (0, u "()V"), (0, .fieldref 2 14), (0, .nameAndType 15 16), (0, u "value"), (0, u "Ljava/lang/Object;"), (0, .methodref 18 19), (0, .class_ 20), (0, .nameAndType 21 22), (0, u "java/util/Objects"), (0, u "requireNonNull"), (0, u "(Ljava/lang/Object;)Ljava/lang/Object;"), (0, .methodref 2 24), (0, .nameAndType 11 25), (0, u "(Ljava/lang/Object;)V"), (29, u "empty"), (0, u "()Ljava/util/Optional;"), (8, u "(Ljava/lang/Object;)Ljava/util/Optional;"), (16, u "of"), (82, u "orElse")] 21

def k14c0 : Code := { maxStack := 1, maxLocals := 1, code := jdk_32_method_1_code, exceptionTable := #[], attributes := #[] }
def k14m0 : Method := { name := "empty", desc := "()Ljava/util/Optional;", sig := { parameters := [], returnType := some (.object "java/util/Optional") }, accessFlags := 9, code := some k14c0 }
def k14c1 : Code := { maxStack := 2, maxLocals := 2, code := jdk_32_method_2_code, exceptionTable := #[], attributes := #[] }
def k14m1 : Method := { name := "<init>", desc := "(Ljava/lang/Object;)V", sig := { parameters := [(.object "java/lang/Object")], returnType := none }, accessFlags := 2, code := some k14c1 }
def k14c2 : Code := { maxStack := 3, maxLocals := 1, code := jdk_32_method_3_code, exceptionTable := #[], attributes := #[] }
def k14m2 : Method := { name := "of", desc := "(Ljava/lang/Object;)Ljava/util/Optional;", sig := { parameters := [(.object "java/lang/Object")], returnType := some (.object "java/util/Optional") }, accessFlags := 9, code := some k14c2 }
def k14c3 : Code := { maxStack := 1, maxLocals := 2, code := jdk_32_method_15_code, exceptionTable := #[], attributes := #[] }
def k14m3 : Method := { name := "orElse", desc := "(Ljava/lang/Object;)Ljava/lang/Object;", sig := { parameters := [(.object "java/lang/Object")], returnType := some (.object "java/lang/Object") }, accessFlags := 1, code := some k14c3 }
/-- java/util/Optional -/
def k14 : Class := { plain "java/util/Optional" (some 0) with
  accessFlags := 49
  interfaces := #[]
  cf := some (fileOf pool14 2 #[] #[{ accessFlags := 9, nameIndex := 55, descriptorIndex := 56, attributes := #[] }, { accessFlags := 2, nameIndex := 11, descriptorIndex := 25, attributes := #[] }, { accessFlags := 9, nameIndex := 82, descriptorIndex := 65, attributes := #[] }, { accessFlags := 1, nameIndex := 165, descriptorIndex := 22, attributes := #[] }] 49 8 #[] #[{ accessFlags := 26, nameIndex := 5, descriptorIndex := 6, attributes := #[] }, { accessFlags := 18, nameIndex := 15, descriptorIndex := 16, attributes := #[] }])
  fields := #[{ name := "EMPTY", type := (.object "java/util/Optional"), accessFlags := 26, slot := 0, constantValue := 0 }, { name := "value", type := (.object "java/lang/Object"), accessFlags := 18, slot := 0, constantValue := 0 }]
  methods := #[k14m0, k14m1, k14m2, k14m3]
  instanceTypes := #[(.object "java/lang/Object")]
  staticTypes := #[(.object "java/util/Optional")]
  resolved := Array.replicate 187 none
  statics := some 3 }

def pool15 : Array CpInfo := pool [(2, .class_ 4), (1, u "java/lang/Object"), (0, u "<init>"), (0, u "()V"), (35, .class_ 44), (1, u "java/util/Objects"), (0, u "requireNonNull"), (0, u "(Ljava/lang/Object;)Ljava/lang/Object;")] 137

def k15m0 : Method := { name := "<init>", desc := "()V", sig := { parameters := [], returnType := none }, accessFlags := 2, code := none }
def k15c1 : Code := { maxStack := 2, maxLocals := 1, code := jdk_31_method_10_code, exceptionTable := #[], attributes := #[] }
def k15m1 : Method := { name := "requireNonNull", desc := "(Ljava/lang/Object;)Ljava/lang/Object;", sig := { parameters := [(.object "java/lang/Object")], returnType := some (.object "java/lang/Object") }, accessFlags := 9, code := some k15c1 }
/-- java/util/Objects -/
def k15 : Class := { plain "java/util/Objects" (some 0) with
  accessFlags := 49
  interfaces := #[]
  cf := some (fileOf pool15 42 #[] #[{ accessFlags := 2, nameIndex := 5, descriptorIndex := 6, attributes := #[] }, { accessFlags := 9, nameIndex := 45, descriptorIndex := 46, attributes := #[] }] 49 2 #[] #[])
  fields := #[]
  methods := #[k15m0, k15m1]
  instanceTypes := #[]
  staticTypes := #[]
  resolved := Array.replicate 184 none
  statics := none }

def pool16 : Array CpInfo := pool [(9, u "<init>"), (6, .class_ 18), (1, u "java/lang/Object"), (0, u "()V"), (1, .class_ 23), (1, u "jdk/internal/util/ArraysSupport"), (0, u "LOG2_ARRAY_LONG_INDEX_SCALE"), (0, u "I"), (2, u "U"), (0, u "Ljdk/internal/misc/Unsafe;"), (8, u "BIG_ENDIAN"), (0, u "Z"), (8, u "LOG2_BYTE_BIT_SIZE"), (4, u "LOG2_ARRAY_INT_INDEX_SCALE"), (54, u "JLA"), (0, u "Ljdk/internal/access/JavaLangAccess;"), (11, u "LOG2_ARRAY_BOOLEAN_INDEX_SCALE"), (9, u "LOG2_ARRAY_BYTE_INDEX_SCALE"), (5, u "LOG2_ARRAY_CHAR_INDEX_SCALE"), (5, u "LOG2_ARRAY_SHORT_INDEX_SCALE"), (18, u "LOG2_ARRAY_FLOAT_INDEX_SCALE"), (24, u "LOG2_ARRAY_DOUBLE_INDEX_SCALE"), (89, u "T_BOOLEAN"), (2, u "T_CHAR"), (1, u "T_FLOAT"), (1, u "T_DOUBLE"), (1, u "T_BYTE"), (1, u "T_SHORT"), (1, u "T_INT"), (1, u "T_LONG"), (1, u "SOFT_MAX_ARRAY_LENGTH")] 83

def k16m0 : Method := { name := "<init>", desc := "()V", sig := { parameters := [], returnType := none }, accessFlags := 2, code := none }
/-- jdk/internal/util/ArraysSupport -/
def k16 : Class := { plain "jdk/internal/util/ArraysSupport" (some 0) with
  accessFlags := 33
  interfaces := #[]
  cf := some (fileOf pool16 21 #[] #[{ accessFlags := 2, nameIndex := 9, descriptorIndex := 19, attributes := #[] }] 33 16 #[] #[{ accessFlags := 24, nameIndex := 28, descriptorIndex := 29, attributes := #[] }, { accessFlags := 26, nameIndex := 38, descriptorIndex := 39, attributes := #[] }, { accessFlags := 25, nameIndex := 121, descriptorIndex := 25, attributes := #[] }, { accessFlags := 25, nameIndex := 131, descriptorIndex := 25, attributes := #[] }, { accessFlags := 25, nameIndex := 137, descriptorIndex := 25, attributes := #[] }, { accessFlags := 25, nameIndex := 143, descriptorIndex := 25, attributes := #[] }, { accessFlags := 25, nameIndex := 53, descriptorIndex := 25, attributes := #[] }, { accessFlags := 25, nameIndex := 24, descriptorIndex := 25, attributes := #[] }, { accessFlags := 25, nameIndex := 162, descriptorIndex := 25, attributes := #[] }, { accessFlags := 25, nameIndex := 187, descriptorIndex := 25, attributes := #[] }, { accessFlags := 26, nameIndex := 48, descriptorIndex := 25, attributes := #[] }, { accessFlags := 25, nameIndex := 277, descriptorIndex := 25, attributes := #[] }, { accessFlags := 25, nameIndex := 280, descriptorIndex := 25, attributes := #[] }, { accessFlags := 25, nameIndex := 282, descriptorIndex := 25, attributes := #[] }, { accessFlags := 25, nameIndex := 284, descriptorIndex := 25, attributes := #[] }, { accessFlags := 25, nameIndex := 286, descriptorIndex := 25, attributes := #[] }, { accessFlags := 25, nameIndex := 288, descriptorIndex := 25, attributes := #[] }, { accessFlags := 25, nameIndex := 290, descriptorIndex := 25, attributes := #[] }, { accessFlags := 25, nameIndex := 292, descriptorIndex := 25, attributes := #[] }, { accessFlags := 26, nameIndex := 108, descriptorIndex := 109, attributes := #[] }, { accessFlags := 25, nameIndex := 294, descriptorIndex := 25, attributes := #[] }])
  fields := #[{ name := "U", type := (.object "jdk/internal/misc/Unsafe"), accessFlags := 24, slot := 0, constantValue := 0 }, { name := "BIG_ENDIAN", type := .boolean, accessFlags := 26, slot := 1, constantValue := 0 }, { name := "LOG2_ARRAY_BOOLEAN_INDEX_SCALE", type := .int, accessFlags := 25, slot := 2, constantValue := 0 }, { name := "LOG2_ARRAY_BYTE_INDEX_SCALE", type := .int, accessFlags := 25, slot := 3, constantValue := 0 }, { name := "LOG2_ARRAY_CHAR_INDEX_SCALE", type := .int, accessFlags := 25, slot := 4, constantValue := 0 }, { name := "LOG2_ARRAY_SHORT_INDEX_SCALE", type := .int, accessFlags := 25, slot := 5, constantValue := 0 }, { name := "LOG2_ARRAY_INT_INDEX_SCALE", type := .int, accessFlags := 25, slot := 6, constantValue := 0 }, { name := "LOG2_ARRAY_LONG_INDEX_SCALE", type := .int, accessFlags := 25, slot := 7, constantValue := 0 }, { name := "LOG2_ARRAY_FLOAT_INDEX_SCALE", type := .int, accessFlags := 25, slot := 8, constantValue := 0 }, { name := "LOG2_ARRAY_DOUBLE_INDEX_SCALE", type := .int, accessFlags := 25, slot := 9, constantValue := 0 }, { name := "LOG2_BYTE_BIT_SIZE", type := .int, accessFlags := 26, slot := 10, constantValue := 0 }, { name := "T_BOOLEAN", type := .int, accessFlags := 25, slot := 11, constantValue := 0 }, { name := "T_CHAR", type := .int, accessFlags := 25, slot := 12, constantValue := 0 }, { name := "T_FLOAT", type := .int, accessFlags := 25, slot := 13, constantValue := 0 }, { name := "T_DOUBLE", type := .int, accessFlags := 25, slot := 14, constantValue := 0 }, { name := "T_BYTE", type := .int, accessFlags := 25, slot := 15, constantValue := 0 }, { name := "T_SHORT", type := .int, accessFlags := 25, slot := 16, constantValue := 0 }, { name := "T_INT", type := .int, accessFlags := 25, slot := 17, constantValue := 0 }, { name := "T_LONG", type := .int, accessFlags := 25, slot := 18, constantValue := 0 }, { name := "JLA", type := (.object "jdk/internal/access/JavaLangAccess"), accessFlags := 26, slot := 19, constantValue := 0 }, { name := "SOFT_MAX_ARRAY_LENGTH", type := .int, accessFlags := 25, slot := 20, constantValue := 0 }]
  methods := #[k16m0]
  instanceTypes := #[]
  staticTypes := #[(.object "jdk/internal/misc/Unsafe"), .boolean, .int, .int, .int, .int, .int, .int, .int, .int, .int, .int, .int, .int, .int, .int, .int, .int, .int, (.object "jdk/internal/access/JavaLangAccess"), .int]
  resolved := Array.replicate 378 none
  statics := none }

/-- the primitive byte -/
def k17 : Class := { plain "byte" none with kind := .primitive 'B', accessFlags := 0x411 }
/-- [B -/
def k18 : Class := { plain "[B" (some 0) with kind := .array 17 .byte, interfaces := #[13, 2], accessFlags := 1041 }

/-- the primitive char -/
def k19 : Class := { plain "char" none with kind := .primitive 'C', accessFlags := 0x411 }
/-- [C -/
def k20 : Class := { plain "[C" (some 0) with kind := .array 19 .char, interfaces := #[13, 2], accessFlags := 1041 }

/-- the primitive int -/
def k21 : Class := { plain "int" none with kind := .primitive 'I', accessFlags := 0x411 }
/-- [I -/
def k22 : Class := { plain "[I" (some 0) with kind := .array 21 .int, interfaces := #[13, 2], accessFlags := 1041 }

/-- [Lcom/example/assay/assay/config/TlsClient$Role; -/
def k23 : Class := { plain "[Lcom/example/assay/assay/config/TlsClient$Role;" (some 0) with kind := .array 12 (.object "com/example/assay/assay/config/TlsClient$Role"), interfaces := #[13, 2], accessFlags := 1041 }

def heap : Heap := #[{ cls := 7, slots := #[.long 0, .int 1, .null, .int 0, .null, .int 0, .int 0], vm := .statics 7 },
  { cls := 9, slots := #[.null, .null, .null], vm := .statics 9 },
  { cls := 12, slots := #[.ref 5, .ref 6, .ref 4], vm := .statics 12 },
  { cls := 14, slots := #[.ref 11], vm := .statics 14 },
  { cls := 23, slots := #[.ref 5, .ref 6], vm := .none },
  { cls := 12, slots := #[.null, .int 0, .int 0, .ref 7], vm := .none },
  { cls := 12, slots := #[.null, .int 1, .int 0, .ref 8], vm := .none },
  { cls := 7, slots := #[.ref 9, .int 0, .int 0, .int 0], vm := .none },
  { cls := 7, slots := #[.ref 10, .int 0, .int 0, .int 0], vm := .none },
  { cls := 18, slots := #[.int 109, .int 111, .int 110, .int 105, .int 116, .int 111, .int 114, .int 105, .int 110, .int 103], vm := .none },
  { cls := 18, slots := #[.int 97, .int 98, .int 117, .int 115, .int 101, .int 82, .int 101, .int 112, .int 111, .int 114, .int 116, .int 115], vm := .none },
  { cls := 14, slots := #[.null], vm := .none }]
def classes : Array Class := #[k0, k1, k2, k3, k4, k5, k6, k7, k8, k9, k10, k11, k12, k13, k14, k15, k16, k17, k18, k19, k20, k21, k22, k23]
def interned : List (Array UInt16 × Addr) := []
def slotsUsed : Nat := 55
def theMethod : MethodId := ⟨1, 3⟩
def args0 : Array Value := #[.int 5, .int 7, .int 3, .int 4]
def aboutOver (below : List Frame) : State where
  vm := { classes := classes, interned := interned.toArray }
  heap := heap
  slotsUsed := slotsUsed
  threads := #[{ frames := .invoking theMethod args0 :: below }]
def below0 : List Frame := [.native { method := ⟨0, 0⟩, args := #[] }]
def about1 : State := aboutOver below0
def p0 : Program := .bare "" "" ""
def e0 : Env := launch0.env 0 0 0
theorem w_frames : about1.frames = Frame.invoking theMethod args0 :: below0 := rfl
set_option maxRecDepth 65536 in
theorem w_args : argsFit about1.vm theMethod args0 = true := by decide +kernel
set_option maxRecDepth 65536 in
theorem w_heap : heapFits about1 = true := by decide +kernel
set_option maxRecDepth 65536 in
theorem w_runnable : about1.curStatus? = some .runnable := by decide +kernel
set_option maxRecDepth 65536 in
theorem w_alone : about1.alone = true := by decide +kernel
set_option maxRecDepth 65536 in
theorem w_named : about1.methodNamed? x = some theMethod := by decide +kernel
set_option maxRecDepth 65536 in
theorem w_hears : about1.hears theMethod below0 = true := by decide +kernel
set_option maxRecDepth 65536 in
theorem w_ripe : about1.ripe theMethod args0 below0 = true := by decide +kernel
theorem w_running : about1.status = .running := rfl
set_option maxRecDepth 65536 in
theorem w_room : about1.hasRoom e0.platform room_1 = true :=
  launch0.hasRoom_least _ room_1 (by decide +kernel) (by decide +kernel) (by decide +kernel) (by decide +kernel) (by decide +kernel) (by decide +kernel)
theorem allAtoms_all (ts : List Jvm.Cond) (a : Array Jvm.Value) (st : Jvm.State) : (allAtoms ts).before a st = ts.all (fun c => c.before a st) := by
  induction ts with
  | nil => rfl
  | cons c t ih =>
    show (Jvm.Cond.and c (allAtoms t)).before a st = _
    rw [Jvm.Cond.before_and, ih, List.all_cons]
def words1 : List Jvm.Cond := Jvm.Cond.code x code maxLocals ret :: tables_1
/-- a 'code' word, met by the world's own term for the bytes: nothing is compared byte by byte -/
theorem code_word {y : MethodName} {bytes : ByteArray} {mx : Nat} {rt : Option FieldType} {a : Array Value} {s : State} {m : MethodId} {meth : Method} {c : Code} (h1 : s.methodNamed? y = some m) (h2 : s.vm.method? m = some meth) (h3 : meth.code = some c) (h4 : c.code = bytes)
    (h5 : (c.maxLocals == mx && c.exceptionTable.isEmpty && decide (c.maxStack ≤ mostOperands) && decide (meth.sig.returnType = rt) && !meth.locks && decide (parseMethodDescriptor y.desc = some meth.sig)) = true) : (Jvm.Cond.code y bytes mx rt).before a s = true := by
  simp only [Bool.and_eq_true, beq_iff_eq, Bool.not_eq_true', decide_eq_true_eq] at h5
  obtain ⟨⟨⟨⟨⟨g1, g2⟩, g3⟩, g4⟩, g5⟩, g6⟩ := h5
  simp [Cond.before, Cond.holds, Cond.value, h1, h2, h3, h4, g1, g2, g3, g4, g5, g6]
def isCode : Jvm.Cond → Bool
  | .code _ _ _ _ => true
  | _ => false
theorem all_split {L : List Jvm.Cond} {P : Jvm.Cond → Bool} (h1 : L.all (fun c => isCode c || P c) = true) (h2 : ∀ c ∈ L.filter isCode, P c = true) : L.all P = true := by
  refine List.all_eq_true.mpr fun c hc => ?_
  have h := List.all_eq_true.mp h1 c hc
  rcases Bool.eq_false_or_eq_true (isCode c) with hi | hi
  · exact h2 c (List.mem_filter.mpr ⟨hc, hi⟩)
  · simpa [hi] using h
set_option maxRecDepth 65536 in
theorem w_c0 : (Jvm.Cond.code x code maxLocals ret).before args0 about1 = true := code_word (m := ⟨1, 3⟩) (meth := k1m3) (c := k1c3) (by decide +kernel) rfl rfl rfl (by decide +kernel)
set_option maxRecDepth 65536 in
theorem w_c1 : (Jvm.Cond.code ({ cls := "com/example/assay/assay/config/RoleFromJsonNamePinLaw", name := "mk", desc := "(Ljava/lang/String;ICI)Ljava/lang/String;" } : Jvm.MethodName) method_3_code (4 : Nat) (Option.some (Jvm.ClassFile.FieldType.object "java/lang/String"))).before args0 about1 = true := code_word (m := ⟨1, 2⟩) (meth := k1m2) (c := k1c2) (by decide +kernel) rfl rfl rfl (by decide +kernel)
set_option maxRecDepth 65536 in
theorem w_c2 : (Jvm.Cond.code ({ cls := "com/example/assay/assay/config/RoleFromJsonNamePinLaw", name := "at", desc := "(Ljava/lang/String;IIC)C" } : Jvm.MethodName) method_2_code (4 : Nat) (Option.some Jvm.ClassFile.FieldType.char)).before args0 about1 = true := code_word (m := ⟨1, 1⟩) (meth := k1m1) (c := k1c1) (by decide +kernel) rfl rfl rfl (by decide +kernel)
set_option maxRecDepth 65536 in
theorem w_c3 : (Jvm.Cond.code ({ cls := "java/lang/String", name := "length", desc := "()I" } : Jvm.MethodName) jdk_42_method_54_code (1 : Nat) (Option.some Jvm.ClassFile.FieldType.int)).before args0 about1 = true := code_word (m := ⟨7, 2⟩) (meth := k7m2) (c := k7c2) (by decide +kernel) rfl rfl rfl (by decide +kernel)
set_option maxRecDepth 65536 in
theorem w_c4 : (Jvm.Cond.code ({ cls := "java/lang/String", name := "coder", desc := "()B" } : Jvm.MethodName) jdk_42_method_152_code (1 : Nat) (Option.some Jvm.ClassFile.FieldType.byte)).before args0 about1 = true := code_word (m := ⟨7, 8⟩) (meth := k7m8) (c := k7c8) (by decide +kernel) rfl rfl rfl (by decide +kernel)
set_option maxRecDepth 65536 in
theorem w_c5 : (Jvm.Cond.code ({ cls := "java/lang/String", name := "charAt", desc := "(I)C" } : Jvm.MethodName) jdk_42_method_56_code (2 : Nat) (Option.some Jvm.ClassFile.FieldType.char)).before args0 about1 = true := code_word (m := ⟨7, 3⟩) (meth := k7m3) (c := k7c3) (by decide +kernel) rfl rfl rfl (by decide +kernel)
set_option maxRecDepth 65536 in
theorem w_c6 : (Jvm.Cond.code ({ cls := "java/lang/String", name := "isLatin1", desc := "()Z" } : Jvm.MethodName) jdk_42_method_154_code (1 : Nat) (Option.some Jvm.ClassFile.FieldType.boolean)).before args0 about1 = true := code_word (m := ⟨7, 9⟩) (meth := k7m9) (c := k7c9) (by decide +kernel) rfl rfl rfl (by decide +kernel)
set_option maxRecDepth 65536 in
theorem w_c7 : (Jvm.Cond.code ({ cls := "java/lang/StringLatin1", name := "charAt", desc := "([BI)C" } : Jvm.MethodName) jdk_43_method_2_code (2 : Nat) (Option.some Jvm.ClassFile.FieldType.char)).before args0 about1 = true := code_word (m := ⟨8, 1⟩) (meth := k8m1) (c := k8c1) (by decide +kernel) rfl rfl rfl (by decide +kernel)
set_option maxRecDepth 65536 in
theorem w_c8 : (Jvm.Cond.code ({ cls := "java/lang/String", name := "checkIndex", desc := "(II)V" } : Jvm.MethodName) jdk_42_method_155_code (2 : Nat) (Option.none : Option Jvm.ClassFile.FieldType)).before args0 about1 = true := code_word (m := ⟨7, 10⟩) (meth := k7m10) (c := k7c10) (by decide +kernel) rfl rfl rfl (by decide +kernel)
set_option maxRecDepth 65536 in
theorem w_c9 : (Jvm.Cond.code ({ cls := "jdk/internal/util/Preconditions", name := "checkIndex", desc := "(IILjava/util/function/BiFunction;)I" } : Jvm.MethodName) jdk_41_method_11_code (3 : Nat) (Option.some Jvm.ClassFile.FieldType.int)).before args0 about1 = true := code_word (m := ⟨9, 1⟩) (meth := k9m1) (c := k9c1) (by decide +kernel) rfl rfl rfl (by decide +kernel)
set_option maxRecDepth 65536 in
theorem w_c10 : (Jvm.Cond.code ({ cls := "java/lang/String", name := "<init>", desc := "([C)V" } : Jvm.MethodName) jdk_42_method_3_code (2 : Nat) (Option.none : Option Jvm.ClassFile.FieldType)).before args0 about1 = true := code_word (m := ⟨7, 1⟩) (meth := k7m1) (c := k7c1) (by decide +kernel) rfl rfl rfl (by decide +kernel)
set_option maxRecDepth 65536 in
theorem w_c11 : (Jvm.Cond.code ({ cls := "java/lang/String", name := "<init>", desc := "([CIILjava/lang/Void;)V" } : Jvm.MethodName) jdk_42_method_149_code (6 : Nat) (Option.none : Option Jvm.ClassFile.FieldType)).before args0 about1 = true := code_word (m := ⟨7, 6⟩) (meth := k7m6) (c := k7c6) (by decide +kernel) rfl rfl rfl (by decide +kernel)
set_option maxRecDepth 65536 in
theorem w_c12 : (Jvm.Cond.code ({ cls := "java/lang/Object", name := "<init>", desc := "()V" } : Jvm.MethodName) object_method_1_code (1 : Nat) (Option.none : Option Jvm.ClassFile.FieldType)).before args0 about1 = true := code_word (m := ⟨0, 0⟩) (meth := k0m0) (c := k0c0) (by decide +kernel) rfl rfl rfl (by decide +kernel)
set_option maxRecDepth 65536 in
theorem w_c13 : (Jvm.Cond.code ({ cls := "java/lang/StringUTF16", name := "compress", desc := "([CII)[B" } : Jvm.MethodName) jdk_52_method_16_code (6 : Nat) (Option.some (Jvm.ClassFile.FieldType.array Jvm.ClassFile.FieldType.byte))).before args0 about1 = true := code_word (m := ⟨10, 2⟩) (meth := k10m2) (c := k10c2) (by decide +kernel) rfl rfl rfl (by decide +kernel)
set_option maxRecDepth 65536 in
theorem w_c14 : (Jvm.Cond.code ({ cls := "java/lang/StringUTF16", name := "compress", desc := "([CI[BII)I" } : Jvm.MethodName) jdk_52_method_21_code (7 : Nat) (Option.some Jvm.ClassFile.FieldType.int)).before args0 about1 = true := code_word (m := ⟨10, 3⟩) (meth := k10m3) (c := k10c3) (by decide +kernel) rfl rfl rfl (by decide +kernel)
set_option maxRecDepth 65536 in
theorem w_c15 : (Jvm.Cond.code ({ cls := "java/lang/StringUTF16", name := "coderFromArrayLen", desc := "([BI)B" } : Jvm.MethodName) jdk_52_method_15_code (2 : Nat) (Option.some Jvm.ClassFile.FieldType.byte)).before args0 about1 = true := code_word (m := ⟨10, 1⟩) (meth := k10m1) (c := k10c1) (by decide +kernel) rfl rfl rfl (by decide +kernel)
set_option maxRecDepth 65536 in
theorem w_c16 : (Jvm.Cond.code ({ cls := "com/example/assay/assay/config/TlsClient$Role", name := "fromJsonName", desc := "(Ljava/lang/String;)Ljava/util/Optional;" } : Jvm.MethodName) prog_25_method_5_code (5 : Nat) (Option.some (Jvm.ClassFile.FieldType.object "java/util/Optional"))).before args0 about1 = true := code_word (m := ⟨12, 1⟩) (meth := k12m1) (c := k12c1) (by decide +kernel) rfl rfl rfl (by decide +kernel)
set_option maxRecDepth 65536 in
theorem w_c17 : (Jvm.Cond.code ({ cls := "com/example/assay/assay/config/TlsClient$Role", name := "values", desc := "()[Lcom/example/assay/assay/config/TlsClient$Role;" } : Jvm.MethodName) prog_25_method_1_code (0 : Nat) (Option.some (Jvm.ClassFile.FieldType.array (Jvm.ClassFile.FieldType.object "com/example/assay/assay/config/TlsClient$Role")))).before args0 about1 = true := code_word (m := ⟨12, 0⟩) (meth := k12m0) (c := k12c0) (by decide +kernel) rfl rfl rfl (by decide +kernel)
set_option maxRecDepth 65536 in
theorem w_c18 : (Jvm.Cond.code ({ cls := "java/lang/String", name := "equals", desc := "(Ljava/lang/Object;)Z" } : Jvm.MethodName) jdk_42_method_66_code (3 : Nat) (Option.some Jvm.ClassFile.FieldType.boolean)).before args0 about1 = true := code_word (m := ⟨7, 4⟩) (meth := k7m4) (c := k7c4) (by decide +kernel) rfl rfl rfl (by decide +kernel)
set_option maxRecDepth 65536 in
theorem w_c19 : (Jvm.Cond.code ({ cls := "java/lang/StringLatin1", name := "equals", desc := "([B[B)Z" } : Jvm.MethodName) jdk_43_method_13_code (3 : Nat) (Option.some Jvm.ClassFile.FieldType.boolean)).before args0 about1 = true := code_word (m := ⟨8, 3⟩) (meth := k8m3) (c := k8c3) (by decide +kernel) rfl rfl rfl (by decide +kernel)
set_option maxRecDepth 65536 in
theorem w_c20 : (Jvm.Cond.code ({ cls := "java/util/Optional", name := "empty", desc := "()Ljava/util/Optional;" } : Jvm.MethodName) jdk_32_method_1_code (1 : Nat) (Option.some (Jvm.ClassFile.FieldType.object "java/util/Optional"))).before args0 about1 = true := code_word (m := ⟨14, 0⟩) (meth := k14m0) (c := k14c0) (by decide +kernel) rfl rfl rfl (by decide +kernel)
set_option maxRecDepth 65536 in
theorem w_c21 : (Jvm.Cond.code ({ cls := "java/util/Optional", name := "orElse", desc := "(Ljava/lang/Object;)Ljava/lang/Object;" } : Jvm.MethodName) jdk_32_method_15_code (2 : Nat) (Option.some (Jvm.ClassFile.FieldType.object "java/lang/Object"))).before args0 about1 = true := code_word (m := ⟨14, 3⟩) (meth := k14m3) (c := k14c3) (by decide +kernel) rfl rfl rfl (by decide +kernel)
set_option maxRecDepth 65536 in
theorem w_c22 : (Jvm.Cond.code ({ cls := "java/util/Optional", name := "of", desc := "(Ljava/lang/Object;)Ljava/util/Optional;" } : Jvm.MethodName) jdk_32_method_3_code (1 : Nat) (Option.some (Jvm.ClassFile.FieldType.object "java/util/Optional"))).before args0 about1 = true := code_word (m := ⟨14, 2⟩) (meth := k14m2) (c := k14c2) (by decide +kernel) rfl rfl rfl (by decide +kernel)
set_option maxRecDepth 65536 in
theorem w_c23 : (Jvm.Cond.code ({ cls := "java/util/Objects", name := "requireNonNull", desc := "(Ljava/lang/Object;)Ljava/lang/Object;" } : Jvm.MethodName) jdk_31_method_10_code (1 : Nat) (Option.some (Jvm.ClassFile.FieldType.object "java/lang/Object"))).before args0 about1 = true := code_word (m := ⟨15, 1⟩) (meth := k15m1) (c := k15c1) (by decide +kernel) rfl rfl rfl (by decide +kernel)
set_option maxRecDepth 65536 in
theorem w_c24 : (Jvm.Cond.code ({ cls := "java/util/Optional", name := "<init>", desc := "(Ljava/lang/Object;)V" } : Jvm.MethodName) jdk_32_method_2_code (2 : Nat) (Option.none : Option Jvm.ClassFile.FieldType)).before args0 about1 = true := code_word (m := ⟨14, 1⟩) (meth := k14m1) (c := k14c1) (by decide +kernel) rfl rfl rfl (by decide +kernel)
set_option maxRecDepth 65536 in
theorem w_c25 : (Jvm.Cond.code ({ cls := "java/lang/String", name := "valueOf", desc := "(C)Ljava/lang/String;" } : Jvm.MethodName) jdk_42_method_139_code (1 : Nat) (Option.some (Jvm.ClassFile.FieldType.object "java/lang/String"))).before args0 about1 = true := code_word (m := ⟨7, 5⟩) (meth := k7m5) (c := k7c5) (by decide +kernel) rfl rfl rfl (by decide +kernel)
set_option maxRecDepth 65536 in
theorem w_c26 : (Jvm.Cond.code ({ cls := "java/lang/StringLatin1", name := "canEncode", desc := "(C)Z" } : Jvm.MethodName) jdk_43_method_3_code (1 : Nat) (Option.some Jvm.ClassFile.FieldType.boolean)).before args0 about1 = true := code_word (m := ⟨8, 2⟩) (meth := k8m2) (c := k8c2) (by decide +kernel) rfl rfl rfl (by decide +kernel)
set_option maxRecDepth 65536 in
theorem w_c27 : (Jvm.Cond.code ({ cls := "java/lang/StringLatin1", name := "toBytes", desc := "(C)[B" } : Jvm.MethodName) jdk_43_method_46_code (1 : Nat) (Option.some (Jvm.ClassFile.FieldType.array Jvm.ClassFile.FieldType.byte))).before args0 about1 = true := code_word (m := ⟨8, 4⟩) (meth := k8m4) (c := k8c4) (by decide +kernel) rfl rfl rfl (by decide +kernel)
set_option maxRecDepth 65536 in
theorem w_c28 : (Jvm.Cond.code ({ cls := "java/lang/String", name := "<init>", desc := "([BB)V" } : Jvm.MethodName) jdk_42_method_151_code (3 : Nat) (Option.none : Option Jvm.ClassFile.FieldType)).before args0 about1 = true := code_word (m := ⟨7, 7⟩) (meth := k7m7) (c := k7c7) (by decide +kernel) rfl rfl rfl (by decide +kernel)
def codes1 : List Jvm.Cond := [Jvm.Cond.code x code maxLocals ret, Jvm.Cond.code ({ cls := "com/example/assay/assay/config/RoleFromJsonNamePinLaw", name := "mk", desc := "(Ljava/lang/String;ICI)Ljava/lang/String;" } : Jvm.MethodName) method_3_code (4 : Nat) (Option.some (Jvm.ClassFile.FieldType.object "java/lang/String")), Jvm.Cond.code ({ cls := "com/example/assay/assay/config/RoleFromJsonNamePinLaw", name := "at", desc := "(Ljava/lang/String;IIC)C" } : Jvm.MethodName) method_2_code (4 : Nat) (Option.some Jvm.ClassFile.FieldType.char), Jvm.Cond.code ({ cls := "java/lang/String", name := "length", desc := "()I" } : Jvm.MethodName) jdk_42_method_54_code (1 : Nat) (Option.some Jvm.ClassFile.FieldType.int), Jvm.Cond.code ({ cls := "java/lang/String", name := "coder", desc := "()B" } : Jvm.MethodName) jdk_42_method_152_code (1 : Nat) (Option.some Jvm.ClassFile.FieldType.byte), Jvm.Cond.code ({ cls := "java/lang/String", name := "charAt", desc := "(I)C" } : Jvm.MethodName) jdk_42_method_56_code (2 : Nat) (Option.some Jvm.ClassFile.FieldType.char), Jvm.Cond.code ({ cls := "java/lang/String", name := "isLatin1", desc := "()Z" } : Jvm.MethodName) jdk_42_method_154_code (1 : Nat) (Option.some Jvm.ClassFile.FieldType.boolean), Jvm.Cond.code ({ cls := "java/lang/StringLatin1", name := "charAt", desc := "([BI)C" } : Jvm.MethodName) jdk_43_method_2_code (2 : Nat) (Option.some Jvm.ClassFile.FieldType.char), Jvm.Cond.code ({ cls := "java/lang/String", name := "checkIndex", desc := "(II)V" } : Jvm.MethodName) jdk_42_method_155_code (2 : Nat) (Option.none : Option Jvm.ClassFile.FieldType), Jvm.Cond.code ({ cls := "jdk/internal/util/Preconditions", name := "checkIndex", desc := "(IILjava/util/function/BiFunction;)I" } : Jvm.MethodName) jdk_41_method_11_code (3 : Nat) (Option.some Jvm.ClassFile.FieldType.int), Jvm.Cond.code ({ cls := "java/lang/String", name := "<init>", desc := "([C)V" } : Jvm.MethodName) jdk_42_method_3_code (2 : Nat) (Option.none : Option Jvm.ClassFile.FieldType), Jvm.Cond.code ({ cls := "java/lang/String", name := "<init>", desc := "([CIILjava/lang/Void;)V" } : Jvm.MethodName) jdk_42_method_149_code (6 : Nat) (Option.none : Option Jvm.ClassFile.FieldType), Jvm.Cond.code ({ cls := "java/lang/Object", name := "<init>", desc := "()V" } : Jvm.MethodName) object_method_1_code (1 : Nat) (Option.none : Option Jvm.ClassFile.FieldType), Jvm.Cond.code ({ cls := "java/lang/StringUTF16", name := "compress", desc := "([CII)[B" } : Jvm.MethodName) jdk_52_method_16_code (6 : Nat) (Option.some (Jvm.ClassFile.FieldType.array Jvm.ClassFile.FieldType.byte)), Jvm.Cond.code ({ cls := "java/lang/StringUTF16", name := "compress", desc := "([CI[BII)I" } : Jvm.MethodName) jdk_52_method_21_code (7 : Nat) (Option.some Jvm.ClassFile.FieldType.int), Jvm.Cond.code ({ cls := "java/lang/StringUTF16", name := "coderFromArrayLen", desc := "([BI)B" } : Jvm.MethodName) jdk_52_method_15_code (2 : Nat) (Option.some Jvm.ClassFile.FieldType.byte), Jvm.Cond.code ({ cls := "com/example/assay/assay/config/TlsClient$Role", name := "fromJsonName", desc := "(Ljava/lang/String;)Ljava/util/Optional;" } : Jvm.MethodName) prog_25_method_5_code (5 : Nat) (Option.some (Jvm.ClassFile.FieldType.object "java/util/Optional")), Jvm.Cond.code ({ cls := "com/example/assay/assay/config/TlsClient$Role", name := "values", desc := "()[Lcom/example/assay/assay/config/TlsClient$Role;" } : Jvm.MethodName) prog_25_method_1_code (0 : Nat) (Option.some (Jvm.ClassFile.FieldType.array (Jvm.ClassFile.FieldType.object "com/example/assay/assay/config/TlsClient$Role"))), Jvm.Cond.code ({ cls := "java/lang/String", name := "equals", desc := "(Ljava/lang/Object;)Z" } : Jvm.MethodName) jdk_42_method_66_code (3 : Nat) (Option.some Jvm.ClassFile.FieldType.boolean), Jvm.Cond.code ({ cls := "java/lang/StringLatin1", name := "equals", desc := "([B[B)Z" } : Jvm.MethodName) jdk_43_method_13_code (3 : Nat) (Option.some Jvm.ClassFile.FieldType.boolean), Jvm.Cond.code ({ cls := "java/util/Optional", name := "empty", desc := "()Ljava/util/Optional;" } : Jvm.MethodName) jdk_32_method_1_code (1 : Nat) (Option.some (Jvm.ClassFile.FieldType.object "java/util/Optional")), Jvm.Cond.code ({ cls := "java/util/Optional", name := "orElse", desc := "(Ljava/lang/Object;)Ljava/lang/Object;" } : Jvm.MethodName) jdk_32_method_15_code (2 : Nat) (Option.some (Jvm.ClassFile.FieldType.object "java/lang/Object")), Jvm.Cond.code ({ cls := "java/util/Optional", name := "of", desc := "(Ljava/lang/Object;)Ljava/util/Optional;" } : Jvm.MethodName) jdk_32_method_3_code (1 : Nat) (Option.some (Jvm.ClassFile.FieldType.object "java/util/Optional")), Jvm.Cond.code ({ cls := "java/util/Objects", name := "requireNonNull", desc := "(Ljava/lang/Object;)Ljava/lang/Object;" } : Jvm.MethodName) jdk_31_method_10_code (1 : Nat) (Option.some (Jvm.ClassFile.FieldType.object "java/lang/Object")), Jvm.Cond.code ({ cls := "java/util/Optional", name := "<init>", desc := "(Ljava/lang/Object;)V" } : Jvm.MethodName) jdk_32_method_2_code (2 : Nat) (Option.none : Option Jvm.ClassFile.FieldType), Jvm.Cond.code ({ cls := "java/lang/String", name := "valueOf", desc := "(C)Ljava/lang/String;" } : Jvm.MethodName) jdk_42_method_139_code (1 : Nat) (Option.some (Jvm.ClassFile.FieldType.object "java/lang/String")), Jvm.Cond.code ({ cls := "java/lang/StringLatin1", name := "canEncode", desc := "(C)Z" } : Jvm.MethodName) jdk_43_method_3_code (1 : Nat) (Option.some Jvm.ClassFile.FieldType.boolean), Jvm.Cond.code ({ cls := "java/lang/StringLatin1", name := "toBytes", desc := "(C)[B" } : Jvm.MethodName) jdk_43_method_46_code (1 : Nat) (Option.some (Jvm.ClassFile.FieldType.array Jvm.ClassFile.FieldType.byte)), Jvm.Cond.code ({ cls := "java/lang/String", name := "<init>", desc := "([BB)V" } : Jvm.MethodName) jdk_42_method_151_code (3 : Nat) (Option.none : Option Jvm.ClassFile.FieldType)]
set_option maxRecDepth 65536 in
theorem codes_eq : words1.filter isCode = codes1 := rfl
theorem w_codes : ∀ c ∈ words1.filter isCode, c.before args0 about1 = true := by
  rw [codes_eq]
  intro c hc
  simp only [codes1, List.mem_cons, List.not_mem_nil, or_false] at hc
  rcases hc with rfl | rfl | rfl | rfl | rfl | rfl | rfl | rfl | rfl | rfl | rfl | rfl | rfl | rfl | rfl | rfl | rfl | rfl | rfl | rfl | rfl | rfl | rfl | rfl | rfl | rfl | rfl | rfl | rfl
  · exact w_c0
  · exact w_c1
  · exact w_c2
  · exact w_c3
  · exact w_c4
  · exact w_c5
  · exact w_c6
  · exact w_c7
  · exact w_c8
  · exact w_c9
  · exact w_c10
  · exact w_c11
  · exact w_c12
  · exact w_c13
  · exact w_c14
  · exact w_c15
  · exact w_c16
  · exact w_c17
  · exact w_c18
  · exact w_c19
  · exact w_c20
  · exact w_c21
  · exact w_c22
  · exact w_c23
  · exact w_c24
  · exact w_c25
  · exact w_c26
  · exact w_c27
  · exact w_c28
set_option maxRecDepth 65536 in
theorem w_t1 : (words1.take 24).all (fun c => isCode c || c.before args0 about1) = true := by decide +kernel
set_option maxRecDepth 65536 in
theorem w_t2 : ((words1.drop 24).take 24).all (fun c => isCode c || c.before args0 about1) = true := by decide +kernel
set_option maxRecDepth 65536 in
theorem w_t3 : (((words1.drop 24).drop 24).take 24).all (fun c => isCode c || c.before args0 about1) = true := by decide +kernel
set_option maxRecDepth 65536 in
theorem w_t4 : ((((words1.drop 24).drop 24).drop 24).take 24).all (fun c => isCode c || c.before args0 about1) = true := by decide +kernel
set_option maxRecDepth 65536 in
theorem w_t5 : (((((words1.drop 24).drop 24).drop 24).drop 24).take 24).all (fun c => isCode c || c.before args0 about1) = true := by decide +kernel
set_option maxRecDepth 65536 in
theorem w_t6 : ((((((words1.drop 24).drop 24).drop 24).drop 24).drop 24).take 24).all (fun c => isCode c || c.before args0 about1) = true := by decide +kernel
set_option maxRecDepth 65536 in
theorem w_t7 : ((((((words1.drop 24).drop 24).drop 24).drop 24).drop 24).drop 24).all (fun c => isCode c || c.before args0 about1) = true := by decide +kernel
theorem w_tables : (allAtoms (Jvm.Cond.code x code maxLocals ret :: tables_1)).before args0 about1 = true := by
  rw [allAtoms_all]
  show words1.all (fun c => c.before args0 about1) = true
  refine all_split ?_ w_codes
  rw [← List.take_append_drop 24 words1, List.all_append, w_t1, ← List.take_append_drop 24 (words1.drop 24), List.all_append, w_t2, ← List.take_append_drop 24 ((words1.drop 24).drop 24), List.all_append, w_t3, ← List.take_append_drop 24 (((words1.drop 24).drop 24).drop 24), List.all_append, w_t4, ← List.take_append_drop 24 ((((words1.drop 24).drop 24).drop 24).drop 24), List.all_append, w_t5, ← List.take_append_drop 24 (((((words1.drop 24).drop 24).drop 24).drop 24).drop 24), List.all_append, w_t6, w_t7]
  rfl
set_option maxRecDepth 65536 in
theorem w_rest : rest_1_c.before args0 about1 = true := by decide +kernel
set_option maxRecDepth 65536 in
theorem w_case : (Jvm.Cond.and given_1 narrow_1).before args0 about1 = true := by decide +kernel
set_option maxRecDepth 65536 in
theorem w_consts : constsHeld consts_1 about1 := Jvm.Lit.constsHeldB_iff.mp (by decide +kernel)
theorem w_applies : (headSpec (Jvm.Cond.code x code maxLocals ret :: tables_1) room_1).applies x e0.platform about1 = true :=
  (Spec.applies_iff w_frames).mpr ⟨w_running, w_runnable, w_alone, w_named, w_hears, w_ripe, w_room, w_tables⟩
theorem atStart : AtStart classFile x code maxLocals ret World_1 tables_1 room_1 Calls_1 rest_1 Pre_1 launch0 p0 e0 about1 theMethod args0 below0 :=
  ⟨lists_1, trivial, launch0.admits_env _ _ _, launch0.least_env, fairChoices_fair.cas, fairChoices_fair.clock, w_frames, w_args, w_heap, w_applies, ⟨w_consts, trivial⟩, w_rest, w_case⟩
end start1
theorem witness_1 : WitnessClaimed_1 := ⟨start1.p0, start1.e0, start1.about1, start1.theMethod, start1.args0, start1.below0, start1.atStart⟩
end Jvm.Pilot.@@N@@
