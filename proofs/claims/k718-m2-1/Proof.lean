import JvmDerived
import JvmDerived.Pilot.@@N@@Statement
import JvmDerived.Pilot.@@N@@Code
set_option linter.unusedVariables false
set_option linter.unusedSimpArgs false
namespace Jvm.RoadKit
open Sem ClassFile Op Lib Jvm.Stand Jvm.Free Jvm.LawKit
section New
variable {p : Program} {l : Launch} {e : Env} {R : Room} {s : State} {m : MethodId} {args : Array Value} {below : List Frame} {meth : Method} {c : Code} {T : State} {locs : List Loc} {cells slots : Nat}
theorem retI (X : Stand p l e R s m args below meth c T locs cells slots) (hx : p.tables.exec = Jvm.exec) {pc : Nat} {Ls : Array Slot} {z : Int32} {rest : List Value} (hret : meth.sig.returnType = some .int) (hd : decode c.code pc = .ok (.ireturn, 1)) {fs : List Frame}
    (hl : ∀ (f : JFrame) (acts : List Action), f.method = m → f.locked = none → f.entered = [] → (doReturn e (T.setTop f) acts (some (.int z))).1 = T.setFrames fs) : Steps p.tables e below (T.setTop (mkF m pc Ls (.int z :: rest))) (T.setFrames fs) := by
  have hm' : T.vm.method? m = some meth := X.method'
  have hn : narrow .int (.int z) = .int z := rfl
  show Steps p.tables e below (T.setTop { method := m, pc := pc, locals := Ls, stack := _ :: rest, locked := none }) _
  jvm_step X.here [X.here.top, hx, hd, hm', hret, hn]
  first | (intro acts; rw [hl _ acts rfl rfl rfl]) | rw [hl _ _ rfl rfl rfl]
  exact Steps.refl _
end New
end Jvm.RoadKit
namespace Jvm.Pilot.@@N@@
open Jvm Jvm.ClassFile Sem Op Lib Jvm.Free Jvm.Stand Jvm.LawKit Jvm.RoadKit Bundle Jvm.Pilot.@@N@@.Jvm.D
def QP (w : Option Value) (h0 : Heap) (n0 : Nat) (v : Option Value) (h : Heap) (L : List Loc) : Prop := v = w ∧ Fr n0 L ∧ h = h0
section YS
variable {tb : Tables} [Ours tb] {e : Env} {below : List Frame} {T target : State} {m : MethodId} {c : Code} {pc : Nat} {Ls : Array Slot} {S : List Value}
theorem y_iload (h : At T m c below) (hx : tb.exec = Jvm.exec) {k : Nat} {v : Int32} (hd : decode c.code pc = .ok (.iload k, 2)) (hl : Ls[k]? = some (.val (.int v))) (hr : Steps tb e below (T.setTop (mkF m (pc + 2) Ls (.int v :: S))) target) : Steps tb e below (T.setTop (mkF m pc Ls S)) target := XS.iload (g := mkF m pc Ls S) h hx rfl hd hl hr
theorem y_iloadN (h : At T m c below) (hx : tb.exec = Jvm.exec) {k : Fin 4} {v : Int32} (hd : decode c.code pc = .ok (.iload_n k, 1)) (hl : Ls[k.val]? = some (.val (.int v))) (hr : Steps tb e below (T.setTop (mkF m (pc + 1) Ls (.int v :: S))) target) : Steps tb e below (T.setTop (mkF m pc Ls S)) target := XS.iloadN (g := mkF m pc Ls S) h hx rfl hd hl hr
theorem y_lload (h : At T m c below) (hx : tb.exec = Jvm.exec) {k : Nat} {v : Int64} (hd : decode c.code pc = .ok (.lload k, 2)) (hl : Ls[k]? = some (.val (.long v))) (hr : Steps tb e below (T.setTop (mkF m (pc + 2) Ls (.long v :: S))) target) : Steps tb e below (T.setTop (mkF m pc Ls S)) target := XS.lload (g := mkF m pc Ls S) h hx rfl hd hl hr
theorem y_lloadN (h : At T m c below) (hx : tb.exec = Jvm.exec) {k : Fin 4} {v : Int64} (hd : decode c.code pc = .ok (.lload_n k, 1)) (hl : Ls[k.val]? = some (.val (.long v))) (hr : Steps tb e below (T.setTop (mkF m (pc + 1) Ls (.long v :: S))) target) : Steps tb e below (T.setTop (mkF m pc Ls S)) target := XS.lloadN (g := mkF m pc Ls S) h hx rfl hd hl hr
theorem y_aload (h : At T m c below) (hx : tb.exec = Jvm.exec) {k : Nat} {v : Value} (hd : decode c.code pc = .ok (.aload k, 2)) (hl : Ls[k]? = some (.val v)) (hv : v.isRef = true) (hr : Steps tb e below (T.setTop (mkF m (pc + 2) Ls (v :: S))) target) : Steps tb e below (T.setTop (mkF m pc Ls S)) target := XS.aload (g := mkF m pc Ls S) h hx rfl hd hl hv hr
theorem y_aloadN (h : At T m c below) (hx : tb.exec = Jvm.exec) {k : Fin 4} {v : Value} (hd : decode c.code pc = .ok (.aload_n k, 1)) (hl : Ls[k.val]? = some (.val v)) (hv : v.isRef = true) (hr : Steps tb e below (T.setTop (mkF m (pc + 1) Ls (v :: S))) target) : Steps tb e below (T.setTop (mkF m pc Ls S)) target := XS.aloadN (g := mkF m pc Ls S) h hx rfl hd hl hv hr
theorem y_istore (h : At T m c below) (hx : tb.exec = Jvm.exec) {k : Nat} {x : Int32} {l' : Array Slot} (hd : decode c.code pc = .ok (.istore k, 2)) (hl : storeLocals Ls k (.int x) = some l') (hr : Steps tb e below (T.setTop (mkF m (pc + 2) l' S)) target) : Steps tb e below (T.setTop (mkF m pc Ls (.int x :: S))) target := XS.istore (g := mkF m pc Ls (.int x :: S)) h hx rfl hd rfl hl hr
theorem y_istoreN (h : At T m c below) (hx : tb.exec = Jvm.exec) {k : Fin 4} {x : Int32} {l' : Array Slot} (hd : decode c.code pc = .ok (.istore_n k, 1)) (hl : storeLocals Ls k.val (.int x) = some l') (hr : Steps tb e below (T.setTop (mkF m (pc + 1) l' S)) target) : Steps tb e below (T.setTop (mkF m pc Ls (.int x :: S))) target := XS.istoreN (g := mkF m pc Ls (.int x :: S)) h hx rfl hd rfl hl hr
theorem y_lstore (h : At T m c below) (hx : tb.exec = Jvm.exec) {k : Nat} {x : Int64} {l' : Array Slot} (hd : decode c.code pc = .ok (.lstore k, 2)) (hl : storeLocals Ls k (.long x) = some l') (hr : Steps tb e below (T.setTop (mkF m (pc + 2) l' S)) target) : Steps tb e below (T.setTop (mkF m pc Ls (.long x :: S))) target := XS.lstore (g := mkF m pc Ls (.long x :: S)) h hx rfl hd rfl hl hr
theorem y_lstoreN (h : At T m c below) (hx : tb.exec = Jvm.exec) {k : Fin 4} {x : Int64} {l' : Array Slot} (hd : decode c.code pc = .ok (.lstore_n k, 1)) (hl : storeLocals Ls k.val (.long x) = some l') (hr : Steps tb e below (T.setTop (mkF m (pc + 1) l' S)) target) : Steps tb e below (T.setTop (mkF m pc Ls (.long x :: S))) target := XS.lstoreN (g := mkF m pc Ls (.long x :: S)) h hx rfl hd rfl hl hr
theorem y_astore (h : At T m c below) (hx : tb.exec = Jvm.exec) {k : Nat} {x : Value} {l' : Array Slot} (hd : decode c.code pc = .ok (.astore k, 2)) (hv : x.isRef = true) (hl : storeLocals Ls k x = some l') (hr : Steps tb e below (T.setTop (mkF m (pc + 2) l' S)) target) : Steps tb e below (T.setTop (mkF m pc Ls (x :: S))) target := XS.astore (g := mkF m pc Ls (x :: S)) h hx rfl hd rfl hv hl hr
theorem y_astoreN (h : At T m c below) (hx : tb.exec = Jvm.exec) {k : Fin 4} {x : Value} {l' : Array Slot} (hd : decode c.code pc = .ok (.astore_n k, 1)) (hv : x.isRef = true) (hl : storeLocals Ls k.val x = some l') (hr : Steps tb e below (T.setTop (mkF m (pc + 1) l' S)) target) : Steps tb e below (T.setTop (mkF m pc Ls (x :: S))) target := XS.astoreN (g := mkF m pc Ls (x :: S)) h hx rfl hd rfl hv hl hr
theorem y_iconst (h : At T m c below) (hx : tb.exec = Jvm.exec) {i : Int} {v : Int32} (hd : decode c.code pc = .ok (.iconst i, 1)) (hv : Int32.ofInt i = v) (hr : Steps tb e below (T.setTop (mkF m (pc + 1) Ls (.int v :: S))) target) : Steps tb e below (T.setTop (mkF m pc Ls S)) target := XS.iconst (g := mkF m pc Ls S) h hx rfl hd (by subst hv; exact hr)
theorem y_bipush (h : At T m c below) (hx : tb.exec = Jvm.exec) {i : Int} {v : Int32} (hd : decode c.code pc = .ok (.bipush i, 2)) (hv : (Int8.ofInt i).toInt32 = v) (hr : Steps tb e below (T.setTop (mkF m (pc + 2) Ls (.int v :: S))) target) : Steps tb e below (T.setTop (mkF m pc Ls S)) target := XS.bipush (g := mkF m pc Ls S) h hx rfl hd (by subst hv; exact hr)
theorem y_sipush (h : At T m c below) (hx : tb.exec = Jvm.exec) {i : Int} {v : Int32} (hd : decode c.code pc = .ok (.sipush i, 3)) (hv : (Int16.ofInt i).toInt32 = v) (hr : Steps tb e below (T.setTop (mkF m (pc + 3) Ls (.int v :: S))) target) : Steps tb e below (T.setTop (mkF m pc Ls S)) target := XS.sipush (g := mkF m pc Ls S) h hx rfl hd (by subst hv; exact hr)
theorem y_lconst (h : At T m c below) (hx : tb.exec = Jvm.exec) {k : Fin 2} {v : Int64} (hd : decode c.code pc = .ok (.lconst k, 1)) (hv : Int64.ofNat k = v) (hr : Steps tb e below (T.setTop (mkF m (pc + 1) Ls (.long v :: S))) target) : Steps tb e below (T.setTop (mkF m pc Ls S)) target := XS.lconst (g := mkF m pc Ls S) h hx rfl hd (by subst hv; exact hr)
theorem y_aconstNull (h : At T m c below) (hx : tb.exec = Jvm.exec)  (hd : decode c.code pc = .ok (.aconst_null, 1)) (hr : Steps tb e below (T.setTop (mkF m (pc + 1) Ls (.null :: S))) target) : Steps tb e below (T.setTop (mkF m pc Ls S)) target := XS.aconstNull (g := mkF m pc Ls S) h hx rfl hd hr
theorem y_iadd (h : At T m c below) (hx : tb.exec = Jvm.exec) {x y : Int32} (hd : decode c.code pc = .ok (.iadd, 1)) (hr : Steps tb e below (T.setTop (mkF m (pc + 1) Ls (.int (x + y) :: S))) target) : Steps tb e below (T.setTop (mkF m pc Ls (.int y :: .int x :: S))) target := XS.iadd (g := mkF m pc Ls (.int y :: .int x :: S)) h hx rfl hd rfl hr
theorem y_isub (h : At T m c below) (hx : tb.exec = Jvm.exec) {x y : Int32} (hd : decode c.code pc = .ok (.isub, 1)) (hr : Steps tb e below (T.setTop (mkF m (pc + 1) Ls (.int (x - y) :: S))) target) : Steps tb e below (T.setTop (mkF m pc Ls (.int y :: .int x :: S))) target := XS.isub (g := mkF m pc Ls (.int y :: .int x :: S)) h hx rfl hd rfl hr
theorem y_imul (h : At T m c below) (hx : tb.exec = Jvm.exec) {x y : Int32} (hd : decode c.code pc = .ok (.imul, 1)) (hr : Steps tb e below (T.setTop (mkF m (pc + 1) Ls (.int (x * y) :: S))) target) : Steps tb e below (T.setTop (mkF m pc Ls (.int y :: .int x :: S))) target := XS.imul (g := mkF m pc Ls (.int y :: .int x :: S)) h hx rfl hd rfl hr
theorem y_iand (h : At T m c below) (hx : tb.exec = Jvm.exec) {x y : Int32} (hd : decode c.code pc = .ok (.iand, 1)) (hr : Steps tb e below (T.setTop (mkF m (pc + 1) Ls (.int (x &&& y) :: S))) target) : Steps tb e below (T.setTop (mkF m pc Ls (.int y :: .int x :: S))) target := XS.iand (g := mkF m pc Ls (.int y :: .int x :: S)) h hx rfl hd rfl hr
theorem y_ior (h : At T m c below) (hx : tb.exec = Jvm.exec) {x y : Int32} (hd : decode c.code pc = .ok (.ior, 1)) (hr : Steps tb e below (T.setTop (mkF m (pc + 1) Ls (.int (x ||| y) :: S))) target) : Steps tb e below (T.setTop (mkF m pc Ls (.int y :: .int x :: S))) target := XS.ior (g := mkF m pc Ls (.int y :: .int x :: S)) h hx rfl hd rfl hr
theorem y_ixor (h : At T m c below) (hx : tb.exec = Jvm.exec) {x y : Int32} (hd : decode c.code pc = .ok (.ixor, 1)) (hr : Steps tb e below (T.setTop (mkF m (pc + 1) Ls (.int (x ^^^ y) :: S))) target) : Steps tb e below (T.setTop (mkF m pc Ls (.int y :: .int x :: S))) target := XS.ixor (g := mkF m pc Ls (.int y :: .int x :: S)) h hx rfl hd rfl hr
theorem y_ishl (h : At T m c below) (hx : tb.exec = Jvm.exec) {x y : Int32} (hd : decode c.code pc = .ok (.ishl, 1)) (hr : Steps tb e below (T.setTop (mkF m (pc + 1) Ls (.int (x <<< (y &&& 31)) :: S))) target) : Steps tb e below (T.setTop (mkF m pc Ls (.int y :: .int x :: S))) target := XS.ishl (g := mkF m pc Ls (.int y :: .int x :: S)) h hx rfl hd rfl hr
theorem y_ishr (h : At T m c below) (hx : tb.exec = Jvm.exec) {x y : Int32} (hd : decode c.code pc = .ok (.ishr, 1)) (hr : Steps tb e below (T.setTop (mkF m (pc + 1) Ls (.int (x >>> (y &&& 31)) :: S))) target) : Steps tb e below (T.setTop (mkF m pc Ls (.int y :: .int x :: S))) target := XS.ishr (g := mkF m pc Ls (.int y :: .int x :: S)) h hx rfl hd rfl hr
theorem y_iushr (h : At T m c below) (hx : tb.exec = Jvm.exec) {x y : Int32} (hd : decode c.code pc = .ok (.iushr, 1)) (hr : Steps tb e below (T.setTop (mkF m (pc + 1) Ls (.int ((x.toUInt32 >>> (y &&& 31).toUInt32).toInt32) :: S))) target) : Steps tb e below (T.setTop (mkF m pc Ls (.int y :: .int x :: S))) target := XS.iushr (g := mkF m pc Ls (.int y :: .int x :: S)) h hx rfl hd rfl hr
theorem y_ladd (h : At T m c below) (hx : tb.exec = Jvm.exec) {x y : Int64} (hd : decode c.code pc = .ok (.ladd, 1)) (hr : Steps tb e below (T.setTop (mkF m (pc + 1) Ls (.long (x + y) :: S))) target) : Steps tb e below (T.setTop (mkF m pc Ls (.long y :: .long x :: S))) target := XS.ladd (g := mkF m pc Ls (.long y :: .long x :: S)) h hx rfl hd rfl hr
theorem y_lsub (h : At T m c below) (hx : tb.exec = Jvm.exec) {x y : Int64} (hd : decode c.code pc = .ok (.lsub, 1)) (hr : Steps tb e below (T.setTop (mkF m (pc + 1) Ls (.long (x - y) :: S))) target) : Steps tb e below (T.setTop (mkF m pc Ls (.long y :: .long x :: S))) target := XS.lsub (g := mkF m pc Ls (.long y :: .long x :: S)) h hx rfl hd rfl hr
theorem y_lmul (h : At T m c below) (hx : tb.exec = Jvm.exec) {x y : Int64} (hd : decode c.code pc = .ok (.lmul, 1)) (hr : Steps tb e below (T.setTop (mkF m (pc + 1) Ls (.long (x * y) :: S))) target) : Steps tb e below (T.setTop (mkF m pc Ls (.long y :: .long x :: S))) target := XS.lmul (g := mkF m pc Ls (.long y :: .long x :: S)) h hx rfl hd rfl hr
theorem y_land (h : At T m c below) (hx : tb.exec = Jvm.exec) {x y : Int64} (hd : decode c.code pc = .ok (.land, 1)) (hr : Steps tb e below (T.setTop (mkF m (pc + 1) Ls (.long (x &&& y) :: S))) target) : Steps tb e below (T.setTop (mkF m pc Ls (.long y :: .long x :: S))) target := XS.land (g := mkF m pc Ls (.long y :: .long x :: S)) h hx rfl hd rfl hr
theorem y_lor (h : At T m c below) (hx : tb.exec = Jvm.exec) {x y : Int64} (hd : decode c.code pc = .ok (.lor, 1)) (hr : Steps tb e below (T.setTop (mkF m (pc + 1) Ls (.long (x ||| y) :: S))) target) : Steps tb e below (T.setTop (mkF m pc Ls (.long y :: .long x :: S))) target := XS.lor (g := mkF m pc Ls (.long y :: .long x :: S)) h hx rfl hd rfl hr
theorem y_lxor (h : At T m c below) (hx : tb.exec = Jvm.exec) {x y : Int64} (hd : decode c.code pc = .ok (.lxor, 1)) (hr : Steps tb e below (T.setTop (mkF m (pc + 1) Ls (.long (x ^^^ y) :: S))) target) : Steps tb e below (T.setTop (mkF m pc Ls (.long y :: .long x :: S))) target := XS.lxor (g := mkF m pc Ls (.long y :: .long x :: S)) h hx rfl hd rfl hr
theorem y_ldiv (h : At T m c below) (hx : tb.exec = Jvm.exec) {x y : Int64} (hd : decode c.code pc = .ok (.ldiv, 1)) (hy : y ≠ 0) (hr : Steps tb e below (T.setTop (mkF m (pc + 1) Ls (.long (x / y) :: S))) target) : Steps tb e below (T.setTop (mkF m pc Ls (.long y :: .long x :: S))) target := XS.ldiv (g := mkF m pc Ls (.long y :: .long x :: S)) h hx rfl hd rfl hy hr
theorem y_lrem (h : At T m c below) (hx : tb.exec = Jvm.exec) {x y : Int64} (hd : decode c.code pc = .ok (.lrem, 1)) (hy : y ≠ 0) (hr : Steps tb e below (T.setTop (mkF m (pc + 1) Ls (.long (x - (x / y) * y) :: S))) target) : Steps tb e below (T.setTop (mkF m pc Ls (.long y :: .long x :: S))) target := XS.lrem (g := mkF m pc Ls (.long y :: .long x :: S)) h hx rfl hd rfl hy hr
theorem y_idiv (h : At T m c below) (hx : tb.exec = Jvm.exec) {x y : Int32} (hd : decode c.code pc = .ok (.idiv, 1)) (hy : y ≠ 0) (hr : Steps tb e below (T.setTop (mkF m (pc + 1) Ls (.int (x / y) :: S))) target) : Steps tb e below (T.setTop (mkF m pc Ls (.int y :: .int x :: S))) target := XS.idiv (g := mkF m pc Ls (.int y :: .int x :: S)) h hx rfl hd rfl hy hr
theorem y_ineg (h : At T m c below) (hx : tb.exec = Jvm.exec) {x : Int32} (hd : decode c.code pc = .ok (.ineg, 1)) (hr : Steps tb e below (T.setTop (mkF m (pc + 1) Ls (.int (-x) :: S))) target) : Steps tb e below (T.setTop (mkF m pc Ls (.int x :: S))) target := XS.ineg (g := mkF m pc Ls (.int x :: S)) h hx rfl hd rfl hr
theorem y_i2l (h : At T m c below) (hx : tb.exec = Jvm.exec) {x : Int32} (hd : decode c.code pc = .ok (.i2l, 1)) (hr : Steps tb e below (T.setTop (mkF m (pc + 1) Ls (.long (x.toInt64) :: S))) target) : Steps tb e below (T.setTop (mkF m pc Ls (.int x :: S))) target := XS.i2l (g := mkF m pc Ls (.int x :: S)) h hx rfl hd rfl hr
theorem y_l2i (h : At T m c below) (hx : tb.exec = Jvm.exec) {x : Int64} (hd : decode c.code pc = .ok (.l2i, 1)) (hr : Steps tb e below (T.setTop (mkF m (pc + 1) Ls (.int (x.toInt32) :: S))) target) : Steps tb e below (T.setTop (mkF m pc Ls (.long x :: S))) target := XS.l2i (g := mkF m pc Ls (.long x :: S)) h hx rfl hd rfl hr
theorem y_i2b (h : At T m c below) (hx : tb.exec = Jvm.exec) {x : Int32} (hd : decode c.code pc = .ok (.i2b, 1)) (hr : Steps tb e below (T.setTop (mkF m (pc + 1) Ls (.int (x.toInt8.toInt32) :: S))) target) : Steps tb e below (T.setTop (mkF m pc Ls (.int x :: S))) target := XS.i2b (g := mkF m pc Ls (.int x :: S)) h hx rfl hd rfl hr
theorem y_i2c (h : At T m c below) (hx : tb.exec = Jvm.exec) {x : Int32} (hd : decode c.code pc = .ok (.i2c, 1)) (hr : Steps tb e below (T.setTop (mkF m (pc + 1) Ls (.int (x.toUInt32.toUInt16.toUInt32.toInt32) :: S))) target) : Steps tb e below (T.setTop (mkF m pc Ls (.int x :: S))) target := XS.i2c (g := mkF m pc Ls (.int x :: S)) h hx rfl hd rfl hr
theorem y_i2s (h : At T m c below) (hx : tb.exec = Jvm.exec) {x : Int32} (hd : decode c.code pc = .ok (.i2s, 1)) (hr : Steps tb e below (T.setTop (mkF m (pc + 1) Ls (.int (x.toInt16.toInt32) :: S))) target) : Steps tb e below (T.setTop (mkF m pc Ls (.int x :: S))) target := XS.i2s (g := mkF m pc Ls (.int x :: S)) h hx rfl hd rfl hr
theorem y_lcmp (h : At T m c below) (hx : tb.exec = Jvm.exec) {x y : Int64} (hd : decode c.code pc = .ok (.lcmp, 1)) (hr : Steps tb e below (T.setTop (mkF m (pc + 1) Ls (.int (lcmpW x y) :: S))) target) : Steps tb e below (T.setTop (mkF m pc Ls (.long y :: .long x :: S))) target := XS.lcmp (g := mkF m pc Ls (.long y :: .long x :: S)) h hx rfl hd rfl hr
theorem y_iinc (h : At T m c below) (hx : tb.exec = Jvm.exec) {k : Nat} {d : Int} {x : Int32} {l' : Array Slot} (hd : decode c.code pc = .ok (.iinc k d, 3)) (hl : Ls[k]? = some (.val (.int x))) (hl' : storeLocals Ls k (.int (x + Int32.ofInt d)) = some l') (hr : Steps tb e below (T.setTop (mkF m (pc + 3) l' S)) target) : Steps tb e below (T.setTop (mkF m pc Ls S)) target := XS.iinc (g := mkF m pc Ls S) h hx rfl hd hl hl' hr
theorem y_dup (h : At T m c below) (hx : tb.exec = Jvm.exec) {x : Value} (hd : decode c.code pc = .ok (.dup, 1)) (hc : x.category = 1) (hr : Steps tb e below (T.setTop (mkF m (pc + 1) Ls (x :: x :: S))) target) : Steps tb e below (T.setTop (mkF m pc Ls (x :: S))) target := XS.dup (g := mkF m pc Ls (x :: S)) h hx rfl hd rfl hc hr
theorem y_pop (h : At T m c below) (hx : tb.exec = Jvm.exec) {x : Value} (hd : decode c.code pc = .ok (.pop, 1)) (hc : x.category = 1) (hr : Steps tb e below (T.setTop (mkF m (pc + 1) Ls S)) target) : Steps tb e below (T.setTop (mkF m pc Ls (x :: S))) target := XS.pop (g := mkF m pc Ls (x :: S)) h hx rfl hd rfl hc hr
theorem y_dupX1 (h : At T m c below) (hx : tb.exec = Jvm.exec) {x y : Value} (hd : decode c.code pc = .ok (.dup_x1, 1)) (hc : x.category = 1) (hc' : y.category = 1) (hr : Steps tb e below (T.setTop (mkF m (pc + 1) Ls (x :: y :: x :: S))) target) : Steps tb e below (T.setTop (mkF m pc Ls (x :: y :: S))) target := XS.dupX1 (g := mkF m pc Ls (x :: y :: S)) h hx rfl hd rfl hc hc' hr
theorem y_goto (h : At T m c below) (hx : tb.exec = Jvm.exec)  {o : Int} {pc' : Nat} (hd : decode c.code pc = .ok (.goto o, 3))  (ho : 0 ≤ (pc : Int) + o) (hp : ((pc : Int) + o).toNat = pc') (hr : Steps tb e below (T.setTop (mkF m pc' Ls S)) target) : Steps tb e below (T.setTop (mkF m pc Ls S)) target := XS.goto (g := mkF m pc Ls S) h hx rfl rfl hd  ho hp hr
theorem y_ifYes (h : At T m c below) (hx : tb.exec = Jvm.exec) {cd : ClassFile.Cond} {x : Int32} {o : Int} {pc' : Nat} (hd : decode c.code pc = .ok (.ifCond cd o, 3)) (hc : ifCond.holds cd x = true) (ho : 0 ≤ (pc : Int) + o) (hp : ((pc : Int) + o).toNat = pc') (hr : Steps tb e below (T.setTop (mkF m pc' Ls S)) target) : Steps tb e below (T.setTop (mkF m pc Ls (.int x :: S))) target := XS.ifYes (g := mkF m pc Ls (.int x :: S)) h hx rfl rfl hd rfl hc ho hp hr
theorem y_icmpYes (h : At T m c below) (hx : tb.exec = Jvm.exec) {cd : ClassFile.Cond} {x y : Int32} {o : Int} {pc' : Nat} (hd : decode c.code pc = .ok (.if_icmp cd o, 3)) (hc : if_icmp.holds cd x y = true) (ho : 0 ≤ (pc : Int) + o) (hp : ((pc : Int) + o).toNat = pc') (hr : Steps tb e below (T.setTop (mkF m pc' Ls S)) target) : Steps tb e below (T.setTop (mkF m pc Ls (.int y :: .int x :: S))) target := XS.icmpYes (g := mkF m pc Ls (.int y :: .int x :: S)) h hx rfl rfl hd rfl hc ho hp hr
theorem y_ifnullYes (h : At T m c below) (hx : tb.exec = Jvm.exec)  {o : Int} {pc' : Nat} (hd : decode c.code pc = .ok (.ifnull o, 3))  (ho : 0 ≤ (pc : Int) + o) (hp : ((pc : Int) + o).toNat = pc') (hr : Steps tb e below (T.setTop (mkF m pc' Ls S)) target) : Steps tb e below (T.setTop (mkF m pc Ls (.null :: S))) target := XS.ifnullYes (g := mkF m pc Ls (.null :: S)) h hx rfl rfl hd rfl ho hp hr
theorem y_ifnonnullYes (h : At T m c below) (hx : tb.exec = Jvm.exec) {b : Addr} {o : Int} {pc' : Nat} (hd : decode c.code pc = .ok (.ifnonnull o, 3))  (ho : 0 ≤ (pc : Int) + o) (hp : ((pc : Int) + o).toNat = pc') (hr : Steps tb e below (T.setTop (mkF m pc' Ls S)) target) : Steps tb e below (T.setTop (mkF m pc Ls (.ref b :: S))) target := XS.ifnonnullYes (g := mkF m pc Ls (.ref b :: S)) h hx rfl rfl hd rfl ho hp hr
theorem y_ifNo (h : At T m c below) (hx : tb.exec = Jvm.exec) {cd : ClassFile.Cond} {o : Int} {x : Int32} (hd : decode c.code pc = .ok (.ifCond cd o, 3)) (hc : ifCond.holds cd x = false) (hr : Steps tb e below (T.setTop (mkF m (pc + 3) Ls S)) target) : Steps tb e below (T.setTop (mkF m pc Ls (.int x :: S))) target := XS.ifNo (g := mkF m pc Ls (.int x :: S)) h hx rfl hd rfl hc hr
theorem y_icmpNo (h : At T m c below) (hx : tb.exec = Jvm.exec) {cd : ClassFile.Cond} {o : Int} {x y : Int32} (hd : decode c.code pc = .ok (.if_icmp cd o, 3)) (hc : if_icmp.holds cd x y = false) (hr : Steps tb e below (T.setTop (mkF m (pc + 3) Ls S)) target) : Steps tb e below (T.setTop (mkF m pc Ls (.int y :: .int x :: S))) target := XS.icmpNo (g := mkF m pc Ls (.int y :: .int x :: S)) h hx rfl hd rfl hc hr
theorem y_ifnullNo (h : At T m c below) (hx : tb.exec = Jvm.exec) {o : Int} {b : Addr} (hd : decode c.code pc = .ok (.ifnull o, 3)) (hr : Steps tb e below (T.setTop (mkF m (pc + 3) Ls S)) target) : Steps tb e below (T.setTop (mkF m pc Ls (.ref b :: S))) target := XS.ifnullNo (g := mkF m pc Ls (.ref b :: S)) h hx rfl hd rfl hr
theorem y_ifnonnullNo (h : At T m c below) (hx : tb.exec = Jvm.exec) {o : Int} (hd : decode c.code pc = .ok (.ifnonnull o, 3)) (hr : Steps tb e below (T.setTop (mkF m (pc + 3) Ls S)) target) : Steps tb e below (T.setTop (mkF m pc Ls (.null :: S))) target := XS.ifnonnullNo (g := mkF m pc Ls (.null :: S)) h hx rfl hd rfl hr
end YS
theorem ww {Z : State} {a0 : Array Value} (hw : ∀ d ∈ tables_1, d.before a0 Z = true) (i : Nat) {d : Jvm.Cond} (h : tables_1[i]? = some d) : d.before a0 Z = true := hw _ (List.mem_of_getElem? h)
def QL (w : Option Value) (n0 : Nat) (v : Option Value) (h : Heap) (L : List Loc) : Prop := v = w ∧ Fr n0 L
theorem own_mvMN {Z s : State} {a0 args : Array Value} {own host : String} {y : MethodName} {index : Nat} (hZ : Z.Warmed39 s.vm) (w : (Jvm.Cond.methodLinkNest own index y host).before a0 Z = true) : (Jvm.Cond.methodLinkNest own index y host).before args s = true := (Cond.methodLinkNest_wide hZ w :)
def QN (Z : State) (b : Addr) (h0 : Heap) (n0 : Nat) (v : Option Value) (h : Heap) (L : List Loc) : Prop := v = none ∧ Fr n0 L ∧ Keep h0 h [b] ∧ Exa Z h b "com/example/hard_delay_bounds/harddelaybounds/analysis/FlowSet$Builder" ∧ Fld Z h b "com/example/hard_delay_bounds/harddelaybounds/analysis/FlowSet$Builder" "size" "I" (.int (0 : Int32)) ∧ ∃ A k, h0.size ≤ A ∧ Fld Z h b "com/example/hard_delay_bounds/harddelaybounds/analysis/FlowSet$Builder" "numbers" "[I" (.ref A) ∧ Arv Z h A k .int (4 : Int32) [(.int (0 : Int32)), (.int (0 : Int32)), (.int (0 : Int32)), (.int (0 : Int32))] (.int (0 : Int32)) ∧ Exa Z h A "[I"
def QC (Z : State) (n : Int32) (vs : List Value) (h0 : Heap) (n0 : Nat) (v : Option Value) (h : Heap) (L : List Loc) : Prop := ∃ B k, v = some (.ref B) ∧ Fr n0 L ∧ Keep h0 h [] ∧ h0.size ≤ B ∧ Arv Z h B k .int n vs (.int (0 : Int32)) ∧ Exa Z h B "[I"
def QA (Z : State) (b A : Addr) (k : ClassId) (cap sz : Int32) (vs : List Value) (h0 : Heap) (n0 : Nat) (v : Option Value) (h : Heap) (L : List Loc) : Prop := v = some (.ref b) ∧ Fr n0 L ∧ Keep h0 h [b, A] ∧ Fld Z h b "com/example/hard_delay_bounds/harddelaybounds/analysis/FlowSet$Builder" "size" "I" (.int sz) ∧ Fld Z h b "com/example/hard_delay_bounds/harddelaybounds/analysis/FlowSet$Builder" "numbers" "[I" (.ref A) ∧ Arv Z h A k .int cap vs (.int (0 : Int32))
def QG (Z : State) (b : Addr) (cap sz : Int32) (vs : List Value) (h0 : Heap) (n0 : Nat) (v : Option Value) (h : Heap) (L : List Loc) : Prop := ∃ A k, v = some (.ref b) ∧ Fr n0 L ∧ Keep h0 h [b] ∧ h0.size ≤ A ∧ Fld Z h b "com/example/hard_delay_bounds/harddelaybounds/analysis/FlowSet$Builder" "size" "I" (.int sz) ∧ Fld Z h b "com/example/hard_delay_bounds/harddelaybounds/analysis/FlowSet$Builder" "numbers" "[I" (.ref A) ∧ Arv Z h A k .int cap vs (.int (0 : Int32)) ∧ Exa Z h A "[I"
def QI (Z : State) (b A : Addr) (h0 : Heap) (n0 : Nat) (v : Option Value) (h : Heap) (L : List Loc) : Prop := v = none ∧ Fr n0 L ∧ Keep h0 h [b] ∧ Fld Z h b "com/example/hard_delay_bounds/harddelaybounds/analysis/FlowSet" "numbers" "[I" (.ref A)
def QS (Z : State) (n : Int32) (vs : List Value) (h0 : Heap) (n0 : Nat) (v : Option Value) (h : Heap) (L : List Loc) : Prop := ∃ b B k, v = some (.ref b) ∧ Fr n0 L ∧ Keep h0 h [] ∧ h0.size ≤ b ∧ h0.size ≤ B ∧ Exa Z h b "com/example/hard_delay_bounds/harddelaybounds/analysis/FlowSet" ∧ Fld Z h b "com/example/hard_delay_bounds/harddelaybounds/analysis/FlowSet" "numbers" "[I" (.ref B) ∧ Arv Z h B k .int n vs (.int (0 : Int32))
theorem d1_0 : decode jdk_29_method_69_code 0 = .ok (.iload_n 0, 1) := by decide +kernel
theorem d1_1 : decode jdk_29_method_69_code 1 = .ok (.iload_n 1, 1) := by decide +kernel
theorem d1_2 : decode jdk_29_method_69_code 2 = .ok (.if_icmp .gt 7, 3) := by decide +kernel
theorem d1_9 : decode jdk_29_method_69_code 9 = .ok (.iload_n 1, 1) := by decide +kernel
theorem d1_10 : decode jdk_29_method_69_code 10 = .ok (.ireturn, 1) := by decide +kernel
theorem d1_5 : decode jdk_29_method_69_code 5 = .ok (.iload_n 0, 1) := by decide +kernel
theorem d1_6 : decode jdk_29_method_69_code 6 = .ok (.goto 4, 3) := by decide +kernel
abbrev mn0 : MethodName := ⟨"java/lang/Math", "min", "(II)I"⟩
theorem ef_1 (m : MethodId) (x0 : Int32) (x1 : Int32) : entryFrame m #[(.int x0), (.int x1)] 2 = mkF m 0 #[.val (.int x0), .val (.int x1)] [] := by first | (simp [entryFrame, mkF, argsToLocals, Value.category]; done) | rfl
def f1 (p1 : Int32) (p2 : Int32) : Int32 := (if p2 < p1 then p2 else p1)
set_option maxRecDepth 65536 in
set_option maxHeartbeats 40000000 in
theorem rm1 (l : Launch) (Z : State) (a0 : Array Value) (hw : ∀ d ∈ tables_1, d.before a0 Z = true) (ws : List Jvm.Cond) (p1 : Int32) (p2 : Int32) (h0 : Heap) (n0 : Nat) (Z0 : n0 ≤ h0.size) :
    MetFree l mn0 (head1 (Jvm.Cond.code mn0 jdk_29_method_69_code 2 (some .int) :: ws) ({ frames := 0, cells := 0, slots := 0, locals := 0 } : Room)) (fun a U => a = #[(.int p1), (.int p2)] ∧ Z.Warmed39 U.vm ∧ U.heap = h0) (fun _ _ _ _ _ => True) (fun _ U o U' => ∃ v L, o = .returned v ∧ QP (some (.int (f1 p1 p2))) h0 n0 v U'.heap L ∧ FrameEnd U o U' L ({ frames := 0, cells := 0, slots := 0, locals := 0 } : Room).cells ({ frames := 0, cells := 0, slots := 0, locals := 0 } : Room).slots) := by
  refine MetFree.of_bodySF (Jvm.Free.JP.mathPlain rfl (by decide +kernel)) hisR ?_
  intro p e s m args below meth c s₁ Bd hml0 hP hK
  obtain ⟨rfl, hZ, hh⟩ := hP
  have hx := Bd.exec
  have hby := Bd.bytes
  have hml : c.maxLocals = 2 := hml0
  have hown : s.vm.findClass "java/lang/Math" = some m.cls := findClass_of_methodNamed Bd.named
  have hnm := (name_of_methodNamed Bd.named Bd.method).1
  have X0 : Stand p l e ({ frames := 0, cells := 0, slots := 0, locals := 0 } : Room) s m #[(.int p1), (.int p2)] below meth c s₁ [] 0 0 := Stand.of_body Bd
  have e0 : s₁.heap = h0 := by rw [← hh, Bd.state]; rfl
  have N0 := Fr.nil n0
  have pre0 : ∀ t, Steps p.tables e below (s₁.setTop (mkF m 0 #[.val (.int p1), .val (.int p2)] [])) t → Steps p.tables e below (s₁.setTop (entryFrame m #[(.int p1), (.int p2)] 2)) t := fun t k => castTop (ef_1 m p1 p2) k
  have pre2 : ∀ t, Steps p.tables e below (s₁.setTop (mkF m 2 #[.val (.int p1), .val (.int p2)] [(.int p2), (.int p1)])) t → Steps p.tables e below (s₁.setTop (entryFrame m #[(.int p1), (.int p2)] 2)) t := fun t k => by
    refine pre0 _ ?_
    refine y_iloadN X0.here hx (hb hby d1_0) rfl ?_
    refine y_iloadN X0.here hx (hb hby d1_1) rfl ?_
    exact k
  by_cases hc1 : p2 < p1
  · obtain ⟨fs, hr, hrun, hended, hW, hsame⟩ := X0.leave (v := some (.int p2)) (fun h => by rw [Bd.returns] at h; cases h)
    refine ⟨_, _, pre2 _ ?_, hrun, hended, _, _, rfl, ?_, ⟨_, rfl⟩, hW, hsame.mono (by decide) (by decide)⟩
    · refine y_icmpYes X0.here hx (pc' := 9) (hb hby d1_2) (tlt hc1).2.2.1 (by decide) (by decide) ?_
      refine y_iloadN X0.here hx (hb hby d1_9) rfl ?_
      exact retI X0 hx Bd.returns (hb hby d1_10) hr
    · show QP _ h0 n0 _ s₁.heap _
      rw [e0, show f1 p1 p2 = p2 from by unfold f1; rw [if_pos hc1]]
      exact ⟨rfl, N0, rfl⟩
  · obtain ⟨fs, hr, hrun, hended, hW, hsame⟩ := X0.leave (v := some (.int p1)) (fun h => by rw [Bd.returns] at h; cases h)
    refine ⟨_, _, pre2 _ ?_, hrun, hended, _, _, rfl, ?_, ⟨_, rfl⟩, hW, hsame.mono (by decide) (by decide)⟩
    · refine y_icmpNo X0.here hx (hb hby d1_2) (flt hc1).2.2.1 ?_
      refine y_iloadN X0.here hx (hb hby d1_5) rfl ?_
      refine y_goto X0.here hx (pc' := 10) (hb hby d1_6) (by decide) (by decide) ?_
      exact retI X0 hx Bd.returns (hb hby d1_10) hr
    · show QP _ h0 n0 _ s₁.heap _
      rw [e0, show f1 p1 p2 = p1 from by unfold f1; rw [if_neg hc1]]
      exact ⟨rfl, N0, rfl⟩
theorem d2_0 : decode prog_19_method_1_code 0 = .ok (.aload_n 0, 1) := by decide +kernel
theorem d2_1 : decode prog_19_method_1_code 1 = .ok (.invokespecial 1, 3) := by decide +kernel
theorem d2_4 : decode prog_19_method_1_code 4 = .ok (.aload_n 0, 1) := by decide +kernel
theorem d2_5 : decode prog_19_method_1_code 5 = .ok (.iconst 4, 1) := by decide +kernel
theorem d2_6 : decode prog_19_method_1_code 6 = .ok (.newarray .int, 2) := by decide +kernel
theorem d2_8 : decode prog_19_method_1_code 8 = .ok (.putfield 7, 3) := by decide +kernel
theorem d2_11 : decode prog_19_method_1_code 11 = .ok (.return_, 1) := by decide +kernel
abbrev mn1 : MethodName := ⟨"com/example/hard_delay_bounds/harddelaybounds/analysis/FlowSet$Builder", "<init>", "()V"⟩
theorem pn_2 : plainName "com/example/hard_delay_bounds/harddelaybounds/analysis/FlowSet$Builder" = true := by first | (simp [plainName, overriddenIn]; done) | decide +kernel
theorem ef_2 (m : MethodId) (x0 : Addr) : entryFrame m #[(.ref x0)] 1 = mkF m 0 #[.val (.ref x0)] [] := by first | (simp [entryFrame, mkF, argsToLocals, Value.category]; done) | rfl
set_option maxRecDepth 65536 in
set_option maxHeartbeats 40000000 in
theorem rm2 (l : Launch) (Z : State) (a0 : Array Value) (hw : ∀ d ∈ tables_1, d.before a0 Z = true) (ws : List Jvm.Cond) (a1 : Addr) (h0 : Heap) (n0 : Nat) (Z0 : n0 ≤ h0.size) (E_a1 : Exa Z h0 a1 "com/example/hard_delay_bounds/harddelaybounds/analysis/FlowSet$Builder") (F_numbers_a1 : Fld Z h0 a1 "com/example/hard_delay_bounds/harddelaybounds/analysis/FlowSet$Builder" "numbers" "[I" .null) (F_size_a1 : Fld Z h0 a1 "com/example/hard_delay_bounds/harddelaybounds/analysis/FlowSet$Builder" "size" "I" (.int (0 : Int32))) (g_a1 : n0 ≤ a1) :
    MetFree l mn1 (head1 (Jvm.Cond.code mn1 prog_19_method_1_code 1 none :: ws) ({ frames := 1, cells := 1, slots := 4, locals := 12 } : Room)) (fun a U => a = #[(.ref a1)] ∧ Z.Warmed39 U.vm ∧ U.heap = h0) (fun _ _ _ _ _ => True) (fun _ U o U' => ∃ v L, o = .returned v ∧ QN Z a1 h0 n0 v U'.heap L ∧ FrameEnd U o U' L ({ frames := 1, cells := 1, slots := 4, locals := 12 } : Room).cells ({ frames := 1, cells := 1, slots := 4, locals := 12 } : Room).slots) := by
  refine MetFree.of_bodySF (plainFor_of_name pn_2) hisR ?_
  intro p e s m args below meth c s₁ Bd hml0 hP hK
  obtain ⟨rfl, hZ, hh⟩ := hP
  have hx := Bd.exec
  have hby := Bd.bytes
  have hml : c.maxLocals = 1 := hml0
  have hown : s.vm.findClass "com/example/hard_delay_bounds/harddelaybounds/analysis/FlowSet$Builder" = some m.cls := findClass_of_methodNamed Bd.named
  have hnm := (name_of_methodNamed Bd.named Bd.method).1
  have X0 : Stand p l e ({ frames := 1, cells := 1, slots := 4, locals := 12 } : Room) s m #[(.ref a1)] below meth c s₁ [] 0 0 := Stand.of_body Bd
  have e0 : s₁.heap = h0 := by rw [← hh, Bd.state]; rfl
  have N0 := Fr.nil n0
  have pre0 : ∀ t, Steps p.tables e below (s₁.setTop (mkF m 0 #[.val (.ref a1)] [])) t → Steps p.tables e below (s₁.setTop (entryFrame m #[(.ref a1)] 1)) t := fun t k => castTop (ef_2 m a1) k
  have KK := Keep.refl h0 [a1]
  obtain ⟨T3, X3, e3, st3⟩ := initO X0 hx hZ hown (ww hw 13 rfl) (ww hw 14 rfl) (ww hw 15 rfl) e0 (g := (mkF m 1 #[.val (.ref a1)] [(.ref a1)])) rfl (by rw [hml]; rfl) rfl (hb hby d2_1) (by decide) (W := 0) (by show 2 * 0 + _ ≤ _; exact Nat.le_of_eq rfl) (by decide)
  obtain ⟨T4, h4, k4, X4, e4, E4, A4, Ex4, st4⟩ := newPE X3 hx hZ (ww hw 16 rfl) e3 (g := (mkF m 6 #[.val (.ref a1)] [(.int (4 : Int32)), (.ref a1)])) rfl (hb hby d2_6) rfl (by decide) (cap := 4) (by decide) (by decide) (by decide) (by decide) (ad := "[I") (by first | rfl | decide)
  obtain ⟨b4, g4⟩ : ∃ z, z = h0.size := ⟨_, rfl⟩
  rw [← g4] at A4 Ex4 st4
  have g_b4 : n0 ≤ b4 := Nat.le_trans Z0 (Nat.le_of_eq g4.symm)
  have sz_b4 : h0.size ≤ b4 := Nat.le_trans KK.1 (Nat.le_of_eq g4.symm)
  have ne_a1_b4 : a1 ≠ b4 := Nat.ne_of_lt (Nat.lt_of_lt_of_le E_a1.lt (Nat.le_of_eq g4.symm))
  replace E_a1 := E_a1.ext E4
  replace F_numbers_a1 := F_numbers_a1.ext E4
  replace F_size_a1 := F_size_a1.ext E4
  replace Z0 := Nat.le_trans Z0 E4.1
  replace KK := KK.ext E4
  have V_b4 : Arv Z h4 b4 k4 .int (4 : Int32) [(.int (0 : Int32)), (.int (0 : Int32)), (.int (0 : Int32)), (.int (0 : Int32))] (.int (0 : Int32)) := (Arv.new A4 (by decide)).pad (pad_rep [] (.int (0 : Int32)) 4)
  have E_b4 : Exa Z h4 b4 "[I" := Ex4
  obtain ⟨T5, h5, X5, e5, W5, st5⟩ := putF X4 hx hZ hown (host := "") (Or.inl (ww hw 17 rfl)) Via.refl e4 F_numbers_a1 E_a1 (Or.inl (ww hw 18 rfl)) (ww hw 8 rfl) (ty := (.array .int)) (by decide) rfl rfl (g := (mkF m 8 #[.val (.ref a1)] [(.ref b4), (.ref a1)])) rfl rfl (hb hby d2_8)
  replace E_a1 := E_a1.wr W5
  replace F_numbers_a1 := F_numbers_a1.same W5
  replace F_size_a1 := F_size_a1.other W5 (Or.inr (slot_ne (Or.inl (ww hw 25 rfl)) (Or.inl (ww hw 18 rfl)) (by decide) (t := .int) (t' := (.array .int)) (by decide) (by decide)))
  replace V_b4 := V_b4.other W5 (Ne.symm ne_a1_b4)
  replace E_b4 := E_b4.wr W5
  replace Z0 := Nat.le_trans Z0 (Keep.of_wr W5).1
  replace KK := KK.wr W5 (Or.inl (List.mem_of_getElem? (i := 0) rfl))
  have N5 := Fr.snoc X5 N0 g_a1
  obtain ⟨fs, hr, hrun, hended, hW, hsame⟩ := X5.leave (v := none) (fun _ => rfl)
  refine ⟨_, _, pre0 _ ?_, hrun, hended, _, _, rfl, ?_, ⟨_, rfl⟩, hW, hsame.mono (by decide) (by decide)⟩
  · refine y_aloadN X0.here hx (hb hby d2_0) rfl rfl ?_
    refine st3 _ ?_
    show Steps p.tables e below (T3.setTop (mkF m 4 #[.val (.ref a1)] [])) _
    refine y_aloadN X3.here hx (hb hby d2_4) rfl rfl ?_
    refine y_iconst X3.here hx (v := (4 : Int32)) (hb hby d2_5) rfl ?_
    refine st4 _ ?_
    show Steps p.tables e below (T4.setTop (mkF m 8 #[.val (.ref a1)] [(.ref b4), (.ref a1)])) _
    refine st5 _ ?_
    show Steps p.tables e below (T5.setTop (mkF m 11 #[.val (.ref a1)] [])) _
    exact X5.returnOut hx Bd.returns (hb hby d2_11) hr
  · show QN Z a1 h0 n0 _ T5.heap _
    rw [e5]
    exact ⟨rfl, N5, KK, E_a1, F_size_a1, b4, _, sz_b4, F_numbers_a1, V_b4, E_b4⟩
theorem d4_0 : decode prog_19_method_2_code 0 = .ok (.aload_n 0, 1) := by decide +kernel
theorem d4_1 : decode prog_19_method_2_code 1 = .ok (.getfield 13, 3) := by decide +kernel
theorem d4_4 : decode prog_19_method_2_code 4 = .ok (.ifCond .le 28, 3) := by decide +kernel
theorem d4_32 : decode prog_19_method_2_code 32 = .ok (.aload_n 0, 1) := by decide +kernel
theorem d4_33 : decode prog_19_method_2_code 33 = .ok (.getfield 13, 3) := by decide +kernel
theorem d4_36 : decode prog_19_method_2_code 36 = .ok (.aload_n 0, 1) := by decide +kernel
theorem d4_37 : decode prog_19_method_2_code 37 = .ok (.getfield 7, 3) := by decide +kernel
theorem d4_40 : decode prog_19_method_2_code 40 = .ok (.arraylength, 1) := by decide +kernel
theorem d4_41 : decode prog_19_method_2_code 41 = .ok (.if_icmp .ne 20, 3) := by decide +kernel
theorem d4_61 : decode prog_19_method_2_code 61 = .ok (.aload_n 0, 1) := by decide +kernel
theorem d4_62 : decode prog_19_method_2_code 62 = .ok (.getfield 7, 3) := by decide +kernel
theorem d4_65 : decode prog_19_method_2_code 65 = .ok (.aload_n 0, 1) := by decide +kernel
theorem d4_66 : decode prog_19_method_2_code 66 = .ok (.dup, 1) := by decide +kernel
theorem d4_67 : decode prog_19_method_2_code 67 = .ok (.getfield 13, 3) := by decide +kernel
theorem d4_70 : decode prog_19_method_2_code 70 = .ok (.dup_x1, 1) := by decide +kernel
theorem d4_71 : decode prog_19_method_2_code 71 = .ok (.iconst 1, 1) := by decide +kernel
theorem d4_72 : decode prog_19_method_2_code 72 = .ok (.iadd, 1) := by decide +kernel
theorem d4_73 : decode prog_19_method_2_code 73 = .ok (.putfield 13, 3) := by decide +kernel
theorem d4_76 : decode prog_19_method_2_code 76 = .ok (.iload_n 1, 1) := by decide +kernel
theorem d4_77 : decode prog_19_method_2_code 77 = .ok (.iastore, 1) := by decide +kernel
theorem d4_78 : decode prog_19_method_2_code 78 = .ok (.aload_n 0, 1) := by decide +kernel
theorem d4_79 : decode prog_19_method_2_code 79 = .ok (.areturn, 1) := by decide +kernel
abbrev mn2 : MethodName := ⟨"com/example/hard_delay_bounds/harddelaybounds/analysis/FlowSet$Builder", "add", "(I)Lcom/example/hard_delay_bounds/harddelaybounds/analysis/FlowSet$Builder;"⟩
theorem ef_4 (m : MethodId) (x0 : Addr) (x1 : Int32) : entryFrame m #[(.ref x0), (.int x1)] 2 = mkF m 0 #[.val (.ref x0), .val (.int x1)] [] := by first | (simp [entryFrame, mkF, argsToLocals, Value.category]; done) | rfl
set_option maxRecDepth 65536 in
set_option maxHeartbeats 40000000 in
theorem rm4_0 (l : Launch) (Z : State) (a0 : Array Value) (hw : ∀ d ∈ tables_1, d.before a0 Z = true) (ws : List Jvm.Cond) (a1 : Addr) (p2 : Int32) (aA : Addr) (kA : ClassId) (h0 : Heap) (n0 : Nat) (Z0 : n0 ≤ h0.size) (E_a1 : Exa Z h0 a1 "com/example/hard_delay_bounds/harddelaybounds/analysis/FlowSet$Builder") (F_numbers_a1 : Fld Z h0 a1 "com/example/hard_delay_bounds/harddelaybounds/analysis/FlowSet$Builder" "numbers" "[I" (.ref aA)) (F_size_a1 : Fld Z h0 a1 "com/example/hard_delay_bounds/harddelaybounds/analysis/FlowSet$Builder" "size" "I" (.int (0 : Int32))) (E_aA : Exa Z h0 aA "[I") (V_aA : Arv Z h0 aA kA .int (4 : Int32) [(.int (0 : Int32)), (.int (0 : Int32)), (.int (0 : Int32)), (.int (0 : Int32))] (.int (0 : Int32))) (g_a1 : n0 ≤ a1) (g_aA : n0 ≤ aA) (ne_a1_aA : a1 ≠ aA) :
    MetFree l mn2 (head1 (Jvm.Cond.code mn2 prog_19_method_2_code 2 (some (.object "com/example/hard_delay_bounds/harddelaybounds/analysis/FlowSet$Builder")) :: ws) ({ frames := 0, cells := 0, slots := 0, locals := 0 } : Room)) (fun a U => a = #[(.ref a1), (.int p2)] ∧ Z.Warmed39 U.vm ∧ U.heap = h0) (fun _ _ _ _ _ => True) (fun _ U o U' => ∃ v L, o = .returned v ∧ QA Z a1 aA kA (4 : Int32) (1 : Int32) [(.int p2), (.int (0 : Int32)), (.int (0 : Int32)), (.int (0 : Int32))] h0 n0 v U'.heap L ∧ FrameEnd U o U' L ({ frames := 0, cells := 0, slots := 0, locals := 0 } : Room).cells ({ frames := 0, cells := 0, slots := 0, locals := 0 } : Room).slots) := by
  refine MetFree.of_bodySF (plainFor_of_name pn_2) hisR ?_
  intro p e s m args below meth c s₁ Bd hml0 hP hK
  obtain ⟨rfl, hZ, hh⟩ := hP
  have hx := Bd.exec
  have hby := Bd.bytes
  have hml : c.maxLocals = 2 := hml0
  have hown : s.vm.findClass "com/example/hard_delay_bounds/harddelaybounds/analysis/FlowSet$Builder" = some m.cls := findClass_of_methodNamed Bd.named
  have hnm := (name_of_methodNamed Bd.named Bd.method).1
  have X0 : Stand p l e ({ frames := 0, cells := 0, slots := 0, locals := 0 } : Room) s m #[(.ref a1), (.int p2)] below meth c s₁ [] 0 0 := Stand.of_body Bd
  have e0 : s₁.heap = h0 := by rw [← hh, Bd.state]; rfl
  have N0 := Fr.nil n0
  have pre0 : ∀ t, Steps p.tables e below (s₁.setTop (mkF m 0 #[.val (.ref a1), .val (.int p2)] [])) t → Steps p.tables e below (s₁.setTop (entryFrame m #[(.ref a1), (.int p2)] 2)) t := fun t k => castTop (ef_4 m a1 p2) k
  have KK := Keep.refl h0 [a1, aA]
  obtain ⟨T6, X6, e6, st6⟩ := getF X0 hx hZ hown (host := "") (Or.inl (ww hw 24 rfl)) Via.refl e0 F_size_a1 (g := (mkF m 1 #[.val (.ref a1), .val (.int p2)] [(.ref a1)])) rfl rfl (hb hby d4_1)
  obtain ⟨T7, X7, e7, st7⟩ := getF X6 hx hZ hown (host := "") (Or.inl (ww hw 24 rfl)) Via.refl e6 F_size_a1 (g := (mkF m 33 #[.val (.ref a1), .val (.int p2)] [(.ref a1)])) rfl rfl (hb hby d4_33)
  obtain ⟨T8, X8, e8, st8⟩ := getF X7 hx hZ hown (host := "") (Or.inl (ww hw 17 rfl)) Via.refl e7 F_numbers_a1 (g := (mkF m 37 #[.val (.ref a1), .val (.int p2)] [(.ref a1), (.int (0 : Int32))])) rfl rfl (hb hby d4_37)
  obtain ⟨cl9, Ar9, q9, Sz9, Nn9, Hh9, Gg9⟩ := id V_aA
  obtain ⟨T10, X10, e10, st10⟩ := getF X8 hx hZ hown (host := "") (Or.inl (ww hw 17 rfl)) Via.refl e8 F_numbers_a1 (g := (mkF m 62 #[.val (.ref a1), .val (.int p2)] [(.ref a1)])) rfl rfl (hb hby d4_62)
  obtain ⟨T11, X11, e11, st11⟩ := getF X10 hx hZ hown (host := "") (Or.inl (ww hw 24 rfl)) Via.refl e10 F_size_a1 (g := (mkF m 67 #[.val (.ref a1), .val (.int p2)] [(.ref a1), (.ref a1), (.ref aA)])) rfl rfl (hb hby d4_67)
  obtain ⟨T12, h12, X12, e12, W12, st12⟩ := putF X11 hx hZ hown (host := "") (Or.inl (ww hw 24 rfl)) Via.refl e11 F_size_a1 E_a1 (Or.inl (ww hw 25 rfl)) (ww hw 8 rfl) (ty := .int) (by decide) rfl rfl (g := (mkF m 73 #[.val (.ref a1), .val (.int p2)] [(.int (1 : Int32)), (.ref a1), (.int (0 : Int32)), (.ref aA)])) rfl rfl (hb hby d4_73)
  replace E_a1 := E_a1.wr W12
  replace F_numbers_a1 := F_numbers_a1.other W12 (Or.inr (slot_ne (Or.inl (ww hw 18 rfl)) (Or.inl (ww hw 25 rfl)) (by decide) (t := (.array .int)) (t' := .int) (by decide) (by decide)))
  replace F_size_a1 := F_size_a1.same W12
  replace E_aA := E_aA.wr W12
  replace V_aA := V_aA.other W12 (Ne.symm ne_a1_aA)
  replace Z0 := Nat.le_trans Z0 (Keep.of_wr W12).1
  replace KK := KK.wr W12 (Or.inl (List.mem_of_getElem? (i := 0) rfl))
  have N12 := Fr.snoc X12 N0 g_a1
  obtain ⟨cl13, Ar13, q13, Sz13, Nn13, Hh13, Gg13⟩ := V_aA
  have hin13 : ¬ ((0 : Int32) < 0 ∨ cl13.slots.size ≤ ((0 : Int32)).toNatClampNeg) := inb_of Sz13 ⟨by decide, by decide⟩
  obtain ⟨T14, h14, X14, e14, W14, st14⟩ := stI X12 hx hZ e12 Ar13 (j := (0 : Int32)) hin13 (g := (mkF m 77 #[.val (.ref a1), .val (.int p2)] [(.int p2), (.int (0 : Int32)), (.ref aA)])) rfl rfl (hb hby d4_77)
  replace E_a1 := E_a1.wr W14
  replace F_numbers_a1 := F_numbers_a1.other W14 (Or.inl ne_a1_aA)
  replace F_size_a1 := F_size_a1.other W14 (Or.inl ne_a1_aA)
  replace E_aA := E_aA.wr W14
  replace Z0 := Nat.le_trans Z0 (Keep.of_wr W14).1
  replace KK := KK.wr W14 (Or.inl (List.mem_of_getElem? (i := 1) rfl))
  have V_aA : Arv Z h14 aA kA .int (4 : Int32) [(.int p2), (.int (0 : Int32)), (.int (0 : Int32)), (.int (0 : Int32))] (.int (0 : Int32)) := Arv.set Ar13 q13 Sz13 Nn13 Hh13 Gg13 rfl W14 0 rfl (Nat.le_of_ble_eq_true rfl)
  have N14 := Fr.snoc X14 N12 g_aA
  obtain ⟨fs, hr, hrun, hended, hW, hsame⟩ := X14.leave (v := some (.ref a1)) (fun h => by rw [Bd.returns] at h; cases h)
  refine ⟨_, _, pre0 _ ?_, hrun, hended, _, _, rfl, ?_, ⟨_, rfl⟩, hW, hsame.mono (by decide) (by decide)⟩
  · refine y_aloadN X0.here hx (hb hby d4_0) rfl rfl ?_
    refine st6 _ ?_
    show Steps p.tables e below (T6.setTop (mkF m 4 #[.val (.ref a1), .val (.int p2)] [(.int (0 : Int32))])) _
    refine y_ifYes X6.here hx (pc' := 32) (hb hby d4_4) ((if0 _ _).trans (flt (by decide)).2.2.2) (by decide) (by decide) ?_
    refine y_aloadN X6.here hx (hb hby d4_32) rfl rfl ?_
    refine st7 _ ?_
    show Steps p.tables e below (T7.setTop (mkF m 36 #[.val (.ref a1), .val (.int p2)] [(.int (0 : Int32))])) _
    refine y_aloadN X7.here hx (hb hby d4_36) rfl rfl ?_
    refine st8 _ ?_
    show Steps p.tables e below (T8.setTop (mkF m 40 #[.val (.ref a1), .val (.int p2)] [(.ref aA), (.int (0 : Int32))])) _
    refine X8.arraylength hx (by rw [e8]; exact Ar9.1) (State.isArrayOf_alike hZ.alike Ar9.2.1) (g := (mkF m 40 #[.val (.ref a1), .val (.int p2)] [(.ref aA), (.int (0 : Int32))])) rfl rfl (hb hby d4_40) _ ?_
    rw [len_of Sz9 Nn9]
    show Steps p.tables e below (T8.setTop (mkF m 41 #[.val (.ref a1), .val (.int p2)] [(.int (4 : Int32)), (.int (0 : Int32))])) _
    refine y_icmpYes X8.here hx (pc' := 61) (hb hby d4_41) (feq (by decide)).2 (by decide) (by decide) ?_
    refine y_aloadN X8.here hx (hb hby d4_61) rfl rfl ?_
    refine st10 _ ?_
    show Steps p.tables e below (T10.setTop (mkF m 65 #[.val (.ref a1), .val (.int p2)] [(.ref aA)])) _
    refine y_aloadN X10.here hx (hb hby d4_65) rfl rfl ?_
    refine y_dup X10.here hx (hb hby d4_66) rfl ?_
    refine st11 _ ?_
    show Steps p.tables e below (T11.setTop (mkF m 70 #[.val (.ref a1), .val (.int p2)] [(.int (0 : Int32)), (.ref a1), (.ref aA)])) _
    refine y_dupX1 X11.here hx (hb hby d4_70) rfl rfl ?_
    refine y_iconst X11.here hx (v := (1 : Int32)) (hb hby d4_71) rfl ?_
    refine y_iadd X11.here hx (hb hby d4_72) ?_
    rw [show ((0 : Int32) + (1 : Int32)) = (1 : Int32) from by decide]
    refine st12 _ ?_
    show Steps p.tables e below (T12.setTop (mkF m 76 #[.val (.ref a1), .val (.int p2)] [(.int (0 : Int32)), (.ref aA)])) _
    refine y_iloadN X12.here hx (hb hby d4_76) rfl ?_
    refine st14 _ ?_
    show Steps p.tables e below (T14.setTop (mkF m 78 #[.val (.ref a1), .val (.int p2)] [])) _
    refine y_aloadN X14.here hx (hb hby d4_78) rfl rfl ?_
    show Steps p.tables e below (T14.setTop (mkF m 79 #[.val (.ref a1), .val (.int p2)] [(.ref a1)])) _
    jvm_step X14.here [X14.here.top, hx, (hb hby d4_79), X14.method', Bd.returns, Value.isRef, FieldType.isReference]
    first | (intro acts; rw [hr _ acts rfl rfl rfl]) | rw [hr _ _ rfl rfl rfl]
    exact Steps.refl _
  · show QA Z a1 aA kA (4 : Int32) (1 : Int32) [(.int p2), (.int (0 : Int32)), (.int (0 : Int32)), (.int (0 : Int32))] h0 n0 _ T14.heap _
    rw [e14]
    exact ⟨rfl, N14, KK, F_size_a1, F_numbers_a1, V_aA⟩
theorem d4_7 : decode prog_19_method_2_code 7 = .ok (.iload_n 1, 1) := by decide +kernel
theorem d4_8 : decode prog_19_method_2_code 8 = .ok (.aload_n 0, 1) := by decide +kernel
theorem d4_9 : decode prog_19_method_2_code 9 = .ok (.getfield 7, 3) := by decide +kernel
theorem d4_12 : decode prog_19_method_2_code 12 = .ok (.aload_n 0, 1) := by decide +kernel
theorem d4_13 : decode prog_19_method_2_code 13 = .ok (.getfield 13, 3) := by decide +kernel
theorem d4_16 : decode prog_19_method_2_code 16 = .ok (.iconst 1, 1) := by decide +kernel
theorem d4_17 : decode prog_19_method_2_code 17 = .ok (.isub, 1) := by decide +kernel
theorem d4_18 : decode prog_19_method_2_code 18 = .ok (.iaload, 1) := by decide +kernel
theorem d4_19 : decode prog_19_method_2_code 19 = .ok (.if_icmp .gt 13, 3) := by decide +kernel
set_option maxRecDepth 65536 in
set_option maxHeartbeats 40000000 in
theorem rm4_1 (l : Launch) (Z : State) (a0 : Array Value) (hw : ∀ d ∈ tables_1, d.before a0 Z = true) (ws : List Jvm.Cond) (a1 : Addr) (p2 : Int32) (aA : Addr) (kA : ClassId) (x0 : Int32) (h0 : Heap) (n0 : Nat) (Z0 : n0 ≤ h0.size) (hlt : x0 < p2) (E_a1 : Exa Z h0 a1 "com/example/hard_delay_bounds/harddelaybounds/analysis/FlowSet$Builder") (F_numbers_a1 : Fld Z h0 a1 "com/example/hard_delay_bounds/harddelaybounds/analysis/FlowSet$Builder" "numbers" "[I" (.ref aA)) (F_size_a1 : Fld Z h0 a1 "com/example/hard_delay_bounds/harddelaybounds/analysis/FlowSet$Builder" "size" "I" (.int (1 : Int32))) (E_aA : Exa Z h0 aA "[I") (V_aA : Arv Z h0 aA kA .int (4 : Int32) [(.int x0), (.int (0 : Int32)), (.int (0 : Int32)), (.int (0 : Int32))] (.int (0 : Int32))) (g_a1 : n0 ≤ a1) (g_aA : n0 ≤ aA) (ne_a1_aA : a1 ≠ aA) :
    MetFree l mn2 (head1 (Jvm.Cond.code mn2 prog_19_method_2_code 2 (some (.object "com/example/hard_delay_bounds/harddelaybounds/analysis/FlowSet$Builder")) :: ws) ({ frames := 0, cells := 0, slots := 0, locals := 0 } : Room)) (fun a U => a = #[(.ref a1), (.int p2)] ∧ Z.Warmed39 U.vm ∧ U.heap = h0) (fun _ _ _ _ _ => True) (fun _ U o U' => ∃ v L, o = .returned v ∧ QA Z a1 aA kA (4 : Int32) (2 : Int32) [(.int x0), (.int p2), (.int (0 : Int32)), (.int (0 : Int32))] h0 n0 v U'.heap L ∧ FrameEnd U o U' L ({ frames := 0, cells := 0, slots := 0, locals := 0 } : Room).cells ({ frames := 0, cells := 0, slots := 0, locals := 0 } : Room).slots) := by
  refine MetFree.of_bodySF (plainFor_of_name pn_2) hisR ?_
  intro p e s m args below meth c s₁ Bd hml0 hP hK
  obtain ⟨rfl, hZ, hh⟩ := hP
  have hx := Bd.exec
  have hby := Bd.bytes
  have hml : c.maxLocals = 2 := hml0
  have hown : s.vm.findClass "com/example/hard_delay_bounds/harddelaybounds/analysis/FlowSet$Builder" = some m.cls := findClass_of_methodNamed Bd.named
  have hnm := (name_of_methodNamed Bd.named Bd.method).1
  have X0 : Stand p l e ({ frames := 0, cells := 0, slots := 0, locals := 0 } : Room) s m #[(.ref a1), (.int p2)] below meth c s₁ [] 0 0 := Stand.of_body Bd
  have e0 : s₁.heap = h0 := by rw [← hh, Bd.state]; rfl
  have N0 := Fr.nil n0
  have pre0 : ∀ t, Steps p.tables e below (s₁.setTop (mkF m 0 #[.val (.ref a1), .val (.int p2)] [])) t → Steps p.tables e below (s₁.setTop (entryFrame m #[(.ref a1), (.int p2)] 2)) t := fun t k => castTop (ef_4 m a1 p2) k
  have KK := Keep.refl h0 [a1, aA]
  obtain ⟨T15, X15, e15, st15⟩ := getF X0 hx hZ hown (host := "") (Or.inl (ww hw 24 rfl)) Via.refl e0 F_size_a1 (g := (mkF m 1 #[.val (.ref a1), .val (.int p2)] [(.ref a1)])) rfl rfl (hb hby d4_1)
  obtain ⟨T16, X16, e16, st16⟩ := getF X15 hx hZ hown (host := "") (Or.inl (ww hw 17 rfl)) Via.refl e15 F_numbers_a1 (g := (mkF m 9 #[.val (.ref a1), .val (.int p2)] [(.ref a1), (.int p2)])) rfl rfl (hb hby d4_9)
  obtain ⟨T17, X17, e17, st17⟩ := getF X16 hx hZ hown (host := "") (Or.inl (ww hw 24 rfl)) Via.refl e16 F_size_a1 (g := (mkF m 13 #[.val (.ref a1), .val (.int p2)] [(.ref a1), (.ref aA), (.int p2)])) rfl rfl (hb hby d4_13)
  obtain ⟨cl18, Ar18, q18, Sz18, Nn18, Hh18, Gg18⟩ := id V_aA
  have hin18 : ¬ ((0 : Int32) < 0 ∨ cl18.slots.size ≤ ((0 : Int32)).toNatClampNeg) := inb_of Sz18 ⟨by decide, by decide⟩
  have hat18 : cl18.slots[((0 : Int32)).toNatClampNeg]? = some (.int x0) := Hh18.at hin18 rfl
  obtain ⟨T19, X19, e19, st19⟩ := getF X17 hx hZ hown (host := "") (Or.inl (ww hw 24 rfl)) Via.refl e17 F_size_a1 (g := (mkF m 33 #[.val (.ref a1), .val (.int p2)] [(.ref a1)])) rfl rfl (hb hby d4_33)
  obtain ⟨T20, X20, e20, st20⟩ := getF X19 hx hZ hown (host := "") (Or.inl (ww hw 17 rfl)) Via.refl e19 F_numbers_a1 (g := (mkF m 37 #[.val (.ref a1), .val (.int p2)] [(.ref a1), (.int (1 : Int32))])) rfl rfl (hb hby d4_37)
  obtain ⟨cl21, Ar21, q21, Sz21, Nn21, Hh21, Gg21⟩ := id V_aA
  obtain ⟨T22, X22, e22, st22⟩ := getF X20 hx hZ hown (host := "") (Or.inl (ww hw 17 rfl)) Via.refl e20 F_numbers_a1 (g := (mkF m 62 #[.val (.ref a1), .val (.int p2)] [(.ref a1)])) rfl rfl (hb hby d4_62)
  obtain ⟨T23, X23, e23, st23⟩ := getF X22 hx hZ hown (host := "") (Or.inl (ww hw 24 rfl)) Via.refl e22 F_size_a1 (g := (mkF m 67 #[.val (.ref a1), .val (.int p2)] [(.ref a1), (.ref a1), (.ref aA)])) rfl rfl (hb hby d4_67)
  obtain ⟨T24, h24, X24, e24, W24, st24⟩ := putF X23 hx hZ hown (host := "") (Or.inl (ww hw 24 rfl)) Via.refl e23 F_size_a1 E_a1 (Or.inl (ww hw 25 rfl)) (ww hw 8 rfl) (ty := .int) (by decide) rfl rfl (g := (mkF m 73 #[.val (.ref a1), .val (.int p2)] [(.int (2 : Int32)), (.ref a1), (.int (1 : Int32)), (.ref aA)])) rfl rfl (hb hby d4_73)
  replace E_a1 := E_a1.wr W24
  replace F_numbers_a1 := F_numbers_a1.other W24 (Or.inr (slot_ne (Or.inl (ww hw 18 rfl)) (Or.inl (ww hw 25 rfl)) (by decide) (t := (.array .int)) (t' := .int) (by decide) (by decide)))
  replace F_size_a1 := F_size_a1.same W24
  replace E_aA := E_aA.wr W24
  replace V_aA := V_aA.other W24 (Ne.symm ne_a1_aA)
  replace Z0 := Nat.le_trans Z0 (Keep.of_wr W24).1
  replace KK := KK.wr W24 (Or.inl (List.mem_of_getElem? (i := 0) rfl))
  have N24 := Fr.snoc X24 N0 g_a1
  obtain ⟨cl25, Ar25, q25, Sz25, Nn25, Hh25, Gg25⟩ := V_aA
  have hin25 : ¬ ((1 : Int32) < 0 ∨ cl25.slots.size ≤ ((1 : Int32)).toNatClampNeg) := inb_of Sz25 ⟨by decide, by decide⟩
  obtain ⟨T26, h26, X26, e26, W26, st26⟩ := stI X24 hx hZ e24 Ar25 (j := (1 : Int32)) hin25 (g := (mkF m 77 #[.val (.ref a1), .val (.int p2)] [(.int p2), (.int (1 : Int32)), (.ref aA)])) rfl rfl (hb hby d4_77)
  replace E_a1 := E_a1.wr W26
  replace F_numbers_a1 := F_numbers_a1.other W26 (Or.inl ne_a1_aA)
  replace F_size_a1 := F_size_a1.other W26 (Or.inl ne_a1_aA)
  replace E_aA := E_aA.wr W26
  replace Z0 := Nat.le_trans Z0 (Keep.of_wr W26).1
  replace KK := KK.wr W26 (Or.inl (List.mem_of_getElem? (i := 1) rfl))
  have V_aA : Arv Z h26 aA kA .int (4 : Int32) [(.int x0), (.int p2), (.int (0 : Int32)), (.int (0 : Int32))] (.int (0 : Int32)) := Arv.set Ar25 q25 Sz25 Nn25 Hh25 Gg25 rfl W26 1 rfl (Nat.le_of_ble_eq_true rfl)
  have N26 := Fr.snoc X26 N24 g_aA
  obtain ⟨fs, hr, hrun, hended, hW, hsame⟩ := X26.leave (v := some (.ref a1)) (fun h => by rw [Bd.returns] at h; cases h)
  refine ⟨_, _, pre0 _ ?_, hrun, hended, _, _, rfl, ?_, ⟨_, rfl⟩, hW, hsame.mono (by decide) (by decide)⟩
  · refine y_aloadN X0.here hx (hb hby d4_0) rfl rfl ?_
    refine st15 _ ?_
    show Steps p.tables e below (T15.setTop (mkF m 4 #[.val (.ref a1), .val (.int p2)] [(.int (1 : Int32))])) _
    refine y_ifNo X15.here hx (hb hby d4_4) ((if0 _ _).trans (tlt (by decide)).2.2.2) ?_
    refine y_iloadN X15.here hx (hb hby d4_7) rfl ?_
    refine y_aloadN X15.here hx (hb hby d4_8) rfl rfl ?_
    refine st16 _ ?_
    show Steps p.tables e below (T16.setTop (mkF m 12 #[.val (.ref a1), .val (.int p2)] [(.ref aA), (.int p2)])) _
    refine y_aloadN X16.here hx (hb hby d4_12) rfl rfl ?_
    refine st17 _ ?_
    show Steps p.tables e below (T17.setTop (mkF m 16 #[.val (.ref a1), .val (.int p2)] [(.int (1 : Int32)), (.ref aA), (.int p2)])) _
    refine y_iconst X17.here hx (v := (1 : Int32)) (hb hby d4_16) rfl ?_
    refine y_isub X17.here hx (hb hby d4_17) ?_
    rw [show ((1 : Int32) - (1 : Int32)) = (0 : Int32) from by decide]
    refine X17.iaload hx (j := (0 : Int32)) (v := (.int x0)) (by rw [e17]; exact Ar18.1) (State.isArrayOf_alike hZ.alike Ar18.2.1) Ar18.2.2 hin18 hat18 (g := (mkF m 18 #[.val (.ref a1), .val (.int p2)] [(.int (0 : Int32)), (.ref aA), (.int p2)])) rfl rfl (hb hby d4_18) _ ?_
    show Steps p.tables e below (T17.setTop (mkF m 19 #[.val (.ref a1), .val (.int p2)] [(.int x0), (.int p2)])) _
    refine y_icmpYes X17.here hx (pc' := 32) (hb hby d4_19) (tlt hlt).2.2.1 (by decide) (by decide) ?_
    refine y_aloadN X17.here hx (hb hby d4_32) rfl rfl ?_
    refine st19 _ ?_
    show Steps p.tables e below (T19.setTop (mkF m 36 #[.val (.ref a1), .val (.int p2)] [(.int (1 : Int32))])) _
    refine y_aloadN X19.here hx (hb hby d4_36) rfl rfl ?_
    refine st20 _ ?_
    show Steps p.tables e below (T20.setTop (mkF m 40 #[.val (.ref a1), .val (.int p2)] [(.ref aA), (.int (1 : Int32))])) _
    refine X20.arraylength hx (by rw [e20]; exact Ar21.1) (State.isArrayOf_alike hZ.alike Ar21.2.1) (g := (mkF m 40 #[.val (.ref a1), .val (.int p2)] [(.ref aA), (.int (1 : Int32))])) rfl rfl (hb hby d4_40) _ ?_
    rw [len_of Sz21 Nn21]
    show Steps p.tables e below (T20.setTop (mkF m 41 #[.val (.ref a1), .val (.int p2)] [(.int (4 : Int32)), (.int (1 : Int32))])) _
    refine y_icmpYes X20.here hx (pc' := 61) (hb hby d4_41) (feq (by decide)).2 (by decide) (by decide) ?_
    refine y_aloadN X20.here hx (hb hby d4_61) rfl rfl ?_
    refine st22 _ ?_
    show Steps p.tables e below (T22.setTop (mkF m 65 #[.val (.ref a1), .val (.int p2)] [(.ref aA)])) _
    refine y_aloadN X22.here hx (hb hby d4_65) rfl rfl ?_
    refine y_dup X22.here hx (hb hby d4_66) rfl ?_
    refine st23 _ ?_
    show Steps p.tables e below (T23.setTop (mkF m 70 #[.val (.ref a1), .val (.int p2)] [(.int (1 : Int32)), (.ref a1), (.ref aA)])) _
    refine y_dupX1 X23.here hx (hb hby d4_70) rfl rfl ?_
    refine y_iconst X23.here hx (v := (1 : Int32)) (hb hby d4_71) rfl ?_
    refine y_iadd X23.here hx (hb hby d4_72) ?_
    rw [show ((1 : Int32) + (1 : Int32)) = (2 : Int32) from by decide]
    refine st24 _ ?_
    show Steps p.tables e below (T24.setTop (mkF m 76 #[.val (.ref a1), .val (.int p2)] [(.int (1 : Int32)), (.ref aA)])) _
    refine y_iloadN X24.here hx (hb hby d4_76) rfl ?_
    refine st26 _ ?_
    show Steps p.tables e below (T26.setTop (mkF m 78 #[.val (.ref a1), .val (.int p2)] [])) _
    refine y_aloadN X26.here hx (hb hby d4_78) rfl rfl ?_
    show Steps p.tables e below (T26.setTop (mkF m 79 #[.val (.ref a1), .val (.int p2)] [(.ref a1)])) _
    jvm_step X26.here [X26.here.top, hx, (hb hby d4_79), X26.method', Bd.returns, Value.isRef, FieldType.isReference]
    first | (intro acts; rw [hr _ acts rfl rfl rfl]) | rw [hr _ _ rfl rfl rfl]
    exact Steps.refl _
  · show QA Z a1 aA kA (4 : Int32) (2 : Int32) [(.int x0), (.int p2), (.int (0 : Int32)), (.int (0 : Int32))] h0 n0 _ T26.heap _
    rw [e26]
    exact ⟨rfl, N26, KK, F_size_a1, F_numbers_a1, V_aA⟩
set_option maxRecDepth 65536 in
set_option maxHeartbeats 40000000 in
theorem rm4_2 (l : Launch) (Z : State) (a0 : Array Value) (hw : ∀ d ∈ tables_1, d.before a0 Z = true) (ws : List Jvm.Cond) (a1 : Addr) (p2 : Int32) (aA : Addr) (kA : ClassId) (x0 : Int32) (x1 : Int32) (h0 : Heap) (n0 : Nat) (Z0 : n0 ≤ h0.size) (hlt : x1 < p2) (E_a1 : Exa Z h0 a1 "com/example/hard_delay_bounds/harddelaybounds/analysis/FlowSet$Builder") (F_numbers_a1 : Fld Z h0 a1 "com/example/hard_delay_bounds/harddelaybounds/analysis/FlowSet$Builder" "numbers" "[I" (.ref aA)) (F_size_a1 : Fld Z h0 a1 "com/example/hard_delay_bounds/harddelaybounds/analysis/FlowSet$Builder" "size" "I" (.int (2 : Int32))) (E_aA : Exa Z h0 aA "[I") (V_aA : Arv Z h0 aA kA .int (4 : Int32) [(.int x0), (.int x1), (.int (0 : Int32)), (.int (0 : Int32))] (.int (0 : Int32))) (g_a1 : n0 ≤ a1) (g_aA : n0 ≤ aA) (ne_a1_aA : a1 ≠ aA) :
    MetFree l mn2 (head1 (Jvm.Cond.code mn2 prog_19_method_2_code 2 (some (.object "com/example/hard_delay_bounds/harddelaybounds/analysis/FlowSet$Builder")) :: ws) ({ frames := 0, cells := 0, slots := 0, locals := 0 } : Room)) (fun a U => a = #[(.ref a1), (.int p2)] ∧ Z.Warmed39 U.vm ∧ U.heap = h0) (fun _ _ _ _ _ => True) (fun _ U o U' => ∃ v L, o = .returned v ∧ QA Z a1 aA kA (4 : Int32) (3 : Int32) [(.int x0), (.int x1), (.int p2), (.int (0 : Int32))] h0 n0 v U'.heap L ∧ FrameEnd U o U' L ({ frames := 0, cells := 0, slots := 0, locals := 0 } : Room).cells ({ frames := 0, cells := 0, slots := 0, locals := 0 } : Room).slots) := by
  refine MetFree.of_bodySF (plainFor_of_name pn_2) hisR ?_
  intro p e s m args below meth c s₁ Bd hml0 hP hK
  obtain ⟨rfl, hZ, hh⟩ := hP
  have hx := Bd.exec
  have hby := Bd.bytes
  have hml : c.maxLocals = 2 := hml0
  have hown : s.vm.findClass "com/example/hard_delay_bounds/harddelaybounds/analysis/FlowSet$Builder" = some m.cls := findClass_of_methodNamed Bd.named
  have hnm := (name_of_methodNamed Bd.named Bd.method).1
  have X0 : Stand p l e ({ frames := 0, cells := 0, slots := 0, locals := 0 } : Room) s m #[(.ref a1), (.int p2)] below meth c s₁ [] 0 0 := Stand.of_body Bd
  have e0 : s₁.heap = h0 := by rw [← hh, Bd.state]; rfl
  have N0 := Fr.nil n0
  have pre0 : ∀ t, Steps p.tables e below (s₁.setTop (mkF m 0 #[.val (.ref a1), .val (.int p2)] [])) t → Steps p.tables e below (s₁.setTop (entryFrame m #[(.ref a1), (.int p2)] 2)) t := fun t k => castTop (ef_4 m a1 p2) k
  have KK := Keep.refl h0 [a1, aA]
  obtain ⟨T27, X27, e27, st27⟩ := getF X0 hx hZ hown (host := "") (Or.inl (ww hw 24 rfl)) Via.refl e0 F_size_a1 (g := (mkF m 1 #[.val (.ref a1), .val (.int p2)] [(.ref a1)])) rfl rfl (hb hby d4_1)
  obtain ⟨T28, X28, e28, st28⟩ := getF X27 hx hZ hown (host := "") (Or.inl (ww hw 17 rfl)) Via.refl e27 F_numbers_a1 (g := (mkF m 9 #[.val (.ref a1), .val (.int p2)] [(.ref a1), (.int p2)])) rfl rfl (hb hby d4_9)
  obtain ⟨T29, X29, e29, st29⟩ := getF X28 hx hZ hown (host := "") (Or.inl (ww hw 24 rfl)) Via.refl e28 F_size_a1 (g := (mkF m 13 #[.val (.ref a1), .val (.int p2)] [(.ref a1), (.ref aA), (.int p2)])) rfl rfl (hb hby d4_13)
  obtain ⟨cl30, Ar30, q30, Sz30, Nn30, Hh30, Gg30⟩ := id V_aA
  have hin30 : ¬ ((1 : Int32) < 0 ∨ cl30.slots.size ≤ ((1 : Int32)).toNatClampNeg) := inb_of Sz30 ⟨by decide, by decide⟩
  have hat30 : cl30.slots[((1 : Int32)).toNatClampNeg]? = some (.int x1) := Hh30.at hin30 rfl
  obtain ⟨T31, X31, e31, st31⟩ := getF X29 hx hZ hown (host := "") (Or.inl (ww hw 24 rfl)) Via.refl e29 F_size_a1 (g := (mkF m 33 #[.val (.ref a1), .val (.int p2)] [(.ref a1)])) rfl rfl (hb hby d4_33)
  obtain ⟨T32, X32, e32, st32⟩ := getF X31 hx hZ hown (host := "") (Or.inl (ww hw 17 rfl)) Via.refl e31 F_numbers_a1 (g := (mkF m 37 #[.val (.ref a1), .val (.int p2)] [(.ref a1), (.int (2 : Int32))])) rfl rfl (hb hby d4_37)
  obtain ⟨cl33, Ar33, q33, Sz33, Nn33, Hh33, Gg33⟩ := id V_aA
  obtain ⟨T34, X34, e34, st34⟩ := getF X32 hx hZ hown (host := "") (Or.inl (ww hw 17 rfl)) Via.refl e32 F_numbers_a1 (g := (mkF m 62 #[.val (.ref a1), .val (.int p2)] [(.ref a1)])) rfl rfl (hb hby d4_62)
  obtain ⟨T35, X35, e35, st35⟩ := getF X34 hx hZ hown (host := "") (Or.inl (ww hw 24 rfl)) Via.refl e34 F_size_a1 (g := (mkF m 67 #[.val (.ref a1), .val (.int p2)] [(.ref a1), (.ref a1), (.ref aA)])) rfl rfl (hb hby d4_67)
  obtain ⟨T36, h36, X36, e36, W36, st36⟩ := putF X35 hx hZ hown (host := "") (Or.inl (ww hw 24 rfl)) Via.refl e35 F_size_a1 E_a1 (Or.inl (ww hw 25 rfl)) (ww hw 8 rfl) (ty := .int) (by decide) rfl rfl (g := (mkF m 73 #[.val (.ref a1), .val (.int p2)] [(.int (3 : Int32)), (.ref a1), (.int (2 : Int32)), (.ref aA)])) rfl rfl (hb hby d4_73)
  replace E_a1 := E_a1.wr W36
  replace F_numbers_a1 := F_numbers_a1.other W36 (Or.inr (slot_ne (Or.inl (ww hw 18 rfl)) (Or.inl (ww hw 25 rfl)) (by decide) (t := (.array .int)) (t' := .int) (by decide) (by decide)))
  replace F_size_a1 := F_size_a1.same W36
  replace E_aA := E_aA.wr W36
  replace V_aA := V_aA.other W36 (Ne.symm ne_a1_aA)
  replace Z0 := Nat.le_trans Z0 (Keep.of_wr W36).1
  replace KK := KK.wr W36 (Or.inl (List.mem_of_getElem? (i := 0) rfl))
  have N36 := Fr.snoc X36 N0 g_a1
  obtain ⟨cl37, Ar37, q37, Sz37, Nn37, Hh37, Gg37⟩ := V_aA
  have hin37 : ¬ ((2 : Int32) < 0 ∨ cl37.slots.size ≤ ((2 : Int32)).toNatClampNeg) := inb_of Sz37 ⟨by decide, by decide⟩
  obtain ⟨T38, h38, X38, e38, W38, st38⟩ := stI X36 hx hZ e36 Ar37 (j := (2 : Int32)) hin37 (g := (mkF m 77 #[.val (.ref a1), .val (.int p2)] [(.int p2), (.int (2 : Int32)), (.ref aA)])) rfl rfl (hb hby d4_77)
  replace E_a1 := E_a1.wr W38
  replace F_numbers_a1 := F_numbers_a1.other W38 (Or.inl ne_a1_aA)
  replace F_size_a1 := F_size_a1.other W38 (Or.inl ne_a1_aA)
  replace E_aA := E_aA.wr W38
  replace Z0 := Nat.le_trans Z0 (Keep.of_wr W38).1
  replace KK := KK.wr W38 (Or.inl (List.mem_of_getElem? (i := 1) rfl))
  have V_aA : Arv Z h38 aA kA .int (4 : Int32) [(.int x0), (.int x1), (.int p2), (.int (0 : Int32))] (.int (0 : Int32)) := Arv.set Ar37 q37 Sz37 Nn37 Hh37 Gg37 rfl W38 2 rfl (Nat.le_of_ble_eq_true rfl)
  have N38 := Fr.snoc X38 N36 g_aA
  obtain ⟨fs, hr, hrun, hended, hW, hsame⟩ := X38.leave (v := some (.ref a1)) (fun h => by rw [Bd.returns] at h; cases h)
  refine ⟨_, _, pre0 _ ?_, hrun, hended, _, _, rfl, ?_, ⟨_, rfl⟩, hW, hsame.mono (by decide) (by decide)⟩
  · refine y_aloadN X0.here hx (hb hby d4_0) rfl rfl ?_
    refine st27 _ ?_
    show Steps p.tables e below (T27.setTop (mkF m 4 #[.val (.ref a1), .val (.int p2)] [(.int (2 : Int32))])) _
    refine y_ifNo X27.here hx (hb hby d4_4) ((if0 _ _).trans (tlt (by decide)).2.2.2) ?_
    refine y_iloadN X27.here hx (hb hby d4_7) rfl ?_
    refine y_aloadN X27.here hx (hb hby d4_8) rfl rfl ?_
    refine st28 _ ?_
    show Steps p.tables e below (T28.setTop (mkF m 12 #[.val (.ref a1), .val (.int p2)] [(.ref aA), (.int p2)])) _
    refine y_aloadN X28.here hx (hb hby d4_12) rfl rfl ?_
    refine st29 _ ?_
    show Steps p.tables e below (T29.setTop (mkF m 16 #[.val (.ref a1), .val (.int p2)] [(.int (2 : Int32)), (.ref aA), (.int p2)])) _
    refine y_iconst X29.here hx (v := (1 : Int32)) (hb hby d4_16) rfl ?_
    refine y_isub X29.here hx (hb hby d4_17) ?_
    rw [show ((2 : Int32) - (1 : Int32)) = (1 : Int32) from by decide]
    refine X29.iaload hx (j := (1 : Int32)) (v := (.int x1)) (by rw [e29]; exact Ar30.1) (State.isArrayOf_alike hZ.alike Ar30.2.1) Ar30.2.2 hin30 hat30 (g := (mkF m 18 #[.val (.ref a1), .val (.int p2)] [(.int (1 : Int32)), (.ref aA), (.int p2)])) rfl rfl (hb hby d4_18) _ ?_
    show Steps p.tables e below (T29.setTop (mkF m 19 #[.val (.ref a1), .val (.int p2)] [(.int x1), (.int p2)])) _
    refine y_icmpYes X29.here hx (pc' := 32) (hb hby d4_19) (tlt hlt).2.2.1 (by decide) (by decide) ?_
    refine y_aloadN X29.here hx (hb hby d4_32) rfl rfl ?_
    refine st31 _ ?_
    show Steps p.tables e below (T31.setTop (mkF m 36 #[.val (.ref a1), .val (.int p2)] [(.int (2 : Int32))])) _
    refine y_aloadN X31.here hx (hb hby d4_36) rfl rfl ?_
    refine st32 _ ?_
    show Steps p.tables e below (T32.setTop (mkF m 40 #[.val (.ref a1), .val (.int p2)] [(.ref aA), (.int (2 : Int32))])) _
    refine X32.arraylength hx (by rw [e32]; exact Ar33.1) (State.isArrayOf_alike hZ.alike Ar33.2.1) (g := (mkF m 40 #[.val (.ref a1), .val (.int p2)] [(.ref aA), (.int (2 : Int32))])) rfl rfl (hb hby d4_40) _ ?_
    rw [len_of Sz33 Nn33]
    show Steps p.tables e below (T32.setTop (mkF m 41 #[.val (.ref a1), .val (.int p2)] [(.int (4 : Int32)), (.int (2 : Int32))])) _
    refine y_icmpYes X32.here hx (pc' := 61) (hb hby d4_41) (feq (by decide)).2 (by decide) (by decide) ?_
    refine y_aloadN X32.here hx (hb hby d4_61) rfl rfl ?_
    refine st34 _ ?_
    show Steps p.tables e below (T34.setTop (mkF m 65 #[.val (.ref a1), .val (.int p2)] [(.ref aA)])) _
    refine y_aloadN X34.here hx (hb hby d4_65) rfl rfl ?_
    refine y_dup X34.here hx (hb hby d4_66) rfl ?_
    refine st35 _ ?_
    show Steps p.tables e below (T35.setTop (mkF m 70 #[.val (.ref a1), .val (.int p2)] [(.int (2 : Int32)), (.ref a1), (.ref aA)])) _
    refine y_dupX1 X35.here hx (hb hby d4_70) rfl rfl ?_
    refine y_iconst X35.here hx (v := (1 : Int32)) (hb hby d4_71) rfl ?_
    refine y_iadd X35.here hx (hb hby d4_72) ?_
    rw [show ((2 : Int32) + (1 : Int32)) = (3 : Int32) from by decide]
    refine st36 _ ?_
    show Steps p.tables e below (T36.setTop (mkF m 76 #[.val (.ref a1), .val (.int p2)] [(.int (2 : Int32)), (.ref aA)])) _
    refine y_iloadN X36.here hx (hb hby d4_76) rfl ?_
    refine st38 _ ?_
    show Steps p.tables e below (T38.setTop (mkF m 78 #[.val (.ref a1), .val (.int p2)] [])) _
    refine y_aloadN X38.here hx (hb hby d4_78) rfl rfl ?_
    show Steps p.tables e below (T38.setTop (mkF m 79 #[.val (.ref a1), .val (.int p2)] [(.ref a1)])) _
    jvm_step X38.here [X38.here.top, hx, (hb hby d4_79), X38.method', Bd.returns, Value.isRef, FieldType.isReference]
    first | (intro acts; rw [hr _ acts rfl rfl rfl]) | rw [hr _ _ rfl rfl rfl]
    exact Steps.refl _
  · show QA Z a1 aA kA (4 : Int32) (3 : Int32) [(.int x0), (.int x1), (.int p2), (.int (0 : Int32))] h0 n0 _ T38.heap _
    rw [e38]
    exact ⟨rfl, N38, KK, F_size_a1, F_numbers_a1, V_aA⟩
set_option maxRecDepth 65536 in
set_option maxHeartbeats 40000000 in
theorem rm4_3 (l : Launch) (Z : State) (a0 : Array Value) (hw : ∀ d ∈ tables_1, d.before a0 Z = true) (ws : List Jvm.Cond) (a1 : Addr) (p2 : Int32) (aA : Addr) (kA : ClassId) (x0 : Int32) (x1 : Int32) (x2 : Int32) (h0 : Heap) (n0 : Nat) (Z0 : n0 ≤ h0.size) (hlt : x2 < p2) (E_a1 : Exa Z h0 a1 "com/example/hard_delay_bounds/harddelaybounds/analysis/FlowSet$Builder") (F_numbers_a1 : Fld Z h0 a1 "com/example/hard_delay_bounds/harddelaybounds/analysis/FlowSet$Builder" "numbers" "[I" (.ref aA)) (F_size_a1 : Fld Z h0 a1 "com/example/hard_delay_bounds/harddelaybounds/analysis/FlowSet$Builder" "size" "I" (.int (3 : Int32))) (E_aA : Exa Z h0 aA "[I") (V_aA : Arv Z h0 aA kA .int (4 : Int32) [(.int x0), (.int x1), (.int x2), (.int (0 : Int32))] (.int (0 : Int32))) (g_a1 : n0 ≤ a1) (g_aA : n0 ≤ aA) (ne_a1_aA : a1 ≠ aA) :
    MetFree l mn2 (head1 (Jvm.Cond.code mn2 prog_19_method_2_code 2 (some (.object "com/example/hard_delay_bounds/harddelaybounds/analysis/FlowSet$Builder")) :: ws) ({ frames := 0, cells := 0, slots := 0, locals := 0 } : Room)) (fun a U => a = #[(.ref a1), (.int p2)] ∧ Z.Warmed39 U.vm ∧ U.heap = h0) (fun _ _ _ _ _ => True) (fun _ U o U' => ∃ v L, o = .returned v ∧ QA Z a1 aA kA (4 : Int32) (4 : Int32) [(.int x0), (.int x1), (.int x2), (.int p2)] h0 n0 v U'.heap L ∧ FrameEnd U o U' L ({ frames := 0, cells := 0, slots := 0, locals := 0 } : Room).cells ({ frames := 0, cells := 0, slots := 0, locals := 0 } : Room).slots) := by
  refine MetFree.of_bodySF (plainFor_of_name pn_2) hisR ?_
  intro p e s m args below meth c s₁ Bd hml0 hP hK
  obtain ⟨rfl, hZ, hh⟩ := hP
  have hx := Bd.exec
  have hby := Bd.bytes
  have hml : c.maxLocals = 2 := hml0
  have hown : s.vm.findClass "com/example/hard_delay_bounds/harddelaybounds/analysis/FlowSet$Builder" = some m.cls := findClass_of_methodNamed Bd.named
  have hnm := (name_of_methodNamed Bd.named Bd.method).1
  have X0 : Stand p l e ({ frames := 0, cells := 0, slots := 0, locals := 0 } : Room) s m #[(.ref a1), (.int p2)] below meth c s₁ [] 0 0 := Stand.of_body Bd
  have e0 : s₁.heap = h0 := by rw [← hh, Bd.state]; rfl
  have N0 := Fr.nil n0
  have pre0 : ∀ t, Steps p.tables e below (s₁.setTop (mkF m 0 #[.val (.ref a1), .val (.int p2)] [])) t → Steps p.tables e below (s₁.setTop (entryFrame m #[(.ref a1), (.int p2)] 2)) t := fun t k => castTop (ef_4 m a1 p2) k
  have KK := Keep.refl h0 [a1, aA]
  obtain ⟨T39, X39, e39, st39⟩ := getF X0 hx hZ hown (host := "") (Or.inl (ww hw 24 rfl)) Via.refl e0 F_size_a1 (g := (mkF m 1 #[.val (.ref a1), .val (.int p2)] [(.ref a1)])) rfl rfl (hb hby d4_1)
  obtain ⟨T40, X40, e40, st40⟩ := getF X39 hx hZ hown (host := "") (Or.inl (ww hw 17 rfl)) Via.refl e39 F_numbers_a1 (g := (mkF m 9 #[.val (.ref a1), .val (.int p2)] [(.ref a1), (.int p2)])) rfl rfl (hb hby d4_9)
  obtain ⟨T41, X41, e41, st41⟩ := getF X40 hx hZ hown (host := "") (Or.inl (ww hw 24 rfl)) Via.refl e40 F_size_a1 (g := (mkF m 13 #[.val (.ref a1), .val (.int p2)] [(.ref a1), (.ref aA), (.int p2)])) rfl rfl (hb hby d4_13)
  obtain ⟨cl42, Ar42, q42, Sz42, Nn42, Hh42, Gg42⟩ := id V_aA
  have hin42 : ¬ ((2 : Int32) < 0 ∨ cl42.slots.size ≤ ((2 : Int32)).toNatClampNeg) := inb_of Sz42 ⟨by decide, by decide⟩
  have hat42 : cl42.slots[((2 : Int32)).toNatClampNeg]? = some (.int x2) := Hh42.at hin42 rfl
  obtain ⟨T43, X43, e43, st43⟩ := getF X41 hx hZ hown (host := "") (Or.inl (ww hw 24 rfl)) Via.refl e41 F_size_a1 (g := (mkF m 33 #[.val (.ref a1), .val (.int p2)] [(.ref a1)])) rfl rfl (hb hby d4_33)
  obtain ⟨T44, X44, e44, st44⟩ := getF X43 hx hZ hown (host := "") (Or.inl (ww hw 17 rfl)) Via.refl e43 F_numbers_a1 (g := (mkF m 37 #[.val (.ref a1), .val (.int p2)] [(.ref a1), (.int (3 : Int32))])) rfl rfl (hb hby d4_37)
  obtain ⟨cl45, Ar45, q45, Sz45, Nn45, Hh45, Gg45⟩ := id V_aA
  obtain ⟨T46, X46, e46, st46⟩ := getF X44 hx hZ hown (host := "") (Or.inl (ww hw 17 rfl)) Via.refl e44 F_numbers_a1 (g := (mkF m 62 #[.val (.ref a1), .val (.int p2)] [(.ref a1)])) rfl rfl (hb hby d4_62)
  obtain ⟨T47, X47, e47, st47⟩ := getF X46 hx hZ hown (host := "") (Or.inl (ww hw 24 rfl)) Via.refl e46 F_size_a1 (g := (mkF m 67 #[.val (.ref a1), .val (.int p2)] [(.ref a1), (.ref a1), (.ref aA)])) rfl rfl (hb hby d4_67)
  obtain ⟨T48, h48, X48, e48, W48, st48⟩ := putF X47 hx hZ hown (host := "") (Or.inl (ww hw 24 rfl)) Via.refl e47 F_size_a1 E_a1 (Or.inl (ww hw 25 rfl)) (ww hw 8 rfl) (ty := .int) (by decide) rfl rfl (g := (mkF m 73 #[.val (.ref a1), .val (.int p2)] [(.int (4 : Int32)), (.ref a1), (.int (3 : Int32)), (.ref aA)])) rfl rfl (hb hby d4_73)
  replace E_a1 := E_a1.wr W48
  replace F_numbers_a1 := F_numbers_a1.other W48 (Or.inr (slot_ne (Or.inl (ww hw 18 rfl)) (Or.inl (ww hw 25 rfl)) (by decide) (t := (.array .int)) (t' := .int) (by decide) (by decide)))
  replace F_size_a1 := F_size_a1.same W48
  replace E_aA := E_aA.wr W48
  replace V_aA := V_aA.other W48 (Ne.symm ne_a1_aA)
  replace Z0 := Nat.le_trans Z0 (Keep.of_wr W48).1
  replace KK := KK.wr W48 (Or.inl (List.mem_of_getElem? (i := 0) rfl))
  have N48 := Fr.snoc X48 N0 g_a1
  obtain ⟨cl49, Ar49, q49, Sz49, Nn49, Hh49, Gg49⟩ := V_aA
  have hin49 : ¬ ((3 : Int32) < 0 ∨ cl49.slots.size ≤ ((3 : Int32)).toNatClampNeg) := inb_of Sz49 ⟨by decide, by decide⟩
  obtain ⟨T50, h50, X50, e50, W50, st50⟩ := stI X48 hx hZ e48 Ar49 (j := (3 : Int32)) hin49 (g := (mkF m 77 #[.val (.ref a1), .val (.int p2)] [(.int p2), (.int (3 : Int32)), (.ref aA)])) rfl rfl (hb hby d4_77)
  replace E_a1 := E_a1.wr W50
  replace F_numbers_a1 := F_numbers_a1.other W50 (Or.inl ne_a1_aA)
  replace F_size_a1 := F_size_a1.other W50 (Or.inl ne_a1_aA)
  replace E_aA := E_aA.wr W50
  replace Z0 := Nat.le_trans Z0 (Keep.of_wr W50).1
  replace KK := KK.wr W50 (Or.inl (List.mem_of_getElem? (i := 1) rfl))
  have V_aA : Arv Z h50 aA kA .int (4 : Int32) [(.int x0), (.int x1), (.int x2), (.int p2)] (.int (0 : Int32)) := Arv.set Ar49 q49 Sz49 Nn49 Hh49 Gg49 rfl W50 3 rfl (Nat.le_of_ble_eq_true rfl)
  have N50 := Fr.snoc X50 N48 g_aA
  obtain ⟨fs, hr, hrun, hended, hW, hsame⟩ := X50.leave (v := some (.ref a1)) (fun h => by rw [Bd.returns] at h; cases h)
  refine ⟨_, _, pre0 _ ?_, hrun, hended, _, _, rfl, ?_, ⟨_, rfl⟩, hW, hsame.mono (by decide) (by decide)⟩
  · refine y_aloadN X0.here hx (hb hby d4_0) rfl rfl ?_
    refine st39 _ ?_
    show Steps p.tables e below (T39.setTop (mkF m 4 #[.val (.ref a1), .val (.int p2)] [(.int (3 : Int32))])) _
    refine y_ifNo X39.here hx (hb hby d4_4) ((if0 _ _).trans (tlt (by decide)).2.2.2) ?_
    refine y_iloadN X39.here hx (hb hby d4_7) rfl ?_
    refine y_aloadN X39.here hx (hb hby d4_8) rfl rfl ?_
    refine st40 _ ?_
    show Steps p.tables e below (T40.setTop (mkF m 12 #[.val (.ref a1), .val (.int p2)] [(.ref aA), (.int p2)])) _
    refine y_aloadN X40.here hx (hb hby d4_12) rfl rfl ?_
    refine st41 _ ?_
    show Steps p.tables e below (T41.setTop (mkF m 16 #[.val (.ref a1), .val (.int p2)] [(.int (3 : Int32)), (.ref aA), (.int p2)])) _
    refine y_iconst X41.here hx (v := (1 : Int32)) (hb hby d4_16) rfl ?_
    refine y_isub X41.here hx (hb hby d4_17) ?_
    rw [show ((3 : Int32) - (1 : Int32)) = (2 : Int32) from by decide]
    refine X41.iaload hx (j := (2 : Int32)) (v := (.int x2)) (by rw [e41]; exact Ar42.1) (State.isArrayOf_alike hZ.alike Ar42.2.1) Ar42.2.2 hin42 hat42 (g := (mkF m 18 #[.val (.ref a1), .val (.int p2)] [(.int (2 : Int32)), (.ref aA), (.int p2)])) rfl rfl (hb hby d4_18) _ ?_
    show Steps p.tables e below (T41.setTop (mkF m 19 #[.val (.ref a1), .val (.int p2)] [(.int x2), (.int p2)])) _
    refine y_icmpYes X41.here hx (pc' := 32) (hb hby d4_19) (tlt hlt).2.2.1 (by decide) (by decide) ?_
    refine y_aloadN X41.here hx (hb hby d4_32) rfl rfl ?_
    refine st43 _ ?_
    show Steps p.tables e below (T43.setTop (mkF m 36 #[.val (.ref a1), .val (.int p2)] [(.int (3 : Int32))])) _
    refine y_aloadN X43.here hx (hb hby d4_36) rfl rfl ?_
    refine st44 _ ?_
    show Steps p.tables e below (T44.setTop (mkF m 40 #[.val (.ref a1), .val (.int p2)] [(.ref aA), (.int (3 : Int32))])) _
    refine X44.arraylength hx (by rw [e44]; exact Ar45.1) (State.isArrayOf_alike hZ.alike Ar45.2.1) (g := (mkF m 40 #[.val (.ref a1), .val (.int p2)] [(.ref aA), (.int (3 : Int32))])) rfl rfl (hb hby d4_40) _ ?_
    rw [len_of Sz45 Nn45]
    show Steps p.tables e below (T44.setTop (mkF m 41 #[.val (.ref a1), .val (.int p2)] [(.int (4 : Int32)), (.int (3 : Int32))])) _
    refine y_icmpYes X44.here hx (pc' := 61) (hb hby d4_41) (feq (by decide)).2 (by decide) (by decide) ?_
    refine y_aloadN X44.here hx (hb hby d4_61) rfl rfl ?_
    refine st46 _ ?_
    show Steps p.tables e below (T46.setTop (mkF m 65 #[.val (.ref a1), .val (.int p2)] [(.ref aA)])) _
    refine y_aloadN X46.here hx (hb hby d4_65) rfl rfl ?_
    refine y_dup X46.here hx (hb hby d4_66) rfl ?_
    refine st47 _ ?_
    show Steps p.tables e below (T47.setTop (mkF m 70 #[.val (.ref a1), .val (.int p2)] [(.int (3 : Int32)), (.ref a1), (.ref aA)])) _
    refine y_dupX1 X47.here hx (hb hby d4_70) rfl rfl ?_
    refine y_iconst X47.here hx (v := (1 : Int32)) (hb hby d4_71) rfl ?_
    refine y_iadd X47.here hx (hb hby d4_72) ?_
    rw [show ((3 : Int32) + (1 : Int32)) = (4 : Int32) from by decide]
    refine st48 _ ?_
    show Steps p.tables e below (T48.setTop (mkF m 76 #[.val (.ref a1), .val (.int p2)] [(.int (3 : Int32)), (.ref aA)])) _
    refine y_iloadN X48.here hx (hb hby d4_76) rfl ?_
    refine st50 _ ?_
    show Steps p.tables e below (T50.setTop (mkF m 78 #[.val (.ref a1), .val (.int p2)] [])) _
    refine y_aloadN X50.here hx (hb hby d4_78) rfl rfl ?_
    show Steps p.tables e below (T50.setTop (mkF m 79 #[.val (.ref a1), .val (.int p2)] [(.ref a1)])) _
    jvm_step X50.here [X50.here.top, hx, (hb hby d4_79), X50.method', Bd.returns, Value.isRef, FieldType.isReference]
    first | (intro acts; rw [hr _ acts rfl rfl rfl]) | rw [hr _ _ rfl rfl rfl]
    exact Steps.refl _
  · show QA Z a1 aA kA (4 : Int32) (4 : Int32) [(.int x0), (.int x1), (.int x2), (.int p2)] h0 n0 _ T50.heap _
    rw [e50]
    exact ⟨rfl, N50, KK, F_size_a1, F_numbers_a1, V_aA⟩
theorem d6_0 : decode jdk_65_method_123_code 0 = .ok (.iload_n 1, 1) := by decide +kernel
theorem d6_1 : decode jdk_65_method_123_code 1 = .ok (.aload_n 0, 1) := by decide +kernel
theorem d6_2 : decode jdk_65_method_123_code 2 = .ok (.arraylength, 1) := by decide +kernel
theorem d6_3 : decode jdk_65_method_123_code 3 = .ok (.if_icmp .ne 11, 3) := by decide +kernel
theorem d6_14 : decode jdk_65_method_123_code 14 = .ok (.iload_n 1, 1) := by decide +kernel
theorem d6_15 : decode jdk_65_method_123_code 15 = .ok (.newarray .int, 2) := by decide +kernel
theorem d6_17 : decode jdk_65_method_123_code 17 = .ok (.astore_n 2, 1) := by decide +kernel
theorem d6_18 : decode jdk_65_method_123_code 18 = .ok (.aload_n 0, 1) := by decide +kernel
theorem d6_19 : decode jdk_65_method_123_code 19 = .ok (.iconst 0, 1) := by decide +kernel
theorem d6_20 : decode jdk_65_method_123_code 20 = .ok (.aload_n 2, 1) := by decide +kernel
theorem d6_21 : decode jdk_65_method_123_code 21 = .ok (.iconst 0, 1) := by decide +kernel
theorem d6_22 : decode jdk_65_method_123_code 22 = .ok (.aload_n 0, 1) := by decide +kernel
theorem d6_23 : decode jdk_65_method_123_code 23 = .ok (.arraylength, 1) := by decide +kernel
theorem d6_24 : decode jdk_65_method_123_code 24 = .ok (.iload_n 1, 1) := by decide +kernel
theorem d6_25 : decode jdk_65_method_123_code 25 = .ok (.invokestatic 304, 3) := by decide +kernel
theorem pd_0 : parseMethodDescriptor "(II)I" = some ⟨[.int, .int], some .int⟩ := by decide +kernel
theorem d6_28 : decode jdk_65_method_123_code 28 = .ok (.invokestatic 150, 3) := by decide +kernel
theorem d6_31 : decode jdk_65_method_123_code 31 = .ok (.aload_n 2, 1) := by decide +kernel
theorem d6_32 : decode jdk_65_method_123_code 32 = .ok (.areturn, 1) := by decide +kernel
abbrev mn3 : MethodName := ⟨"java/util/Arrays", "copyOf", "([II)[I"⟩
theorem pn_6 : plainName "java/util/Arrays" = true := by first | (simp [plainName, overriddenIn]; done) | decide +kernel
theorem ef_6 (m : MethodId) (x0 : Addr) (x1 : Int32) : entryFrame m #[(.ref x0), (.int x1)] 3 = mkF m 0 #[.val (.ref x0), .val (.int x1), .unset] [] := by first | (simp [entryFrame, mkF, argsToLocals, Value.category]; done) | rfl
set_option maxRecDepth 65536 in
set_option maxHeartbeats 40000000 in
theorem rm6_4_4_8 (l : Launch) (Z : State) (a0 : Array Value) (hw : ∀ d ∈ tables_1, d.before a0 Z = true) (ws : List Jvm.Cond) (a1 : Addr) (k1 : ClassId) (x0 : Int32) (x1 : Int32) (x2 : Int32) (x3 : Int32) (h0 : Heap) (n0 : Nat) (Z0 : n0 ≤ h0.size) (E_a1 : Exa Z h0 a1 "[I") (V_a1 : Arv Z h0 a1 k1 .int (4 : Int32) [(.int x0), (.int x1), (.int x2), (.int x3)] (.int (0 : Int32))) :
    MetFree l mn3 (head1 (Jvm.Cond.code mn3 jdk_65_method_123_code 3 (some (.array .int)) :: ws) ({ frames := 1, cells := 1, slots := 8, locals := 18 } : Room)) (fun a U => a = #[(.ref a1), (.int (8 : Int32))] ∧ Z.Warmed39 U.vm ∧ U.heap = h0) (fun _ _ _ _ _ => True) (fun _ U o U' => ∃ v L, o = .returned v ∧ QC Z (8 : Int32) [(.int x0), (.int x1), (.int x2), (.int x3), (.int (0 : Int32)), (.int (0 : Int32)), (.int (0 : Int32)), (.int (0 : Int32))] h0 n0 v U'.heap L ∧ FrameEnd U o U' L ({ frames := 1, cells := 1, slots := 8, locals := 18 } : Room).cells ({ frames := 1, cells := 1, slots := 8, locals := 18 } : Room).slots) := by
  refine MetFree.of_bodySF (plainFor_of_name pn_6) hisR ?_
  intro p e s m args below meth c s₁ Bd hml0 hP hK
  obtain ⟨rfl, hZ, hh⟩ := hP
  have hx := Bd.exec
  have hby := Bd.bytes
  have hml : c.maxLocals = 3 := hml0
  have hown : s.vm.findClass "java/util/Arrays" = some m.cls := findClass_of_methodNamed Bd.named
  have hnm := (name_of_methodNamed Bd.named Bd.method).1
  have X0 : Stand p l e ({ frames := 1, cells := 1, slots := 8, locals := 18 } : Room) s m #[(.ref a1), (.int (8 : Int32))] below meth c s₁ [] 0 0 := Stand.of_body Bd
  have e0 : s₁.heap = h0 := by rw [← hh, Bd.state]; rfl
  have N0 := Fr.nil n0
  have pre0 : ∀ t, Steps p.tables e below (s₁.setTop (mkF m 0 #[.val (.ref a1), .val (.int (8 : Int32)), .unset] [])) t → Steps p.tables e below (s₁.setTop (entryFrame m #[(.ref a1), (.int (8 : Int32))] 3)) t := fun t k => castTop (ef_6 m a1 (8 : Int32)) k
  have KK := Keep.refl h0 []
  obtain ⟨cl51, Ar51, q51, Sz51, Nn51, Hh51, Gg51⟩ := id V_a1
  obtain ⟨T52, h52, k52, X52, e52, E52, A52, Ex52, st52⟩ := newPE X0 hx hZ (ww hw 16 rfl) e0 (g := (mkF m 15 #[.val (.ref a1), .val (.int (8 : Int32)), .unset] [(.int (8 : Int32))])) rfl (hb hby d6_15) rfl (by decide) (cap := 8) (by decide) (by decide) (by decide) (by decide) (ad := "[I") (by first | rfl | decide)
  obtain ⟨b52, g52⟩ : ∃ z, z = h0.size := ⟨_, rfl⟩
  rw [← g52] at A52 Ex52 st52
  have g_b52 : n0 ≤ b52 := Nat.le_trans Z0 (Nat.le_of_eq g52.symm)
  have sz_b52 : h0.size ≤ b52 := Nat.le_trans KK.1 (Nat.le_of_eq g52.symm)
  have ne_a1_b52 : a1 ≠ b52 := Nat.ne_of_lt (Nat.lt_of_lt_of_le E_a1.lt (Nat.le_of_eq g52.symm))
  replace E_a1 := E_a1.ext E52
  replace V_a1 := V_a1.ext E52
  replace Z0 := Nat.le_trans Z0 E52.1
  replace KK := KK.ext E52
  have V_b52 : Arv Z h52 b52 k52 .int (8 : Int32) [(.int (0 : Int32)), (.int (0 : Int32)), (.int (0 : Int32)), (.int (0 : Int32)), (.int (0 : Int32)), (.int (0 : Int32)), (.int (0 : Int32)), (.int (0 : Int32))] (.int (0 : Int32)) := (Arv.new A52 (by decide)).pad (pad_rep [] (.int (0 : Int32)) 8)
  have E_b52 : Exa Z h52 b52 "[I" := Ex52
  obtain ⟨cl53, Ar53, q53, Sz53, Nn53, Hh53, Gg53⟩ := id V_a1
  obtain ⟨_, _, ⟨T54, L54, k54, n54⟩, -, X54, ⟨Lc54, hQ54, l54, y54, z54⟩, st54⟩ := Jvm.LawKit.callS X52 hx (y := mn0) hown (mvT hZ (ww hw 38 rfl)) (mvT hZ (ww hw 3 rfl)) (mvT hZ (ww hw 4 rfl)) (mvT hZ (ww hw 5 rfl)) (by decide) (backOf (W := 4) (rm1 l Z a0 hw [] (4 : Int32) (8 : Int32) h52 n0 Z0) hZ (ww hw 5 rfl) (ww hw 4 rfl) (by decide) (by decide)) (g := (mkF m 25 #[.val (.ref a1), .val (.int (8 : Int32)), .val (.ref b52)] [(.int (8 : Int32)), (.int (4 : Int32)), (.int (0 : Int32)), (.ref b52), (.int (0 : Int32)), (.ref a1)])) rfl (by rw [hml]; rfl) (argsL := [(.int (4 : Int32)), (.int (8 : Int32))]) (rest := [(.int (0 : Int32)), (.ref b52), (.int (0 : Int32)), (.ref a1)]) (lenOf pd_0 rfl) rfl (by show 2 * 0 + _ ≤ _; exact Nat.le_of_eq rfl) (hb hby d6_25) (fun _ _ => ⟨rfl, e52, (by decide : 1 + 0 ≤ _), (by decide : 8 + 0 ≤ _)⟩)
  dsimp only [Pt.U, Pt.locs, Pt.cells, Pt.slots] at X54 l54 y54 z54 st54 hQ54
  subst l54 y54 z54
  obtain ⟨rfl, N54q, e54⟩ := hQ54
  rw [show f1 (4 : Int32) (8 : Int32) = (4 : Int32) from by decide] at st54
  have N54 := Fr.app N0 N54q
  obtain ⟨T55, h55, L55, X55, e55, N55, K55, Vn55, st55⟩ := cpA X54 hx hZ hown (ww hw 39 rfl) (ww hw 42 rfl) (ww hw 40 rfl) (ww hw 41 rfl) e54 (us := [(.int x0), (.int x1), (.int x2), (.int x3)]) V_a1 V_b52 (Or.inl ⟨rfl, rfl⟩) (by decide) (by decide) (by decide) (by decide) (by decide) rfl (by decide) N54 g_b52 (g := (mkF m 28 #[.val (.ref a1), .val (.int (8 : Int32)), .val (.ref b52)] [(.int (4 : Int32)), (.int (0 : Int32)), (.ref b52), (.int (0 : Int32)), (.ref a1)])) rfl (by rw [hml]; rfl) rfl (hb hby d6_28) (by decide) (W := 0) (by show 2 * 0 + _ ≤ _; exact Nat.le_of_eq rfl) (by decide)
  replace E_a1 := E_a1.keep K55
  replace V_a1 := V_a1.keep K55 (ninS ne_a1_b52 nin0)
  replace E_b52 := E_b52.keep K55
  replace Z0 := Nat.le_trans Z0 K55.1
  replace KK := KK.trans K55 (allS (Or.inr sz_b52) all0)
  have V_b52 : Arv Z h55 b52 k52 .int (8 : Int32) [(.int x0), (.int x1), (.int x2), (.int x3), (.int (0 : Int32)), (.int (0 : Int32)), (.int (0 : Int32)), (.int (0 : Int32))] (.int (0 : Int32)) := Vn55
  obtain ⟨fs, hr, hrun, hended, hW, hsame⟩ := X55.leave (v := some (.ref b52)) (fun h => by rw [Bd.returns] at h; cases h)
  refine ⟨_, _, pre0 _ ?_, hrun, hended, _, _, rfl, ?_, ⟨_, rfl⟩, hW, hsame.mono (by decide) (by decide)⟩
  · refine y_iloadN X0.here hx (hb hby d6_0) rfl ?_
    refine y_aloadN X0.here hx (hb hby d6_1) rfl rfl ?_
    refine X0.arraylength hx (by rw [e0]; exact Ar51.1) (State.isArrayOf_alike hZ.alike Ar51.2.1) (g := (mkF m 2 #[.val (.ref a1), .val (.int (8 : Int32)), .unset] [(.ref a1), (.int (8 : Int32))])) rfl rfl (hb hby d6_2) _ ?_
    rw [len_of Sz51 Nn51]
    show Steps p.tables e below (s₁.setTop (mkF m 3 #[.val (.ref a1), .val (.int (8 : Int32)), .unset] [(.int (4 : Int32)), (.int (8 : Int32))])) _
    refine y_icmpYes X0.here hx (pc' := 14) (hb hby d6_3) (feq (by decide)).2 (by decide) (by decide) ?_
    refine y_iloadN X0.here hx (hb hby d6_14) rfl ?_
    refine st52 _ ?_
    show Steps p.tables e below (T52.setTop (mkF m 17 #[.val (.ref a1), .val (.int (8 : Int32)), .unset] [(.ref b52)])) _
    refine y_astoreN X52.here hx (hb hby d6_17) rfl (l' := #[.val (.ref a1), .val (.int (8 : Int32)), .val (.ref b52)]) rfl ?_
    refine y_aloadN X52.here hx (hb hby d6_18) rfl rfl ?_
    refine y_iconst X52.here hx (v := (0 : Int32)) (hb hby d6_19) rfl ?_
    refine y_aloadN X52.here hx (hb hby d6_20) rfl rfl ?_
    refine y_iconst X52.here hx (v := (0 : Int32)) (hb hby d6_21) rfl ?_
    refine y_aloadN X52.here hx (hb hby d6_22) rfl rfl ?_
    refine X52.arraylength hx (by rw [e52]; exact Ar53.1) (State.isArrayOf_alike hZ.alike Ar53.2.1) (g := (mkF m 23 #[.val (.ref a1), .val (.int (8 : Int32)), .val (.ref b52)] [(.ref a1), (.int (0 : Int32)), (.ref b52), (.int (0 : Int32)), (.ref a1)])) rfl rfl (hb hby d6_23) _ ?_
    rw [len_of Sz53 Nn53]
    show Steps p.tables e below (T52.setTop (mkF m 24 #[.val (.ref a1), .val (.int (8 : Int32)), .val (.ref b52)] [(.int (4 : Int32)), (.int (0 : Int32)), (.ref b52), (.int (0 : Int32)), (.ref a1)])) _
    refine y_iloadN X52.here hx (hb hby d6_24) rfl ?_
    refine st54 _ ?_
    show Steps p.tables e below (T54.setTop (mkF m 28 #[.val (.ref a1), .val (.int (8 : Int32)), .val (.ref b52)] [(.int (4 : Int32)), (.int (0 : Int32)), (.ref b52), (.int (0 : Int32)), (.ref a1)])) _
    refine st55 _ ?_
    show Steps p.tables e below (T55.setTop (mkF m 31 #[.val (.ref a1), .val (.int (8 : Int32)), .val (.ref b52)] [])) _
    refine y_aloadN X55.here hx (hb hby d6_31) rfl rfl ?_
    show Steps p.tables e below (T55.setTop (mkF m 32 #[.val (.ref a1), .val (.int (8 : Int32)), .val (.ref b52)] [(.ref b52)])) _
    jvm_step X55.here [X55.here.top, hx, (hb hby d6_32), X55.method', Bd.returns, Value.isRef, FieldType.isReference]
    first | (intro acts; rw [hr _ acts rfl rfl rfl]) | rw [hr _ _ rfl rfl rfl]
    exact Steps.refl _
  · show QC Z (8 : Int32) [(.int x0), (.int x1), (.int x2), (.int x3), (.int (0 : Int32)), (.int (0 : Int32)), (.int (0 : Int32)), (.int (0 : Int32))] h0 n0 _ T55.heap _
    rw [e55]
    exact ⟨b52, _, rfl, N55, KK, sz_b52, V_b52, E_b52⟩
theorem d4_44 : decode prog_19_method_2_code 44 = .ok (.aload_n 0, 1) := by decide +kernel
theorem d4_45 : decode prog_19_method_2_code 45 = .ok (.aload_n 0, 1) := by decide +kernel
theorem d4_46 : decode prog_19_method_2_code 46 = .ok (.getfield 7, 3) := by decide +kernel
theorem d4_49 : decode prog_19_method_2_code 49 = .ok (.iconst 2, 1) := by decide +kernel
theorem d4_50 : decode prog_19_method_2_code 50 = .ok (.aload_n 0, 1) := by decide +kernel
theorem d4_51 : decode prog_19_method_2_code 51 = .ok (.getfield 13, 3) := by decide +kernel
theorem d4_54 : decode prog_19_method_2_code 54 = .ok (.imul, 1) := by decide +kernel
theorem d4_55 : decode prog_19_method_2_code 55 = .ok (.invokestatic 24, 3) := by decide +kernel
theorem pd_1 : parseMethodDescriptor "([II)[I" = some ⟨[(.array .int), .int], some (.array .int)⟩ := by decide +kernel
theorem d4_58 : decode prog_19_method_2_code 58 = .ok (.putfield 7, 3) := by decide +kernel
set_option maxRecDepth 65536 in
set_option maxHeartbeats 40000000 in
theorem rm4_4 (l : Launch) (Z : State) (a0 : Array Value) (hw : ∀ d ∈ tables_1, d.before a0 Z = true) (ws : List Jvm.Cond) (a1 : Addr) (p2 : Int32) (aA : Addr) (kA : ClassId) (x0 : Int32) (x1 : Int32) (x2 : Int32) (x3 : Int32) (h0 : Heap) (n0 : Nat) (Z0 : n0 ≤ h0.size) (hlt : x3 < p2) (E_a1 : Exa Z h0 a1 "com/example/hard_delay_bounds/harddelaybounds/analysis/FlowSet$Builder") (F_numbers_a1 : Fld Z h0 a1 "com/example/hard_delay_bounds/harddelaybounds/analysis/FlowSet$Builder" "numbers" "[I" (.ref aA)) (F_size_a1 : Fld Z h0 a1 "com/example/hard_delay_bounds/harddelaybounds/analysis/FlowSet$Builder" "size" "I" (.int (4 : Int32))) (E_aA : Exa Z h0 aA "[I") (V_aA : Arv Z h0 aA kA .int (4 : Int32) [(.int x0), (.int x1), (.int x2), (.int x3)] (.int (0 : Int32))) (g_a1 : n0 ≤ a1) (ne_a1_aA : a1 ≠ aA) :
    MetFree l mn2 (head1 (Jvm.Cond.code mn2 prog_19_method_2_code 2 (some (.object "com/example/hard_delay_bounds/harddelaybounds/analysis/FlowSet$Builder")) :: ws) ({ frames := 2, cells := 1, slots := 8, locals := 33 } : Room)) (fun a U => a = #[(.ref a1), (.int p2)] ∧ Z.Warmed39 U.vm ∧ U.heap = h0) (fun _ _ _ _ _ => True) (fun _ U o U' => ∃ v L, o = .returned v ∧ QG Z a1 (8 : Int32) (5 : Int32) [(.int x0), (.int x1), (.int x2), (.int x3), (.int p2), (.int (0 : Int32)), (.int (0 : Int32)), (.int (0 : Int32))] h0 n0 v U'.heap L ∧ FrameEnd U o U' L ({ frames := 2, cells := 1, slots := 8, locals := 33 } : Room).cells ({ frames := 2, cells := 1, slots := 8, locals := 33 } : Room).slots) := by
  refine MetFree.of_bodySF (plainFor_of_name pn_2) hisR ?_
  intro p e s m args below meth c s₁ Bd hml0 hP hK
  obtain ⟨rfl, hZ, hh⟩ := hP
  have hx := Bd.exec
  have hby := Bd.bytes
  have hml : c.maxLocals = 2 := hml0
  have hown : s.vm.findClass "com/example/hard_delay_bounds/harddelaybounds/analysis/FlowSet$Builder" = some m.cls := findClass_of_methodNamed Bd.named
  have hnm := (name_of_methodNamed Bd.named Bd.method).1
  have X0 : Stand p l e ({ frames := 2, cells := 1, slots := 8, locals := 33 } : Room) s m #[(.ref a1), (.int p2)] below meth c s₁ [] 0 0 := Stand.of_body Bd
  have e0 : s₁.heap = h0 := by rw [← hh, Bd.state]; rfl
  have N0 := Fr.nil n0
  have pre0 : ∀ t, Steps p.tables e below (s₁.setTop (mkF m 0 #[.val (.ref a1), .val (.int p2)] [])) t → Steps p.tables e below (s₁.setTop (entryFrame m #[(.ref a1), (.int p2)] 2)) t := fun t k => castTop (ef_4 m a1 p2) k
  have KK := Keep.refl h0 [a1]
  obtain ⟨T56, X56, e56, st56⟩ := getF X0 hx hZ hown (host := "") (Or.inl (ww hw 24 rfl)) Via.refl e0 F_size_a1 (g := (mkF m 1 #[.val (.ref a1), .val (.int p2)] [(.ref a1)])) rfl rfl (hb hby d4_1)
  obtain ⟨T57, X57, e57, st57⟩ := getF X56 hx hZ hown (host := "") (Or.inl (ww hw 17 rfl)) Via.refl e56 F_numbers_a1 (g := (mkF m 9 #[.val (.ref a1), .val (.int p2)] [(.ref a1), (.int p2)])) rfl rfl (hb hby d4_9)
  obtain ⟨T58, X58, e58, st58⟩ := getF X57 hx hZ hown (host := "") (Or.inl (ww hw 24 rfl)) Via.refl e57 F_size_a1 (g := (mkF m 13 #[.val (.ref a1), .val (.int p2)] [(.ref a1), (.ref aA), (.int p2)])) rfl rfl (hb hby d4_13)
  obtain ⟨cl59, Ar59, q59, Sz59, Nn59, Hh59, Gg59⟩ := id V_aA
  have hin59 : ¬ ((3 : Int32) < 0 ∨ cl59.slots.size ≤ ((3 : Int32)).toNatClampNeg) := inb_of Sz59 ⟨by decide, by decide⟩
  have hat59 : cl59.slots[((3 : Int32)).toNatClampNeg]? = some (.int x3) := Hh59.at hin59 rfl
  obtain ⟨T60, X60, e60, st60⟩ := getF X58 hx hZ hown (host := "") (Or.inl (ww hw 24 rfl)) Via.refl e58 F_size_a1 (g := (mkF m 33 #[.val (.ref a1), .val (.int p2)] [(.ref a1)])) rfl rfl (hb hby d4_33)
  obtain ⟨T61, X61, e61, st61⟩ := getF X60 hx hZ hown (host := "") (Or.inl (ww hw 17 rfl)) Via.refl e60 F_numbers_a1 (g := (mkF m 37 #[.val (.ref a1), .val (.int p2)] [(.ref a1), (.int (4 : Int32))])) rfl rfl (hb hby d4_37)
  obtain ⟨cl62, Ar62, q62, Sz62, Nn62, Hh62, Gg62⟩ := id V_aA
  obtain ⟨T63, X63, e63, st63⟩ := getF X61 hx hZ hown (host := "") (Or.inl (ww hw 17 rfl)) Via.refl e61 F_numbers_a1 (g := (mkF m 46 #[.val (.ref a1), .val (.int p2)] [(.ref a1), (.ref a1)])) rfl rfl (hb hby d4_46)
  obtain ⟨T64, X64, e64, st64⟩ := getF X63 hx hZ hown (host := "") (Or.inl (ww hw 24 rfl)) Via.refl e63 F_size_a1 (g := (mkF m 51 #[.val (.ref a1), .val (.int p2)] [(.ref a1), (.int (2 : Int32)), (.ref aA), (.ref a1)])) rfl rfl (hb hby d4_51)
  obtain ⟨_, _, ⟨T65, L65, k65, n65⟩, -, X65, ⟨Lc65, hQ65, l65, y65, z65⟩, st65⟩ := Jvm.LawKit.callS X64 hx (y := mn3) hown (mvT hZ (ww hw 34 rfl)) (mvT hZ (ww hw 35 rfl)) (mvT hZ (ww hw 36 rfl)) (mvT hZ (ww hw 37 rfl)) (by decide) (backOf (W := 1) (rm6_4_4_8 l Z a0 hw [] aA kA x0 x1 x2 x3 h0 n0 Z0 E_aA V_aA) hZ (ww hw 37 rfl) (ww hw 36 rfl) (by decide) (by decide)) (g := (mkF m 55 #[.val (.ref a1), .val (.int p2)] [(.int (8 : Int32)), (.ref aA), (.ref a1)])) rfl (by rw [hml]; rfl) (argsL := [(.ref aA), (.int (8 : Int32))]) (rest := [(.ref a1)]) (lenOf pd_1 rfl) rfl (by show 2 * 0 + _ ≤ _; exact Nat.le_of_eq rfl) (hb hby d4_55) (fun _ _ => ⟨rfl, e64, (by decide : 0 + 1 ≤ _), (by decide : 0 + 8 ≤ _)⟩)
  dsimp only [Pt.U, Pt.locs, Pt.cells, Pt.slots] at X65 l65 y65 z65 st65 hQ65
  subst l65 y65 z65
  obtain ⟨h65, e65⟩ : ∃ z, T65.heap = z := ⟨_, rfl⟩
  rw [e65] at hQ65
  obtain ⟨b65, k65, rfl, N65q, K65, s65, Vn65, En65⟩ := hQ65
  have g_b65 : n0 ≤ b65 := Nat.le_trans Z0 s65
  have sz_b65 : h0.size ≤ b65 := Nat.le_trans KK.1 s65
  have ne_a1_b65 : a1 ≠ b65 := Nat.ne_of_lt (Nat.lt_of_lt_of_le E_a1.lt s65)
  have ne_aA_b65 : aA ≠ b65 := Nat.ne_of_lt (Nat.lt_of_lt_of_le E_aA.lt s65)
  replace E_a1 := E_a1.keep K65
  replace F_numbers_a1 := F_numbers_a1.keep K65 nin0
  replace F_size_a1 := F_size_a1.keep K65 nin0
  replace E_aA := E_aA.keep K65
  replace V_aA := V_aA.keep K65 nin0
  replace Z0 := Nat.le_trans Z0 K65.1
  replace KK := KK.trans K65 all0
  have V_b65 : Arv Z h65 b65 k65 .int (8 : Int32) [(.int x0), (.int x1), (.int x2), (.int x3), (.int (0 : Int32)), (.int (0 : Int32)), (.int (0 : Int32)), (.int (0 : Int32))] (.int (0 : Int32)) := Vn65
  have E_b65 := En65
  have N65 := Fr.app N0 N65q
  obtain ⟨T66, h66, X66, e66, W66, st66⟩ := putF X65 hx hZ hown (host := "") (Or.inl (ww hw 17 rfl)) Via.refl e65 F_numbers_a1 E_a1 (Or.inl (ww hw 18 rfl)) (ww hw 8 rfl) (ty := (.array .int)) (by decide) rfl rfl (g := (mkF m 58 #[.val (.ref a1), .val (.int p2)] [(.ref b65), (.ref a1)])) rfl rfl (hb hby d4_58)
  replace E_a1 := E_a1.wr W66
  replace F_numbers_a1 := F_numbers_a1.same W66
  replace F_size_a1 := F_size_a1.other W66 (Or.inr (slot_ne (Or.inl (ww hw 25 rfl)) (Or.inl (ww hw 18 rfl)) (by decide) (t := .int) (t' := (.array .int)) (by decide) (by decide)))
  replace E_aA := E_aA.wr W66
  replace V_aA := V_aA.other W66 (Ne.symm ne_a1_aA)
  replace V_b65 := V_b65.other W66 (Ne.symm ne_a1_b65)
  replace E_b65 := E_b65.wr W66
  replace Z0 := Nat.le_trans Z0 (Keep.of_wr W66).1
  replace KK := KK.wr W66 (Or.inl (List.mem_of_getElem? (i := 0) rfl))
  have N66 := Fr.snoc X66 N65 g_a1
  obtain ⟨T67, X67, e67, st67⟩ := getF X66 hx hZ hown (host := "") (Or.inl (ww hw 17 rfl)) Via.refl e66 F_numbers_a1 (g := (mkF m 62 #[.val (.ref a1), .val (.int p2)] [(.ref a1)])) rfl rfl (hb hby d4_62)
  obtain ⟨T68, X68, e68, st68⟩ := getF X67 hx hZ hown (host := "") (Or.inl (ww hw 24 rfl)) Via.refl e67 F_size_a1 (g := (mkF m 67 #[.val (.ref a1), .val (.int p2)] [(.ref a1), (.ref a1), (.ref b65)])) rfl rfl (hb hby d4_67)
  obtain ⟨T69, h69, X69, e69, W69, st69⟩ := putF X68 hx hZ hown (host := "") (Or.inl (ww hw 24 rfl)) Via.refl e68 F_size_a1 E_a1 (Or.inl (ww hw 25 rfl)) (ww hw 8 rfl) (ty := .int) (by decide) rfl rfl (g := (mkF m 73 #[.val (.ref a1), .val (.int p2)] [(.int (5 : Int32)), (.ref a1), (.int (4 : Int32)), (.ref b65)])) rfl rfl (hb hby d4_73)
  replace E_a1 := E_a1.wr W69
  replace F_numbers_a1 := F_numbers_a1.other W69 (Or.inr (slot_ne (Or.inl (ww hw 18 rfl)) (Or.inl (ww hw 25 rfl)) (by decide) (t := (.array .int)) (t' := .int) (by decide) (by decide)))
  replace F_size_a1 := F_size_a1.same W69
  replace E_aA := E_aA.wr W69
  replace V_aA := V_aA.other W69 (Ne.symm ne_a1_aA)
  replace V_b65 := V_b65.other W69 (Ne.symm ne_a1_b65)
  replace E_b65 := E_b65.wr W69
  replace Z0 := Nat.le_trans Z0 (Keep.of_wr W69).1
  replace KK := KK.wr W69 (Or.inl (List.mem_of_getElem? (i := 0) rfl))
  have N69 := Fr.snoc X69 N66 g_a1
  obtain ⟨cl70, Ar70, q70, Sz70, Nn70, Hh70, Gg70⟩ := V_b65
  have hin70 : ¬ ((4 : Int32) < 0 ∨ cl70.slots.size ≤ ((4 : Int32)).toNatClampNeg) := inb_of Sz70 ⟨by decide, by decide⟩
  obtain ⟨T71, h71, X71, e71, W71, st71⟩ := stI X69 hx hZ e69 Ar70 (j := (4 : Int32)) hin70 (g := (mkF m 77 #[.val (.ref a1), .val (.int p2)] [(.int p2), (.int (4 : Int32)), (.ref b65)])) rfl rfl (hb hby d4_77)
  replace E_a1 := E_a1.wr W71
  replace F_numbers_a1 := F_numbers_a1.other W71 (Or.inl ne_a1_b65)
  replace F_size_a1 := F_size_a1.other W71 (Or.inl ne_a1_b65)
  replace E_aA := E_aA.wr W71
  replace V_aA := V_aA.other W71 ne_aA_b65
  replace E_b65 := E_b65.wr W71
  replace Z0 := Nat.le_trans Z0 (Keep.of_wr W71).1
  replace KK := KK.wr W71 (Or.inr sz_b65)
  have V_b65 : Arv Z h71 b65 k65 .int (8 : Int32) [(.int x0), (.int x1), (.int x2), (.int x3), (.int p2), (.int (0 : Int32)), (.int (0 : Int32)), (.int (0 : Int32))] (.int (0 : Int32)) := Arv.set Ar70 q70 Sz70 Nn70 Hh70 Gg70 rfl W71 4 rfl (Nat.le_of_ble_eq_true rfl)
  have N71 := Fr.snoc X71 N69 g_b65
  obtain ⟨fs, hr, hrun, hended, hW, hsame⟩ := X71.leave (v := some (.ref a1)) (fun h => by rw [Bd.returns] at h; cases h)
  refine ⟨_, _, pre0 _ ?_, hrun, hended, _, _, rfl, ?_, ⟨_, rfl⟩, hW, hsame.mono (by decide) (by decide)⟩
  · refine y_aloadN X0.here hx (hb hby d4_0) rfl rfl ?_
    refine st56 _ ?_
    show Steps p.tables e below (T56.setTop (mkF m 4 #[.val (.ref a1), .val (.int p2)] [(.int (4 : Int32))])) _
    refine y_ifNo X56.here hx (hb hby d4_4) ((if0 _ _).trans (tlt (by decide)).2.2.2) ?_
    refine y_iloadN X56.here hx (hb hby d4_7) rfl ?_
    refine y_aloadN X56.here hx (hb hby d4_8) rfl rfl ?_
    refine st57 _ ?_
    show Steps p.tables e below (T57.setTop (mkF m 12 #[.val (.ref a1), .val (.int p2)] [(.ref aA), (.int p2)])) _
    refine y_aloadN X57.here hx (hb hby d4_12) rfl rfl ?_
    refine st58 _ ?_
    show Steps p.tables e below (T58.setTop (mkF m 16 #[.val (.ref a1), .val (.int p2)] [(.int (4 : Int32)), (.ref aA), (.int p2)])) _
    refine y_iconst X58.here hx (v := (1 : Int32)) (hb hby d4_16) rfl ?_
    refine y_isub X58.here hx (hb hby d4_17) ?_
    rw [show ((4 : Int32) - (1 : Int32)) = (3 : Int32) from by decide]
    refine X58.iaload hx (j := (3 : Int32)) (v := (.int x3)) (by rw [e58]; exact Ar59.1) (State.isArrayOf_alike hZ.alike Ar59.2.1) Ar59.2.2 hin59 hat59 (g := (mkF m 18 #[.val (.ref a1), .val (.int p2)] [(.int (3 : Int32)), (.ref aA), (.int p2)])) rfl rfl (hb hby d4_18) _ ?_
    show Steps p.tables e below (T58.setTop (mkF m 19 #[.val (.ref a1), .val (.int p2)] [(.int x3), (.int p2)])) _
    refine y_icmpYes X58.here hx (pc' := 32) (hb hby d4_19) (tlt hlt).2.2.1 (by decide) (by decide) ?_
    refine y_aloadN X58.here hx (hb hby d4_32) rfl rfl ?_
    refine st60 _ ?_
    show Steps p.tables e below (T60.setTop (mkF m 36 #[.val (.ref a1), .val (.int p2)] [(.int (4 : Int32))])) _
    refine y_aloadN X60.here hx (hb hby d4_36) rfl rfl ?_
    refine st61 _ ?_
    show Steps p.tables e below (T61.setTop (mkF m 40 #[.val (.ref a1), .val (.int p2)] [(.ref aA), (.int (4 : Int32))])) _
    refine X61.arraylength hx (by rw [e61]; exact Ar62.1) (State.isArrayOf_alike hZ.alike Ar62.2.1) (g := (mkF m 40 #[.val (.ref a1), .val (.int p2)] [(.ref aA), (.int (4 : Int32))])) rfl rfl (hb hby d4_40) _ ?_
    rw [len_of Sz62 Nn62]
    show Steps p.tables e below (T61.setTop (mkF m 41 #[.val (.ref a1), .val (.int p2)] [(.int (4 : Int32)), (.int (4 : Int32))])) _
    refine y_icmpNo X61.here hx (hb hby d4_41) (teq rfl).2 ?_
    refine y_aloadN X61.here hx (hb hby d4_44) rfl rfl ?_
    refine y_aloadN X61.here hx (hb hby d4_45) rfl rfl ?_
    refine st63 _ ?_
    show Steps p.tables e below (T63.setTop (mkF m 49 #[.val (.ref a1), .val (.int p2)] [(.ref aA), (.ref a1)])) _
    refine y_iconst X63.here hx (v := (2 : Int32)) (hb hby d4_49) rfl ?_
    refine y_aloadN X63.here hx (hb hby d4_50) rfl rfl ?_
    refine st64 _ ?_
    show Steps p.tables e below (T64.setTop (mkF m 54 #[.val (.ref a1), .val (.int p2)] [(.int (4 : Int32)), (.int (2 : Int32)), (.ref aA), (.ref a1)])) _
    refine y_imul X64.here hx (hb hby d4_54) ?_
    rw [show ((2 : Int32) * (4 : Int32)) = (8 : Int32) from by decide]
    refine st65 _ ?_
    show Steps p.tables e below (T65.setTop (mkF m 58 #[.val (.ref a1), .val (.int p2)] [(.ref b65), (.ref a1)])) _
    refine st66 _ ?_
    show Steps p.tables e below (T66.setTop (mkF m 61 #[.val (.ref a1), .val (.int p2)] [])) _
    refine y_aloadN X66.here hx (hb hby d4_61) rfl rfl ?_
    refine st67 _ ?_
    show Steps p.tables e below (T67.setTop (mkF m 65 #[.val (.ref a1), .val (.int p2)] [(.ref b65)])) _
    refine y_aloadN X67.here hx (hb hby d4_65) rfl rfl ?_
    refine y_dup X67.here hx (hb hby d4_66) rfl ?_
    refine st68 _ ?_
    show Steps p.tables e below (T68.setTop (mkF m 70 #[.val (.ref a1), .val (.int p2)] [(.int (4 : Int32)), (.ref a1), (.ref b65)])) _
    refine y_dupX1 X68.here hx (hb hby d4_70) rfl rfl ?_
    refine y_iconst X68.here hx (v := (1 : Int32)) (hb hby d4_71) rfl ?_
    refine y_iadd X68.here hx (hb hby d4_72) ?_
    rw [show ((4 : Int32) + (1 : Int32)) = (5 : Int32) from by decide]
    refine st69 _ ?_
    show Steps p.tables e below (T69.setTop (mkF m 76 #[.val (.ref a1), .val (.int p2)] [(.int (4 : Int32)), (.ref b65)])) _
    refine y_iloadN X69.here hx (hb hby d4_76) rfl ?_
    refine st71 _ ?_
    show Steps p.tables e below (T71.setTop (mkF m 78 #[.val (.ref a1), .val (.int p2)] [])) _
    refine y_aloadN X71.here hx (hb hby d4_78) rfl rfl ?_
    show Steps p.tables e below (T71.setTop (mkF m 79 #[.val (.ref a1), .val (.int p2)] [(.ref a1)])) _
    jvm_step X71.here [X71.here.top, hx, (hb hby d4_79), X71.method', Bd.returns, Value.isRef, FieldType.isReference]
    first | (intro acts; rw [hr _ acts rfl rfl rfl]) | rw [hr _ _ rfl rfl rfl]
    exact Steps.refl _
  · show QG Z a1 (8 : Int32) (5 : Int32) [(.int x0), (.int x1), (.int x2), (.int x3), (.int p2), (.int (0 : Int32)), (.int (0 : Int32)), (.int (0 : Int32))] h0 n0 _ T71.heap _
    rw [e71]
    exact ⟨b65, _, rfl, N71, KK, sz_b65, F_size_a1, F_numbers_a1, V_b65, E_b65⟩
set_option maxRecDepth 65536 in
set_option maxHeartbeats 40000000 in
theorem rm6_4_0_0 (l : Launch) (Z : State) (a0 : Array Value) (hw : ∀ d ∈ tables_1, d.before a0 Z = true) (ws : List Jvm.Cond) (a1 : Addr) (k1 : ClassId) (h0 : Heap) (n0 : Nat) (Z0 : n0 ≤ h0.size) (E_a1 : Exa Z h0 a1 "[I") (V_a1 : Arv Z h0 a1 k1 .int (4 : Int32) [(.int (0 : Int32)), (.int (0 : Int32)), (.int (0 : Int32)), (.int (0 : Int32))] (.int (0 : Int32))) :
    MetFree l mn3 (head1 (Jvm.Cond.code mn3 jdk_65_method_123_code 3 (some (.array .int)) :: ws) ({ frames := 1, cells := 1, slots := 0, locals := 18 } : Room)) (fun a U => a = #[(.ref a1), (.int (0 : Int32))] ∧ Z.Warmed39 U.vm ∧ U.heap = h0) (fun _ _ _ _ _ => True) (fun _ U o U' => ∃ v L, o = .returned v ∧ QC Z (0 : Int32) [] h0 n0 v U'.heap L ∧ FrameEnd U o U' L ({ frames := 1, cells := 1, slots := 0, locals := 18 } : Room).cells ({ frames := 1, cells := 1, slots := 0, locals := 18 } : Room).slots) := by
  refine MetFree.of_bodySF (plainFor_of_name pn_6) hisR ?_
  intro p e s m args below meth c s₁ Bd hml0 hP hK
  obtain ⟨rfl, hZ, hh⟩ := hP
  have hx := Bd.exec
  have hby := Bd.bytes
  have hml : c.maxLocals = 3 := hml0
  have hown : s.vm.findClass "java/util/Arrays" = some m.cls := findClass_of_methodNamed Bd.named
  have hnm := (name_of_methodNamed Bd.named Bd.method).1
  have X0 : Stand p l e ({ frames := 1, cells := 1, slots := 0, locals := 18 } : Room) s m #[(.ref a1), (.int (0 : Int32))] below meth c s₁ [] 0 0 := Stand.of_body Bd
  have e0 : s₁.heap = h0 := by rw [← hh, Bd.state]; rfl
  have N0 := Fr.nil n0
  have pre0 : ∀ t, Steps p.tables e below (s₁.setTop (mkF m 0 #[.val (.ref a1), .val (.int (0 : Int32)), .unset] [])) t → Steps p.tables e below (s₁.setTop (entryFrame m #[(.ref a1), (.int (0 : Int32))] 3)) t := fun t k => castTop (ef_6 m a1 (0 : Int32)) k
  have KK := Keep.refl h0 []
  obtain ⟨cl72, Ar72, q72, Sz72, Nn72, Hh72, Gg72⟩ := id V_a1
  obtain ⟨T73, h73, k73, X73, e73, E73, A73, Ex73, st73⟩ := newPE X0 hx hZ (ww hw 16 rfl) e0 (g := (mkF m 15 #[.val (.ref a1), .val (.int (0 : Int32)), .unset] [(.int (0 : Int32))])) rfl (hb hby d6_15) rfl (by decide) (cap := 0) (by decide) (by decide) (by decide) (by decide) (ad := "[I") (by first | rfl | decide)
  obtain ⟨b73, g73⟩ : ∃ z, z = h0.size := ⟨_, rfl⟩
  rw [← g73] at A73 Ex73 st73
  have g_b73 : n0 ≤ b73 := Nat.le_trans Z0 (Nat.le_of_eq g73.symm)
  have sz_b73 : h0.size ≤ b73 := Nat.le_trans KK.1 (Nat.le_of_eq g73.symm)
  have ne_a1_b73 : a1 ≠ b73 := Nat.ne_of_lt (Nat.lt_of_lt_of_le E_a1.lt (Nat.le_of_eq g73.symm))
  replace E_a1 := E_a1.ext E73
  replace V_a1 := V_a1.ext E73
  replace Z0 := Nat.le_trans Z0 E73.1
  replace KK := KK.ext E73
  have V_b73 : Arv Z h73 b73 k73 .int (0 : Int32) [] (.int (0 : Int32)) := (Arv.new A73 (by decide)).pad (pad_rep [] (.int (0 : Int32)) 0)
  have E_b73 : Exa Z h73 b73 "[I" := Ex73
  obtain ⟨cl74, Ar74, q74, Sz74, Nn74, Hh74, Gg74⟩ := id V_a1
  obtain ⟨_, _, ⟨T75, L75, k75, n75⟩, -, X75, ⟨Lc75, hQ75, l75, y75, z75⟩, st75⟩ := Jvm.LawKit.callS X73 hx (y := mn0) hown (mvT hZ (ww hw 38 rfl)) (mvT hZ (ww hw 3 rfl)) (mvT hZ (ww hw 4 rfl)) (mvT hZ (ww hw 5 rfl)) (by decide) (backOf (W := 4) (rm1 l Z a0 hw [] (4 : Int32) (0 : Int32) h73 n0 Z0) hZ (ww hw 5 rfl) (ww hw 4 rfl) (by decide) (by decide)) (g := (mkF m 25 #[.val (.ref a1), .val (.int (0 : Int32)), .val (.ref b73)] [(.int (0 : Int32)), (.int (4 : Int32)), (.int (0 : Int32)), (.ref b73), (.int (0 : Int32)), (.ref a1)])) rfl (by rw [hml]; rfl) (argsL := [(.int (4 : Int32)), (.int (0 : Int32))]) (rest := [(.int (0 : Int32)), (.ref b73), (.int (0 : Int32)), (.ref a1)]) (lenOf pd_0 rfl) rfl (by show 2 * 0 + _ ≤ _; exact Nat.le_of_eq rfl) (hb hby d6_25) (fun _ _ => ⟨rfl, e73, (by decide : 1 + 0 ≤ _), (by decide : 0 + 0 ≤ _)⟩)
  dsimp only [Pt.U, Pt.locs, Pt.cells, Pt.slots] at X75 l75 y75 z75 st75 hQ75
  subst l75 y75 z75
  obtain ⟨rfl, N75q, e75⟩ := hQ75
  rw [show f1 (4 : Int32) (0 : Int32) = (0 : Int32) from by decide] at st75
  have N75 := Fr.app N0 N75q
  obtain ⟨T76, h76, L76, X76, e76, N76, K76, Vn76, st76⟩ := cpA X75 hx hZ hown (ww hw 39 rfl) (ww hw 42 rfl) (ww hw 40 rfl) (ww hw 41 rfl) e75 (us := []) V_a1 V_b73 (Or.inl ⟨rfl, rfl⟩) (by decide) (by decide) (by decide) (by decide) (by decide) rfl (by decide) N75 g_b73 (g := (mkF m 28 #[.val (.ref a1), .val (.int (0 : Int32)), .val (.ref b73)] [(.int (0 : Int32)), (.int (0 : Int32)), (.ref b73), (.int (0 : Int32)), (.ref a1)])) rfl (by rw [hml]; rfl) rfl (hb hby d6_28) (by decide) (W := 0) (by show 2 * 0 + _ ≤ _; exact Nat.le_of_eq rfl) (by decide)
  replace E_a1 := E_a1.keep K76
  replace V_a1 := V_a1.keep K76 (ninS ne_a1_b73 nin0)
  replace E_b73 := E_b73.keep K76
  replace Z0 := Nat.le_trans Z0 K76.1
  replace KK := KK.trans K76 (allS (Or.inr sz_b73) all0)
  have V_b73 : Arv Z h76 b73 k73 .int (0 : Int32) [] (.int (0 : Int32)) := Vn76
  obtain ⟨fs, hr, hrun, hended, hW, hsame⟩ := X76.leave (v := some (.ref b73)) (fun h => by rw [Bd.returns] at h; cases h)
  refine ⟨_, _, pre0 _ ?_, hrun, hended, _, _, rfl, ?_, ⟨_, rfl⟩, hW, hsame.mono (by decide) (by decide)⟩
  · refine y_iloadN X0.here hx (hb hby d6_0) rfl ?_
    refine y_aloadN X0.here hx (hb hby d6_1) rfl rfl ?_
    refine X0.arraylength hx (by rw [e0]; exact Ar72.1) (State.isArrayOf_alike hZ.alike Ar72.2.1) (g := (mkF m 2 #[.val (.ref a1), .val (.int (0 : Int32)), .unset] [(.ref a1), (.int (0 : Int32))])) rfl rfl (hb hby d6_2) _ ?_
    rw [len_of Sz72 Nn72]
    show Steps p.tables e below (s₁.setTop (mkF m 3 #[.val (.ref a1), .val (.int (0 : Int32)), .unset] [(.int (4 : Int32)), (.int (0 : Int32))])) _
    refine y_icmpYes X0.here hx (pc' := 14) (hb hby d6_3) (feq (by decide)).2 (by decide) (by decide) ?_
    refine y_iloadN X0.here hx (hb hby d6_14) rfl ?_
    refine st73 _ ?_
    show Steps p.tables e below (T73.setTop (mkF m 17 #[.val (.ref a1), .val (.int (0 : Int32)), .unset] [(.ref b73)])) _
    refine y_astoreN X73.here hx (hb hby d6_17) rfl (l' := #[.val (.ref a1), .val (.int (0 : Int32)), .val (.ref b73)]) rfl ?_
    refine y_aloadN X73.here hx (hb hby d6_18) rfl rfl ?_
    refine y_iconst X73.here hx (v := (0 : Int32)) (hb hby d6_19) rfl ?_
    refine y_aloadN X73.here hx (hb hby d6_20) rfl rfl ?_
    refine y_iconst X73.here hx (v := (0 : Int32)) (hb hby d6_21) rfl ?_
    refine y_aloadN X73.here hx (hb hby d6_22) rfl rfl ?_
    refine X73.arraylength hx (by rw [e73]; exact Ar74.1) (State.isArrayOf_alike hZ.alike Ar74.2.1) (g := (mkF m 23 #[.val (.ref a1), .val (.int (0 : Int32)), .val (.ref b73)] [(.ref a1), (.int (0 : Int32)), (.ref b73), (.int (0 : Int32)), (.ref a1)])) rfl rfl (hb hby d6_23) _ ?_
    rw [len_of Sz74 Nn74]
    show Steps p.tables e below (T73.setTop (mkF m 24 #[.val (.ref a1), .val (.int (0 : Int32)), .val (.ref b73)] [(.int (4 : Int32)), (.int (0 : Int32)), (.ref b73), (.int (0 : Int32)), (.ref a1)])) _
    refine y_iloadN X73.here hx (hb hby d6_24) rfl ?_
    refine st75 _ ?_
    show Steps p.tables e below (T75.setTop (mkF m 28 #[.val (.ref a1), .val (.int (0 : Int32)), .val (.ref b73)] [(.int (0 : Int32)), (.int (0 : Int32)), (.ref b73), (.int (0 : Int32)), (.ref a1)])) _
    refine st76 _ ?_
    show Steps p.tables e below (T76.setTop (mkF m 31 #[.val (.ref a1), .val (.int (0 : Int32)), .val (.ref b73)] [])) _
    refine y_aloadN X76.here hx (hb hby d6_31) rfl rfl ?_
    show Steps p.tables e below (T76.setTop (mkF m 32 #[.val (.ref a1), .val (.int (0 : Int32)), .val (.ref b73)] [(.ref b73)])) _
    jvm_step X76.here [X76.here.top, hx, (hb hby d6_32), X76.method', Bd.returns, Value.isRef, FieldType.isReference]
    first | (intro acts; rw [hr _ acts rfl rfl rfl]) | rw [hr _ _ rfl rfl rfl]
    exact Steps.refl _
  · show QC Z (0 : Int32) [] h0 n0 _ T76.heap _
    rw [e76]
    exact ⟨b73, _, rfl, N76, KK, sz_b73, V_b73, E_b73⟩
theorem d7_0 : decode prog_18_method_1_code 0 = .ok (.aload_n 0, 1) := by decide +kernel
theorem d7_1 : decode prog_18_method_1_code 1 = .ok (.invokespecial 1, 3) := by decide +kernel
theorem d7_4 : decode prog_18_method_1_code 4 = .ok (.aload_n 0, 1) := by decide +kernel
theorem d7_5 : decode prog_18_method_1_code 5 = .ok (.aload_n 1, 1) := by decide +kernel
theorem d7_6 : decode prog_18_method_1_code 6 = .ok (.putfield 7, 3) := by decide +kernel
theorem d7_9 : decode prog_18_method_1_code 9 = .ok (.aload_n 1, 1) := by decide +kernel
theorem d7_10 : decode prog_18_method_1_code 10 = .ok (.arraylength, 1) := by decide +kernel
theorem d7_11 : decode prog_18_method_1_code 11 = .ok (.istore_n 2, 1) := by decide +kernel
theorem d7_12 : decode prog_18_method_1_code 12 = .ok (.aload_n 1, 1) := by decide +kernel
theorem d7_13 : decode prog_18_method_1_code 13 = .ok (.astore_n 3, 1) := by decide +kernel
theorem d7_14 : decode prog_18_method_1_code 14 = .ok (.aload_n 3, 1) := by decide +kernel
theorem d7_15 : decode prog_18_method_1_code 15 = .ok (.arraylength, 1) := by decide +kernel
theorem d7_16 : decode prog_18_method_1_code 16 = .ok (.istore 4, 2) := by decide +kernel
theorem d7_18 : decode prog_18_method_1_code 18 = .ok (.iconst 0, 1) := by decide +kernel
theorem d7_19 : decode prog_18_method_1_code 19 = .ok (.istore 5, 2) := by decide +kernel
theorem d7_21 : decode prog_18_method_1_code 21 = .ok (.iload 5, 2) := by decide +kernel
theorem d7_23 : decode prog_18_method_1_code 23 = .ok (.iload 4, 2) := by decide +kernel
theorem d7_25 : decode prog_18_method_1_code 25 = .ok (.if_icmp .ge 30, 3) := by decide +kernel
theorem d7_55 : decode prog_18_method_1_code 55 = .ok (.aload_n 0, 1) := by decide +kernel
theorem d7_56 : decode prog_18_method_1_code 56 = .ok (.iload_n 2, 1) := by decide +kernel
theorem d7_57 : decode prog_18_method_1_code 57 = .ok (.putfield 14, 3) := by decide +kernel
theorem d7_60 : decode prog_18_method_1_code 60 = .ok (.return_, 1) := by decide +kernel
abbrev mn4 : MethodName := ⟨"com/example/hard_delay_bounds/harddelaybounds/analysis/FlowSet", "<init>", "([I)V"⟩
theorem pn_7 : plainName "com/example/hard_delay_bounds/harddelaybounds/analysis/FlowSet" = true := by first | (simp [plainName, overriddenIn]; done) | decide +kernel
theorem ef_7 (m : MethodId) (x0 : Addr) (x1 : Addr) : entryFrame m #[(.ref x0), (.ref x1)] 7 = mkF m 0 #[.val (.ref x0), .val (.ref x1), .unset, .unset, .unset, .unset, .unset] [] := by first | (simp [entryFrame, mkF, argsToLocals, Value.category]; done) | rfl
abbrev lo7_0_0 (a1 : Addr) (a2 : Addr) : Array Slot := #[.val (.ref a1), .val (.ref a2), .val (.int (0 : Int32)), .val (.ref a2), .val (.int (0 : Int32)), .unset, .unset]
abbrev lo7_0_1 (a1 : Addr) (a2 : Addr) : Array Slot := #[.val (.ref a1), .val (.ref a2), .val (.int (0 : Int32)), .val (.ref a2), .val (.int (0 : Int32)), .val (.int (0 : Int32)), .unset]
set_option maxRecDepth 65536 in
set_option maxHeartbeats 40000000 in
theorem rm7_0 (l : Launch) (Z : State) (a0 : Array Value) (hw : ∀ d ∈ tables_1, d.before a0 Z = true) (ws : List Jvm.Cond) (a1 : Addr) (a2 : Addr) (k2 : ClassId) (h0 : Heap) (n0 : Nat) (Z0 : n0 ≤ h0.size) (E_a1 : Exa Z h0 a1 "com/example/hard_delay_bounds/harddelaybounds/analysis/FlowSet") (F_numbers_a1 : Fld Z h0 a1 "com/example/hard_delay_bounds/harddelaybounds/analysis/FlowSet" "numbers" "[I" .null) (F_hash_a1 : Fld Z h0 a1 "com/example/hard_delay_bounds/harddelaybounds/analysis/FlowSet" "hash" "I" (.int (0 : Int32))) (V_a2 : Arv Z h0 a2 k2 .int (0 : Int32) [] (.int (0 : Int32))) (g_a1 : n0 ≤ a1) (ne_a1_a2 : a1 ≠ a2) :
    MetFree l mn4 (head1 (Jvm.Cond.code mn4 prog_18_method_1_code 7 none :: ws) ({ frames := 1, cells := 0, slots := 0, locals := 12 } : Room)) (fun a U => a = #[(.ref a1), (.ref a2)] ∧ Z.Warmed39 U.vm ∧ U.heap = h0) (fun _ _ _ _ _ => True) (fun _ U o U' => ∃ v L, o = .returned v ∧ QI Z a1 a2 h0 n0 v U'.heap L ∧ FrameEnd U o U' L ({ frames := 1, cells := 0, slots := 0, locals := 12 } : Room).cells ({ frames := 1, cells := 0, slots := 0, locals := 12 } : Room).slots) := by
  refine MetFree.of_bodySF (plainFor_of_name pn_7) hisR ?_
  intro p e s m args below meth c s₁ Bd hml0 hP hK
  obtain ⟨rfl, hZ, hh⟩ := hP
  have hx := Bd.exec
  have hby := Bd.bytes
  have hml : c.maxLocals = 7 := hml0
  have hown : s.vm.findClass "com/example/hard_delay_bounds/harddelaybounds/analysis/FlowSet" = some m.cls := findClass_of_methodNamed Bd.named
  have hnm := (name_of_methodNamed Bd.named Bd.method).1
  have X0 : Stand p l e ({ frames := 1, cells := 0, slots := 0, locals := 12 } : Room) s m #[(.ref a1), (.ref a2)] below meth c s₁ [] 0 0 := Stand.of_body Bd
  have e0 : s₁.heap = h0 := by rw [← hh, Bd.state]; rfl
  have N0 := Fr.nil n0
  have pre0 : ∀ t, Steps p.tables e below (s₁.setTop (mkF m 0 #[.val (.ref a1), .val (.ref a2), .unset, .unset, .unset, .unset, .unset] [])) t → Steps p.tables e below (s₁.setTop (entryFrame m #[(.ref a1), (.ref a2)] 7)) t := fun t k => castTop (ef_7 m a1 a2) k
  have KK := Keep.refl h0 [a1]
  obtain ⟨T77, X77, e77, st77⟩ := initO X0 hx hZ hown (ww hw 46 rfl) (ww hw 14 rfl) (ww hw 15 rfl) e0 (g := (mkF m 1 #[.val (.ref a1), .val (.ref a2), .unset, .unset, .unset, .unset, .unset] [(.ref a1)])) rfl (by rw [hml]; rfl) rfl (hb hby d7_1) (by decide) (W := 0) (by show 2 * 0 + _ ≤ _; exact Nat.le_of_eq rfl) (by decide)
  obtain ⟨T78, h78, X78, e78, W78, st78⟩ := putF X77 hx hZ hown (host := "") (Or.inl (ww hw 47 rfl)) Via.refl e77 F_numbers_a1 E_a1 (Or.inr ⟨(ww hw 48 rfl), rfl, hnm⟩) (ww hw 32 rfl) (ty := (.array .int)) (by decide) rfl rfl (g := (mkF m 6 #[.val (.ref a1), .val (.ref a2), .unset, .unset, .unset, .unset, .unset] [(.ref a2), (.ref a1)])) rfl rfl (hb hby d7_6)
  replace E_a1 := E_a1.wr W78
  replace F_numbers_a1 := F_numbers_a1.same W78
  replace F_hash_a1 := F_hash_a1.other W78 (Or.inr (slot_ne (Or.inr (ww hw 51 rfl)) (Or.inr (ww hw 48 rfl)) (by decide) (t := .int) (t' := (.array .int)) (by decide) (by decide)))
  replace V_a2 := V_a2.other W78 (Ne.symm ne_a1_a2)
  replace Z0 := Nat.le_trans Z0 (Keep.of_wr W78).1
  replace KK := KK.wr W78 (Or.inl (List.mem_of_getElem? (i := 0) rfl))
  have N78 := Fr.snoc X78 N0 g_a1
  obtain ⟨cl79, Ar79, q79, Sz79, Nn79, Hh79, Gg79⟩ := id V_a2
  obtain ⟨cl80, Ar80, q80, Sz80, Nn80, Hh80, Gg80⟩ := id V_a2
  have pre81 : ∀ t, Steps p.tables e below (T78.setTop (mkF m 21 #[.val (.ref a1), .val (.ref a2), .val (.int (0 : Int32)), .val (.ref a2), .val (.int (0 : Int32)), .val (.int (0 : Int32)), .unset] [])) t → Steps p.tables e below (s₁.setTop (entryFrame m #[(.ref a1), (.ref a2)] 7)) t := fun t k => by
    refine pre0 _ ?_
    refine y_aloadN X0.here hx (hb hby d7_0) rfl rfl ?_
    refine st77 _ ?_
    show Steps p.tables e below (T77.setTop (mkF m 4 #[.val (.ref a1), .val (.ref a2), .unset, .unset, .unset, .unset, .unset] [])) _
    refine y_aloadN X77.here hx (hb hby d7_4) rfl rfl ?_
    refine y_aloadN X77.here hx (hb hby d7_5) rfl rfl ?_
    refine st78 _ ?_
    show Steps p.tables e below (T78.setTop (mkF m 9 #[.val (.ref a1), .val (.ref a2), .unset, .unset, .unset, .unset, .unset] [])) _
    refine y_aloadN X78.here hx (hb hby d7_9) rfl rfl ?_
    refine X78.arraylength hx (by rw [e78]; exact Ar79.1) (State.isArrayOf_alike hZ.alike Ar79.2.1) (g := (mkF m 10 #[.val (.ref a1), .val (.ref a2), .unset, .unset, .unset, .unset, .unset] [(.ref a2)])) rfl rfl (hb hby d7_10) _ ?_
    rw [len_of Sz79 Nn79]
    show Steps p.tables e below (T78.setTop (mkF m 11 #[.val (.ref a1), .val (.ref a2), .unset, .unset, .unset, .unset, .unset] [(.int (0 : Int32))])) _
    refine y_istoreN X78.here hx (hb hby d7_11) (l' := #[.val (.ref a1), .val (.ref a2), .val (.int (0 : Int32)), .unset, .unset, .unset, .unset]) rfl ?_
    refine y_aloadN X78.here hx (hb hby d7_12) rfl rfl ?_
    refine y_astoreN X78.here hx (hb hby d7_13) rfl (l' := #[.val (.ref a1), .val (.ref a2), .val (.int (0 : Int32)), .val (.ref a2), .unset, .unset, .unset]) rfl ?_
    refine y_aloadN X78.here hx (hb hby d7_14) rfl rfl ?_
    refine X78.arraylength hx (by rw [e78]; exact Ar80.1) (State.isArrayOf_alike hZ.alike Ar80.2.1) (g := (mkF m 15 #[.val (.ref a1), .val (.ref a2), .val (.int (0 : Int32)), .val (.ref a2), .unset, .unset, .unset] [(.ref a2)])) rfl rfl (hb hby d7_15) _ ?_
    rw [len_of Sz80 Nn80]
    show Steps p.tables e below (T78.setTop (mkF m 16 #[.val (.ref a1), .val (.ref a2), .val (.int (0 : Int32)), .val (.ref a2), .unset, .unset, .unset] [(.int (0 : Int32))])) _
    refine y_istore X78.here hx (hb hby d7_16) (l' := (lo7_0_0 a1 a2)) rfl ?_
    refine y_iconst X78.here hx (v := (0 : Int32)) (hb hby d7_18) rfl ?_
    refine y_istore X78.here hx (hb hby d7_19) (l' := (lo7_0_1 a1 a2)) rfl ?_
    exact k
  obtain ⟨T82, h82, X82, e82, W82, st82⟩ := putF X78 hx hZ hown (host := "") (Or.inl (ww hw 50 rfl)) Via.refl e78 F_hash_a1 E_a1 (Or.inr ⟨(ww hw 51 rfl), rfl, hnm⟩) (ww hw 32 rfl) (ty := .int) (by decide) rfl rfl (g := (mkF m 57 (lo7_0_1 a1 a2) [(.int (0 : Int32)), (.ref a1)])) rfl rfl (hb hby d7_57)
  replace E_a1 := E_a1.wr W82
  replace F_numbers_a1 := F_numbers_a1.other W82 (Or.inr (slot_ne (Or.inr (ww hw 48 rfl)) (Or.inr (ww hw 51 rfl)) (by decide) (t := (.array .int)) (t' := .int) (by decide) (by decide)))
  replace F_hash_a1 := F_hash_a1.same W82
  replace V_a2 := V_a2.other W82 (Ne.symm ne_a1_a2)
  replace Z0 := Nat.le_trans Z0 (Keep.of_wr W82).1
  replace KK := KK.wr W82 (Or.inl (List.mem_of_getElem? (i := 0) rfl))
  have N82 := Fr.snoc X82 N78 g_a1
  obtain ⟨fs, hr, hrun, hended, hW, hsame⟩ := X82.leave (v := none) (fun _ => rfl)
  refine ⟨_, _, pre81 _ ?_, hrun, hended, _, _, rfl, ?_, ⟨_, rfl⟩, hW, hsame.mono (by decide) (by decide)⟩
  · refine y_iload X78.here hx (hb hby d7_21) rfl ?_
    refine y_iload X78.here hx (hb hby d7_23) rfl ?_
    refine y_icmpYes X78.here hx (pc' := 55) (hb hby d7_25) (flt (by decide)).2.1 (by decide) (by decide) ?_
    refine y_aloadN X78.here hx (hb hby d7_55) rfl rfl ?_
    refine y_iloadN X78.here hx (hb hby d7_56) rfl ?_
    refine st82 _ ?_
    show Steps p.tables e below (T82.setTop (mkF m 60 (lo7_0_1 a1 a2) [])) _
    exact X82.returnOut hx Bd.returns (hb hby d7_60) hr
  · show QI Z a1 a2 h0 n0 _ T82.heap _
    rw [e82]
    exact ⟨rfl, N82, KK, F_numbers_a1⟩
theorem d5_0 : decode prog_19_method_3_code 0 = .ok (.new 30, 3) := by decide +kernel
theorem d5_3 : decode prog_19_method_3_code 3 = .ok (.dup, 1) := by decide +kernel
theorem d5_4 : decode prog_19_method_3_code 4 = .ok (.aload_n 0, 1) := by decide +kernel
theorem d5_5 : decode prog_19_method_3_code 5 = .ok (.getfield 7, 3) := by decide +kernel
theorem d5_8 : decode prog_19_method_3_code 8 = .ok (.aload_n 0, 1) := by decide +kernel
theorem d5_9 : decode prog_19_method_3_code 9 = .ok (.getfield 13, 3) := by decide +kernel
theorem d5_12 : decode prog_19_method_3_code 12 = .ok (.invokestatic 24, 3) := by decide +kernel
theorem d5_15 : decode prog_19_method_3_code 15 = .ok (.invokespecial 32, 3) := by decide +kernel
theorem pd_2 : parseMethodDescriptor "([I)V" = some ⟨[(.array .int)], none⟩ := by decide +kernel
theorem d5_18 : decode prog_19_method_3_code 18 = .ok (.areturn, 1) := by decide +kernel
abbrev mn5 : MethodName := ⟨"com/example/hard_delay_bounds/harddelaybounds/analysis/FlowSet$Builder", "build", "()Lcom/example/hard_delay_bounds/harddelaybounds/analysis/FlowSet;"⟩
theorem ef_5 (m : MethodId) (x0 : Addr) : entryFrame m #[(.ref x0)] 1 = mkF m 0 #[.val (.ref x0)] [] := by first | (simp [entryFrame, mkF, argsToLocals, Value.category]; done) | rfl
set_option maxRecDepth 65536 in
set_option maxHeartbeats 40000000 in
theorem rm5_0 (l : Launch) (Z : State) (a0 : Array Value) (hw : ∀ d ∈ tables_1, d.before a0 Z = true) (ws : List Jvm.Cond) (a1 : Addr) (aA : Addr) (kA : ClassId) (h0 : Heap) (n0 : Nat) (Z0 : n0 ≤ h0.size) (E_a1 : Exa Z h0 a1 "com/example/hard_delay_bounds/harddelaybounds/analysis/FlowSet$Builder") (F_numbers_a1 : Fld Z h0 a1 "com/example/hard_delay_bounds/harddelaybounds/analysis/FlowSet$Builder" "numbers" "[I" (.ref aA)) (F_size_a1 : Fld Z h0 a1 "com/example/hard_delay_bounds/harddelaybounds/analysis/FlowSet$Builder" "size" "I" (.int (0 : Int32))) (E_aA : Exa Z h0 aA "[I") (V_aA : Arv Z h0 aA kA .int (4 : Int32) [(.int (0 : Int32)), (.int (0 : Int32)), (.int (0 : Int32)), (.int (0 : Int32))] (.int (0 : Int32))) (ne_a1_aA : a1 ≠ aA) :
    MetFree l mn5 (head1 (Jvm.Cond.code mn5 prog_19_method_3_code 1 (some (.object "com/example/hard_delay_bounds/harddelaybounds/analysis/FlowSet")) :: ws) ({ frames := 2, cells := 2, slots := 2, locals := 34 } : Room)) (fun a U => a = #[(.ref a1)] ∧ Z.Warmed39 U.vm ∧ U.heap = h0) (fun _ _ _ _ _ => True) (fun _ U o U' => ∃ v L, o = .returned v ∧ QS Z (0 : Int32) [] h0 n0 v U'.heap L ∧ FrameEnd U o U' L ({ frames := 2, cells := 2, slots := 2, locals := 34 } : Room).cells ({ frames := 2, cells := 2, slots := 2, locals := 34 } : Room).slots) := by
  refine MetFree.of_bodySF (plainFor_of_name pn_2) hisR ?_
  intro p e s m args below meth c s₁ Bd hml0 hP hK
  obtain ⟨rfl, hZ, hh⟩ := hP
  have hx := Bd.exec
  have hby := Bd.bytes
  have hml : c.maxLocals = 1 := hml0
  have hown : s.vm.findClass "com/example/hard_delay_bounds/harddelaybounds/analysis/FlowSet$Builder" = some m.cls := findClass_of_methodNamed Bd.named
  have hnm := (name_of_methodNamed Bd.named Bd.method).1
  have X0 : Stand p l e ({ frames := 2, cells := 2, slots := 2, locals := 34 } : Room) s m #[(.ref a1)] below meth c s₁ [] 0 0 := Stand.of_body Bd
  have e0 : s₁.heap = h0 := by rw [← hh, Bd.state]; rfl
  have N0 := Fr.nil n0
  have pre0 : ∀ t, Steps p.tables e below (s₁.setTop (mkF m 0 #[.val (.ref a1)] [])) t → Steps p.tables e below (s₁.setTop (entryFrame m #[(.ref a1)] 1)) t := fun t k => castTop (ef_5 m a1) k
  have KK := Keep.refl h0 []
  obtain ⟨T83, h83, X83, e83, E83, A83, D83, -, st83⟩ := newO X0 hx hZ hown (ww hw 31 rfl) (ww hw 32 rfl) (ww hw 33 rfl) e0 (g := (mkF m 0 #[.val (.ref a1)] [])) rfl (hb hby d5_0) (by decide) (by decide)
  obtain ⟨b83, g83⟩ : ∃ z, z = h0.size := ⟨_, rfl⟩
  rw [← g83] at A83 D83 st83
  have g_b83 : n0 ≤ b83 := Nat.le_trans Z0 (Nat.le_of_eq g83.symm)
  have sz_b83 : h0.size ≤ b83 := Nat.le_trans KK.1 (Nat.le_of_eq g83.symm)
  have ne_a1_b83 : a1 ≠ b83 := Nat.ne_of_lt (Nat.lt_of_lt_of_le E_a1.lt (Nat.le_of_eq g83.symm))
  have ne_aA_b83 : aA ≠ b83 := Nat.ne_of_lt (Nat.lt_of_lt_of_le E_aA.lt (Nat.le_of_eq g83.symm))
  replace E_a1 := E_a1.ext E83
  replace F_numbers_a1 := F_numbers_a1.ext E83
  replace F_size_a1 := F_size_a1.ext E83
  replace E_aA := E_aA.ext E83
  replace V_aA := V_aA.ext E83
  replace Z0 := Nat.le_trans Z0 E83.1
  replace KK := KK.ext E83
  have E_b83 := A83
  have F_numbers_b83 : Fld Z h83 b83 "com/example/hard_delay_bounds/harddelaybounds/analysis/FlowSet" "numbers" "[I" .null := D83 (Or.inr (ww hw 48 rfl)) (ty := (.array .int)) (by decide)
  have F_hash_b83 : Fld Z h83 b83 "com/example/hard_delay_bounds/harddelaybounds/analysis/FlowSet" "hash" "I" (.int (0 : Int32)) := D83 (Or.inr (ww hw 51 rfl)) (ty := .int) (by decide)
  obtain ⟨T84, X84, e84, st84⟩ := getF X83 hx hZ hown (host := "") (Or.inl (ww hw 17 rfl)) Via.refl e83 F_numbers_a1 (g := (mkF m 5 #[.val (.ref a1)] [(.ref a1), (.ref b83), (.ref b83)])) rfl rfl (hb hby d5_5)
  obtain ⟨T85, X85, e85, st85⟩ := getF X84 hx hZ hown (host := "") (Or.inl (ww hw 24 rfl)) Via.refl e84 F_size_a1 (g := (mkF m 9 #[.val (.ref a1)] [(.ref a1), (.ref aA), (.ref b83), (.ref b83)])) rfl rfl (hb hby d5_9)
  obtain ⟨_, _, ⟨T86, L86, k86, n86⟩, -, X86, ⟨Lc86, hQ86, l86, y86, z86⟩, st86⟩ := Jvm.LawKit.callS X85 hx (y := mn3) hown (mvT hZ (ww hw 34 rfl)) (mvT hZ (ww hw 35 rfl)) (mvT hZ (ww hw 36 rfl)) (mvT hZ (ww hw 37 rfl)) (by decide) (backOf (W := 2) (rm6_4_0_0 l Z a0 hw [] aA kA  h83 n0 Z0 E_aA V_aA) hZ (ww hw 37 rfl) (ww hw 36 rfl) (by decide) (by decide)) (g := (mkF m 12 #[.val (.ref a1)] [(.int (0 : Int32)), (.ref aA), (.ref b83), (.ref b83)])) rfl (by rw [hml]; rfl) (argsL := [(.ref aA), (.int (0 : Int32))]) (rest := [(.ref b83), (.ref b83)]) (lenOf pd_1 rfl) rfl (by show 2 * 0 + _ ≤ _; exact Nat.le_of_eq rfl) (hb hby d5_12) (fun _ _ => ⟨rfl, e85, (by decide : 1 + 1 ≤ _), (by decide : 2 + 0 ≤ _)⟩)
  dsimp only [Pt.U, Pt.locs, Pt.cells, Pt.slots] at X86 l86 y86 z86 st86 hQ86
  subst l86 y86 z86
  obtain ⟨h86, e86⟩ : ∃ z, T86.heap = z := ⟨_, rfl⟩
  rw [e86] at hQ86
  obtain ⟨b86, k86, rfl, N86q, K86, s86, Vn86, En86⟩ := hQ86
  have g_b86 : n0 ≤ b86 := Nat.le_trans Z0 s86
  have sz_b86 : h0.size ≤ b86 := Nat.le_trans KK.1 s86
  have ne_a1_b86 : a1 ≠ b86 := Nat.ne_of_lt (Nat.lt_of_lt_of_le E_a1.lt s86)
  have ne_aA_b86 : aA ≠ b86 := Nat.ne_of_lt (Nat.lt_of_lt_of_le E_aA.lt s86)
  have ne_b83_b86 : b83 ≠ b86 := Nat.ne_of_lt (Nat.lt_of_lt_of_le E_b83.lt s86)
  replace E_a1 := E_a1.keep K86
  replace F_numbers_a1 := F_numbers_a1.keep K86 nin0
  replace F_size_a1 := F_size_a1.keep K86 nin0
  replace E_aA := E_aA.keep K86
  replace V_aA := V_aA.keep K86 nin0
  replace E_b83 := E_b83.keep K86
  replace F_numbers_b83 := F_numbers_b83.keep K86 nin0
  replace F_hash_b83 := F_hash_b83.keep K86 nin0
  replace Z0 := Nat.le_trans Z0 K86.1
  replace KK := KK.trans K86 all0
  have V_b86 : Arv Z h86 b86 k86 .int (0 : Int32) [] (.int (0 : Int32)) := Vn86
  have E_b86 := En86
  have N86 := Fr.app N0 N86q
  obtain ⟨_, _, ⟨T87, L87, k87, n87⟩, -, X87, ⟨Lc87, hQ87, l87, y87, z87⟩, st87⟩ := X86.specialBackNest hx (y := mn4) rfl hown (own_mvMN hZ (ww hw 43 rfl)) (mvT hZ (ww hw 44 rfl)) (mvT hZ (ww hw 45 rfl)) (by decide) (backOf (W := 1) (rm7_0 l Z a0 hw [] b83 b86 k86  h86 n0 Z0 E_b83 F_numbers_b83 F_hash_b83 V_b86 g_b83 ne_b83_b86) hZ (ww hw 45 rfl) (ww hw 33 rfl) (by decide) (by decide)) (g := (mkF m 15 #[.val (.ref a1)] [(.ref b86), (.ref b83), (.ref b83)])) rfl (by rw [hml]; rfl) (Steps.refl _) (a := b83) (argsL := [(.ref b86)]) (rest := [(.ref b83)]) (lenOf pd_2 rfl) rfl (by show 2 * 0 + _ ≤ _; exact Nat.le_of_eq rfl) (hb hby d5_15) (fun _ _ => ⟨rfl, e86, (by decide : 2 + 0 ≤ _), (by decide : 2 + 0 ≤ _)⟩)
  dsimp only [Pt.U, Pt.locs, Pt.cells, Pt.slots] at X87 l87 y87 z87 st87 hQ87
  subst l87 y87 z87
  obtain ⟨h87, e87⟩ : ∃ z, T87.heap = z := ⟨_, rfl⟩
  rw [e87] at hQ87
  obtain ⟨rfl, N87q, K87, Fn87⟩ := hQ87
  replace E_a1 := E_a1.keep K87
  replace F_numbers_a1 := F_numbers_a1.keep K87 (ninS ne_a1_b83 nin0)
  replace F_size_a1 := F_size_a1.keep K87 (ninS ne_a1_b83 nin0)
  replace E_aA := E_aA.keep K87
  replace V_aA := V_aA.keep K87 (ninS ne_aA_b83 nin0)
  replace E_b83 := E_b83.keep K87
  replace V_b86 := V_b86.keep K87 (ninS (Ne.symm ne_b83_b86) nin0)
  replace E_b86 := E_b86.keep K87
  replace Z0 := Nat.le_trans Z0 K87.1
  replace KK := KK.trans K87 (allS (Or.inr sz_b83) all0)
  have F_numbers_b83 := Fn87
  have N87 := Fr.app N86 N87q
  obtain ⟨fs, hr, hrun, hended, hW, hsame⟩ := X87.leave (v := some (.ref b83)) (fun h => by rw [Bd.returns] at h; cases h)
  refine ⟨_, _, pre0 _ ?_, hrun, hended, _, _, rfl, ?_, ⟨_, rfl⟩, hW, hsame.mono (by decide) (by decide)⟩
  · refine st83 _ ?_
    show Steps p.tables e below (T83.setTop (mkF m 3 #[.val (.ref a1)] [(.ref b83)])) _
    refine y_dup X83.here hx (hb hby d5_3) rfl ?_
    refine y_aloadN X83.here hx (hb hby d5_4) rfl rfl ?_
    refine st84 _ ?_
    show Steps p.tables e below (T84.setTop (mkF m 8 #[.val (.ref a1)] [(.ref aA), (.ref b83), (.ref b83)])) _
    refine y_aloadN X84.here hx (hb hby d5_8) rfl rfl ?_
    refine st85 _ ?_
    show Steps p.tables e below (T85.setTop (mkF m 12 #[.val (.ref a1)] [(.int (0 : Int32)), (.ref aA), (.ref b83), (.ref b83)])) _
    refine st86 _ ?_
    show Steps p.tables e below (T86.setTop (mkF m 15 #[.val (.ref a1)] [(.ref b86), (.ref b83), (.ref b83)])) _
    refine st87.trans ?_
    show Steps p.tables e below (T87.setTop (mkF m 18 #[.val (.ref a1)] [(.ref b83)])) _
    jvm_step X87.here [X87.here.top, hx, (hb hby d5_18), X87.method', Bd.returns, Value.isRef, FieldType.isReference]
    first | (intro acts; rw [hr _ acts rfl rfl rfl]) | rw [hr _ _ rfl rfl rfl]
    exact Steps.refl _
  · show QS Z (0 : Int32) [] h0 n0 _ T87.heap _
    rw [e87]
    exact ⟨b83, b86, _, rfl, N87, KK, sz_b83, sz_b86, E_b83, F_numbers_b83, V_b86⟩
theorem d8_0 : decode prog_18_method_2_code 0 = .ok (.aload_n 0, 1) := by decide +kernel
theorem d8_1 : decode prog_18_method_2_code 1 = .ok (.getfield 7, 3) := by decide +kernel
theorem d8_4 : decode prog_18_method_2_code 4 = .ok (.arraylength, 1) := by decide +kernel
theorem d8_5 : decode prog_18_method_2_code 5 = .ok (.ireturn, 1) := by decide +kernel
abbrev mn6 : MethodName := ⟨"com/example/hard_delay_bounds/harddelaybounds/analysis/FlowSet", "size", "()I"⟩
theorem ef_8 (m : MethodId) (x0 : Addr) : entryFrame m #[(.ref x0)] 1 = mkF m 0 #[.val (.ref x0)] [] := by first | (simp [entryFrame, mkF, argsToLocals, Value.category]; done) | rfl
set_option maxRecDepth 65536 in
set_option maxHeartbeats 40000000 in
theorem rm8_0 (l : Launch) (Z : State) (a0 : Array Value) (hw : ∀ d ∈ tables_1, d.before a0 Z = true) (ws : List Jvm.Cond) (a1 : Addr) (aB : Addr) (kB : ClassId) (h0 : Heap) (n0 : Nat) (Z0 : n0 ≤ h0.size) (F_numbers_a1 : Fld Z h0 a1 "com/example/hard_delay_bounds/harddelaybounds/analysis/FlowSet" "numbers" "[I" (.ref aB)) (V_aB : Arv Z h0 aB kB .int (0 : Int32) [] (.int (0 : Int32))) :
    MetFree l mn6 (head1 (Jvm.Cond.code mn6 prog_18_method_2_code 1 (some .int) :: ws) ({ frames := 0, cells := 0, slots := 0, locals := 0 } : Room)) (fun a U => a = #[(.ref a1)] ∧ Z.Warmed39 U.vm ∧ U.heap = h0) (fun _ _ _ _ _ => True) (fun _ U o U' => ∃ v L, o = .returned v ∧ QP (some (.int (0 : Int32))) h0 n0 v U'.heap L ∧ FrameEnd U o U' L ({ frames := 0, cells := 0, slots := 0, locals := 0 } : Room).cells ({ frames := 0, cells := 0, slots := 0, locals := 0 } : Room).slots) := by
  refine MetFree.of_bodySF (plainFor_of_name pn_7) hisR ?_
  intro p e s m args below meth c s₁ Bd hml0 hP hK
  obtain ⟨rfl, hZ, hh⟩ := hP
  have hx := Bd.exec
  have hby := Bd.bytes
  have hml : c.maxLocals = 1 := hml0
  have hown : s.vm.findClass "com/example/hard_delay_bounds/harddelaybounds/analysis/FlowSet" = some m.cls := findClass_of_methodNamed Bd.named
  have hnm := (name_of_methodNamed Bd.named Bd.method).1
  have X0 : Stand p l e ({ frames := 0, cells := 0, slots := 0, locals := 0 } : Room) s m #[(.ref a1)] below meth c s₁ [] 0 0 := Stand.of_body Bd
  have e0 : s₁.heap = h0 := by rw [← hh, Bd.state]; rfl
  have N0 := Fr.nil n0
  have pre0 : ∀ t, Steps p.tables e below (s₁.setTop (mkF m 0 #[.val (.ref a1)] [])) t → Steps p.tables e below (s₁.setTop (entryFrame m #[(.ref a1)] 1)) t := fun t k => castTop (ef_8 m a1) k
  obtain ⟨T88, X88, e88, st88⟩ := getF X0 hx hZ hown (host := "") (Or.inl (ww hw 47 rfl)) Via.refl e0 F_numbers_a1 (g := (mkF m 1 #[.val (.ref a1)] [(.ref a1)])) rfl rfl (hb hby d8_1)
  obtain ⟨cl89, Ar89, q89, Sz89, Nn89, Hh89, Gg89⟩ := id V_aB
  obtain ⟨fs, hr, hrun, hended, hW, hsame⟩ := X88.leave (v := some (.int (0 : Int32))) (fun h => by rw [Bd.returns] at h; cases h)
  refine ⟨_, _, pre0 _ ?_, hrun, hended, _, _, rfl, ?_, ⟨_, rfl⟩, hW, hsame.mono (by decide) (by decide)⟩
  · refine y_aloadN X0.here hx (hb hby d8_0) rfl rfl ?_
    refine st88 _ ?_
    show Steps p.tables e below (T88.setTop (mkF m 4 #[.val (.ref a1)] [(.ref aB)])) _
    refine X88.arraylength hx (by rw [e88]; exact Ar89.1) (State.isArrayOf_alike hZ.alike Ar89.2.1) (g := (mkF m 4 #[.val (.ref a1)] [(.ref aB)])) rfl rfl (hb hby d8_4) _ ?_
    rw [len_of Sz89 Nn89]
    show Steps p.tables e below (T88.setTop (mkF m 5 #[.val (.ref a1)] [(.int (0 : Int32))])) _
    exact retI X88 hx Bd.returns (hb hby d8_5) hr
  · show QP _ h0 n0 _ T88.heap _
    rw [e88]
    exact ⟨rfl, N0, rfl⟩
set_option maxRecDepth 65536 in
set_option maxHeartbeats 40000000 in
theorem rm6_4_1_1 (l : Launch) (Z : State) (a0 : Array Value) (hw : ∀ d ∈ tables_1, d.before a0 Z = true) (ws : List Jvm.Cond) (a1 : Addr) (k1 : ClassId) (x0 : Int32) (h0 : Heap) (n0 : Nat) (Z0 : n0 ≤ h0.size) (E_a1 : Exa Z h0 a1 "[I") (V_a1 : Arv Z h0 a1 k1 .int (4 : Int32) [(.int x0), (.int (0 : Int32)), (.int (0 : Int32)), (.int (0 : Int32))] (.int (0 : Int32))) :
    MetFree l mn3 (head1 (Jvm.Cond.code mn3 jdk_65_method_123_code 3 (some (.array .int)) :: ws) ({ frames := 1, cells := 1, slots := 1, locals := 18 } : Room)) (fun a U => a = #[(.ref a1), (.int (1 : Int32))] ∧ Z.Warmed39 U.vm ∧ U.heap = h0) (fun _ _ _ _ _ => True) (fun _ U o U' => ∃ v L, o = .returned v ∧ QC Z (1 : Int32) [(.int x0)] h0 n0 v U'.heap L ∧ FrameEnd U o U' L ({ frames := 1, cells := 1, slots := 1, locals := 18 } : Room).cells ({ frames := 1, cells := 1, slots := 1, locals := 18 } : Room).slots) := by
  refine MetFree.of_bodySF (plainFor_of_name pn_6) hisR ?_
  intro p e s m args below meth c s₁ Bd hml0 hP hK
  obtain ⟨rfl, hZ, hh⟩ := hP
  have hx := Bd.exec
  have hby := Bd.bytes
  have hml : c.maxLocals = 3 := hml0
  have hown : s.vm.findClass "java/util/Arrays" = some m.cls := findClass_of_methodNamed Bd.named
  have hnm := (name_of_methodNamed Bd.named Bd.method).1
  have X0 : Stand p l e ({ frames := 1, cells := 1, slots := 1, locals := 18 } : Room) s m #[(.ref a1), (.int (1 : Int32))] below meth c s₁ [] 0 0 := Stand.of_body Bd
  have e0 : s₁.heap = h0 := by rw [← hh, Bd.state]; rfl
  have N0 := Fr.nil n0
  have pre0 : ∀ t, Steps p.tables e below (s₁.setTop (mkF m 0 #[.val (.ref a1), .val (.int (1 : Int32)), .unset] [])) t → Steps p.tables e below (s₁.setTop (entryFrame m #[(.ref a1), (.int (1 : Int32))] 3)) t := fun t k => castTop (ef_6 m a1 (1 : Int32)) k
  have KK := Keep.refl h0 []
  obtain ⟨cl90, Ar90, q90, Sz90, Nn90, Hh90, Gg90⟩ := id V_a1
  obtain ⟨T91, h91, k91, X91, e91, E91, A91, Ex91, st91⟩ := newPE X0 hx hZ (ww hw 16 rfl) e0 (g := (mkF m 15 #[.val (.ref a1), .val (.int (1 : Int32)), .unset] [(.int (1 : Int32))])) rfl (hb hby d6_15) rfl (by decide) (cap := 1) (by decide) (by decide) (by decide) (by decide) (ad := "[I") (by first | rfl | decide)
  obtain ⟨b91, g91⟩ : ∃ z, z = h0.size := ⟨_, rfl⟩
  rw [← g91] at A91 Ex91 st91
  have g_b91 : n0 ≤ b91 := Nat.le_trans Z0 (Nat.le_of_eq g91.symm)
  have sz_b91 : h0.size ≤ b91 := Nat.le_trans KK.1 (Nat.le_of_eq g91.symm)
  have ne_a1_b91 : a1 ≠ b91 := Nat.ne_of_lt (Nat.lt_of_lt_of_le E_a1.lt (Nat.le_of_eq g91.symm))
  replace E_a1 := E_a1.ext E91
  replace V_a1 := V_a1.ext E91
  replace Z0 := Nat.le_trans Z0 E91.1
  replace KK := KK.ext E91
  have V_b91 : Arv Z h91 b91 k91 .int (1 : Int32) [(.int (0 : Int32))] (.int (0 : Int32)) := (Arv.new A91 (by decide)).pad (pad_rep [] (.int (0 : Int32)) 1)
  have E_b91 : Exa Z h91 b91 "[I" := Ex91
  obtain ⟨cl92, Ar92, q92, Sz92, Nn92, Hh92, Gg92⟩ := id V_a1
  obtain ⟨_, _, ⟨T93, L93, k93, n93⟩, -, X93, ⟨Lc93, hQ93, l93, y93, z93⟩, st93⟩ := Jvm.LawKit.callS X91 hx (y := mn0) hown (mvT hZ (ww hw 38 rfl)) (mvT hZ (ww hw 3 rfl)) (mvT hZ (ww hw 4 rfl)) (mvT hZ (ww hw 5 rfl)) (by decide) (backOf (W := 4) (rm1 l Z a0 hw [] (4 : Int32) (1 : Int32) h91 n0 Z0) hZ (ww hw 5 rfl) (ww hw 4 rfl) (by decide) (by decide)) (g := (mkF m 25 #[.val (.ref a1), .val (.int (1 : Int32)), .val (.ref b91)] [(.int (1 : Int32)), (.int (4 : Int32)), (.int (0 : Int32)), (.ref b91), (.int (0 : Int32)), (.ref a1)])) rfl (by rw [hml]; rfl) (argsL := [(.int (4 : Int32)), (.int (1 : Int32))]) (rest := [(.int (0 : Int32)), (.ref b91), (.int (0 : Int32)), (.ref a1)]) (lenOf pd_0 rfl) rfl (by show 2 * 0 + _ ≤ _; exact Nat.le_of_eq rfl) (hb hby d6_25) (fun _ _ => ⟨rfl, e91, (by decide : 1 + 0 ≤ _), (by decide : 1 + 0 ≤ _)⟩)
  dsimp only [Pt.U, Pt.locs, Pt.cells, Pt.slots] at X93 l93 y93 z93 st93 hQ93
  subst l93 y93 z93
  obtain ⟨rfl, N93q, e93⟩ := hQ93
  rw [show f1 (4 : Int32) (1 : Int32) = (1 : Int32) from by decide] at st93
  have N93 := Fr.app N0 N93q
  obtain ⟨T94, h94, L94, X94, e94, N94, K94, Vn94, st94⟩ := cpA X93 hx hZ hown (ww hw 39 rfl) (ww hw 42 rfl) (ww hw 40 rfl) (ww hw 41 rfl) e93 (us := [(.int x0)]) V_a1 V_b91 (Or.inl ⟨rfl, rfl⟩) (by decide) (by decide) (by decide) (by decide) (by decide) rfl (by decide) N93 g_b91 (g := (mkF m 28 #[.val (.ref a1), .val (.int (1 : Int32)), .val (.ref b91)] [(.int (1 : Int32)), (.int (0 : Int32)), (.ref b91), (.int (0 : Int32)), (.ref a1)])) rfl (by rw [hml]; rfl) rfl (hb hby d6_28) (by decide) (W := 0) (by show 2 * 0 + _ ≤ _; exact Nat.le_of_eq rfl) (by decide)
  replace E_a1 := E_a1.keep K94
  replace V_a1 := V_a1.keep K94 (ninS ne_a1_b91 nin0)
  replace E_b91 := E_b91.keep K94
  replace Z0 := Nat.le_trans Z0 K94.1
  replace KK := KK.trans K94 (allS (Or.inr sz_b91) all0)
  have V_b91 : Arv Z h94 b91 k91 .int (1 : Int32) [(.int x0)] (.int (0 : Int32)) := Vn94
  obtain ⟨fs, hr, hrun, hended, hW, hsame⟩ := X94.leave (v := some (.ref b91)) (fun h => by rw [Bd.returns] at h; cases h)
  refine ⟨_, _, pre0 _ ?_, hrun, hended, _, _, rfl, ?_, ⟨_, rfl⟩, hW, hsame.mono (by decide) (by decide)⟩
  · refine y_iloadN X0.here hx (hb hby d6_0) rfl ?_
    refine y_aloadN X0.here hx (hb hby d6_1) rfl rfl ?_
    refine X0.arraylength hx (by rw [e0]; exact Ar90.1) (State.isArrayOf_alike hZ.alike Ar90.2.1) (g := (mkF m 2 #[.val (.ref a1), .val (.int (1 : Int32)), .unset] [(.ref a1), (.int (1 : Int32))])) rfl rfl (hb hby d6_2) _ ?_
    rw [len_of Sz90 Nn90]
    show Steps p.tables e below (s₁.setTop (mkF m 3 #[.val (.ref a1), .val (.int (1 : Int32)), .unset] [(.int (4 : Int32)), (.int (1 : Int32))])) _
    refine y_icmpYes X0.here hx (pc' := 14) (hb hby d6_3) (feq (by decide)).2 (by decide) (by decide) ?_
    refine y_iloadN X0.here hx (hb hby d6_14) rfl ?_
    refine st91 _ ?_
    show Steps p.tables e below (T91.setTop (mkF m 17 #[.val (.ref a1), .val (.int (1 : Int32)), .unset] [(.ref b91)])) _
    refine y_astoreN X91.here hx (hb hby d6_17) rfl (l' := #[.val (.ref a1), .val (.int (1 : Int32)), .val (.ref b91)]) rfl ?_
    refine y_aloadN X91.here hx (hb hby d6_18) rfl rfl ?_
    refine y_iconst X91.here hx (v := (0 : Int32)) (hb hby d6_19) rfl ?_
    refine y_aloadN X91.here hx (hb hby d6_20) rfl rfl ?_
    refine y_iconst X91.here hx (v := (0 : Int32)) (hb hby d6_21) rfl ?_
    refine y_aloadN X91.here hx (hb hby d6_22) rfl rfl ?_
    refine X91.arraylength hx (by rw [e91]; exact Ar92.1) (State.isArrayOf_alike hZ.alike Ar92.2.1) (g := (mkF m 23 #[.val (.ref a1), .val (.int (1 : Int32)), .val (.ref b91)] [(.ref a1), (.int (0 : Int32)), (.ref b91), (.int (0 : Int32)), (.ref a1)])) rfl rfl (hb hby d6_23) _ ?_
    rw [len_of Sz92 Nn92]
    show Steps p.tables e below (T91.setTop (mkF m 24 #[.val (.ref a1), .val (.int (1 : Int32)), .val (.ref b91)] [(.int (4 : Int32)), (.int (0 : Int32)), (.ref b91), (.int (0 : Int32)), (.ref a1)])) _
    refine y_iloadN X91.here hx (hb hby d6_24) rfl ?_
    refine st93 _ ?_
    show Steps p.tables e below (T93.setTop (mkF m 28 #[.val (.ref a1), .val (.int (1 : Int32)), .val (.ref b91)] [(.int (1 : Int32)), (.int (0 : Int32)), (.ref b91), (.int (0 : Int32)), (.ref a1)])) _
    refine st94 _ ?_
    show Steps p.tables e below (T94.setTop (mkF m 31 #[.val (.ref a1), .val (.int (1 : Int32)), .val (.ref b91)] [])) _
    refine y_aloadN X94.here hx (hb hby d6_31) rfl rfl ?_
    show Steps p.tables e below (T94.setTop (mkF m 32 #[.val (.ref a1), .val (.int (1 : Int32)), .val (.ref b91)] [(.ref b91)])) _
    jvm_step X94.here [X94.here.top, hx, (hb hby d6_32), X94.method', Bd.returns, Value.isRef, FieldType.isReference]
    first | (intro acts; rw [hr _ acts rfl rfl rfl]) | rw [hr _ _ rfl rfl rfl]
    exact Steps.refl _
  · show QC Z (1 : Int32) [(.int x0)] h0 n0 _ T94.heap _
    rw [e94]
    exact ⟨b91, _, rfl, N94, KK, sz_b91, V_b91, E_b91⟩
theorem d7_28 : decode prog_18_method_1_code 28 = .ok (.aload_n 3, 1) := by decide +kernel
theorem d7_29 : decode prog_18_method_1_code 29 = .ok (.iload 5, 2) := by decide +kernel
theorem d7_31 : decode prog_18_method_1_code 31 = .ok (.iaload, 1) := by decide +kernel
theorem d7_32 : decode prog_18_method_1_code 32 = .ok (.istore 6, 2) := by decide +kernel
theorem d7_34 : decode prog_18_method_1_code 34 = .ok (.iload_n 2, 1) := by decide +kernel
theorem d7_35 : decode prog_18_method_1_code 35 = .ok (.iload 6, 2) := by decide +kernel
theorem d7_37 : decode prog_18_method_1_code 37 = .ok (.ixor, 1) := by decide +kernel
theorem d7_38 : decode prog_18_method_1_code 38 = .ok (.ldc 13, 2) := by decide +kernel
theorem d7_40 : decode prog_18_method_1_code 40 = .ok (.imul, 1) := by decide +kernel
theorem d7_41 : decode prog_18_method_1_code 41 = .ok (.istore_n 2, 1) := by decide +kernel
theorem d7_42 : decode prog_18_method_1_code 42 = .ok (.iload_n 2, 1) := by decide +kernel
theorem d7_43 : decode prog_18_method_1_code 43 = .ok (.iload_n 2, 1) := by decide +kernel
theorem d7_44 : decode prog_18_method_1_code 44 = .ok (.bipush 15, 2) := by decide +kernel
theorem d7_46 : decode prog_18_method_1_code 46 = .ok (.iushr, 1) := by decide +kernel
theorem d7_47 : decode prog_18_method_1_code 47 = .ok (.ixor, 1) := by decide +kernel
theorem d7_48 : decode prog_18_method_1_code 48 = .ok (.istore_n 2, 1) := by decide +kernel
theorem d7_49 : decode prog_18_method_1_code 49 = .ok (.iinc 5 1, 3) := by decide +kernel
theorem d7_52 : decode prog_18_method_1_code 52 = .ok (.goto (-31), 3) := by decide +kernel
abbrev lo7_1_0 (a1 : Addr) (a2 : Addr) : Array Slot := #[.val (.ref a1), .val (.ref a2), .val (.int (1 : Int32)), .val (.ref a2), .val (.int (1 : Int32)), .unset, .unset]
abbrev lo7_1_1 (a1 : Addr) (a2 : Addr) : Array Slot := #[.val (.ref a1), .val (.ref a2), .val (.int (1 : Int32)), .val (.ref a2), .val (.int (1 : Int32)), .val (.int (0 : Int32)), .unset]
abbrev lo7_1_2 (a1 : Addr) (a2 : Addr) (x0 : Int32) : Array Slot := #[.val (.ref a1), .val (.ref a2), .val (.int (1 : Int32)), .val (.ref a2), .val (.int (1 : Int32)), .val (.int (0 : Int32)), .val (.int x0)]
abbrev lo7_1_3 (a1 : Addr) (a2 : Addr) (x0 : Int32) : Array Slot := #[.val (.ref a1), .val (.ref a2), .val (.int (((1 : Int32) ^^^ x0) * (-1640531535 : Int32))), .val (.ref a2), .val (.int (1 : Int32)), .val (.int (0 : Int32)), .val (.int x0)]
abbrev lo7_1_4 (a1 : Addr) (a2 : Addr) (x0 : Int32) : Array Slot := #[.val (.ref a1), .val (.ref a2), .val (.int ((((1 : Int32) ^^^ x0) * (-1640531535 : Int32)) ^^^ (((((1 : Int32) ^^^ x0) * (-1640531535 : Int32)).toUInt32 >>> ((15 : Int32) &&& 31).toUInt32).toInt32))), .val (.ref a2), .val (.int (1 : Int32)), .val (.int (0 : Int32)), .val (.int x0)]
abbrev lo7_1_5 (a1 : Addr) (a2 : Addr) (x0 : Int32) : Array Slot := #[.val (.ref a1), .val (.ref a2), .val (.int ((((1 : Int32) ^^^ x0) * (-1640531535 : Int32)) ^^^ (((((1 : Int32) ^^^ x0) * (-1640531535 : Int32)).toUInt32 >>> ((15 : Int32) &&& 31).toUInt32).toInt32))), .val (.ref a2), .val (.int (1 : Int32)), .val (.int (1 : Int32)), .val (.int x0)]
abbrev lo7_1_6 (a1 : Addr) (a2 : Addr) (z102 : Int32) (x0 : Int32) : Array Slot := #[.val (.ref a1), .val (.ref a2), .val (.int z102), .val (.ref a2), .val (.int (1 : Int32)), .val (.int (1 : Int32)), .val (.int x0)]
set_option maxRecDepth 65536 in
set_option maxHeartbeats 40000000 in
theorem rm7_1 (l : Launch) (Z : State) (a0 : Array Value) (hw : ∀ d ∈ tables_1, d.before a0 Z = true) (ws : List Jvm.Cond) (a1 : Addr) (a2 : Addr) (k2 : ClassId) (x0 : Int32) (h0 : Heap) (n0 : Nat) (Z0 : n0 ≤ h0.size) (E_a1 : Exa Z h0 a1 "com/example/hard_delay_bounds/harddelaybounds/analysis/FlowSet") (F_numbers_a1 : Fld Z h0 a1 "com/example/hard_delay_bounds/harddelaybounds/analysis/FlowSet" "numbers" "[I" .null) (F_hash_a1 : Fld Z h0 a1 "com/example/hard_delay_bounds/harddelaybounds/analysis/FlowSet" "hash" "I" (.int (0 : Int32))) (V_a2 : Arv Z h0 a2 k2 .int (1 : Int32) [(.int x0)] (.int (0 : Int32))) (g_a1 : n0 ≤ a1) (ne_a1_a2 : a1 ≠ a2) :
    MetFree l mn4 (head1 (Jvm.Cond.code mn4 prog_18_method_1_code 7 none :: ws) ({ frames := 1, cells := 0, slots := 0, locals := 12 } : Room)) (fun a U => a = #[(.ref a1), (.ref a2)] ∧ Z.Warmed39 U.vm ∧ U.heap = h0) (fun _ _ _ _ _ => True) (fun _ U o U' => ∃ v L, o = .returned v ∧ QI Z a1 a2 h0 n0 v U'.heap L ∧ FrameEnd U o U' L ({ frames := 1, cells := 0, slots := 0, locals := 12 } : Room).cells ({ frames := 1, cells := 0, slots := 0, locals := 12 } : Room).slots) := by
  refine MetFree.of_bodySF (plainFor_of_name pn_7) hisR ?_
  intro p e s m args below meth c s₁ Bd hml0 hP hK
  obtain ⟨rfl, hZ, hh⟩ := hP
  have hx := Bd.exec
  have hby := Bd.bytes
  have hml : c.maxLocals = 7 := hml0
  have hown : s.vm.findClass "com/example/hard_delay_bounds/harddelaybounds/analysis/FlowSet" = some m.cls := findClass_of_methodNamed Bd.named
  have hnm := (name_of_methodNamed Bd.named Bd.method).1
  have X0 : Stand p l e ({ frames := 1, cells := 0, slots := 0, locals := 12 } : Room) s m #[(.ref a1), (.ref a2)] below meth c s₁ [] 0 0 := Stand.of_body Bd
  have e0 : s₁.heap = h0 := by rw [← hh, Bd.state]; rfl
  have N0 := Fr.nil n0
  have pre0 : ∀ t, Steps p.tables e below (s₁.setTop (mkF m 0 #[.val (.ref a1), .val (.ref a2), .unset, .unset, .unset, .unset, .unset] [])) t → Steps p.tables e below (s₁.setTop (entryFrame m #[(.ref a1), (.ref a2)] 7)) t := fun t k => castTop (ef_7 m a1 a2) k
  have KK := Keep.refl h0 [a1]
  obtain ⟨T95, X95, e95, st95⟩ := initO X0 hx hZ hown (ww hw 46 rfl) (ww hw 14 rfl) (ww hw 15 rfl) e0 (g := (mkF m 1 #[.val (.ref a1), .val (.ref a2), .unset, .unset, .unset, .unset, .unset] [(.ref a1)])) rfl (by rw [hml]; rfl) rfl (hb hby d7_1) (by decide) (W := 0) (by show 2 * 0 + _ ≤ _; exact Nat.le_of_eq rfl) (by decide)
  obtain ⟨T96, h96, X96, e96, W96, st96⟩ := putF X95 hx hZ hown (host := "") (Or.inl (ww hw 47 rfl)) Via.refl e95 F_numbers_a1 E_a1 (Or.inr ⟨(ww hw 48 rfl), rfl, hnm⟩) (ww hw 32 rfl) (ty := (.array .int)) (by decide) rfl rfl (g := (mkF m 6 #[.val (.ref a1), .val (.ref a2), .unset, .unset, .unset, .unset, .unset] [(.ref a2), (.ref a1)])) rfl rfl (hb hby d7_6)
  replace E_a1 := E_a1.wr W96
  replace F_numbers_a1 := F_numbers_a1.same W96
  replace F_hash_a1 := F_hash_a1.other W96 (Or.inr (slot_ne (Or.inr (ww hw 51 rfl)) (Or.inr (ww hw 48 rfl)) (by decide) (t := .int) (t' := (.array .int)) (by decide) (by decide)))
  replace V_a2 := V_a2.other W96 (Ne.symm ne_a1_a2)
  replace Z0 := Nat.le_trans Z0 (Keep.of_wr W96).1
  replace KK := KK.wr W96 (Or.inl (List.mem_of_getElem? (i := 0) rfl))
  have N96 := Fr.snoc X96 N0 g_a1
  obtain ⟨cl97, Ar97, q97, Sz97, Nn97, Hh97, Gg97⟩ := id V_a2
  obtain ⟨cl98, Ar98, q98, Sz98, Nn98, Hh98, Gg98⟩ := id V_a2
  have pre99 : ∀ t, Steps p.tables e below (T96.setTop (mkF m 21 #[.val (.ref a1), .val (.ref a2), .val (.int (1 : Int32)), .val (.ref a2), .val (.int (1 : Int32)), .val (.int (0 : Int32)), .unset] [])) t → Steps p.tables e below (s₁.setTop (entryFrame m #[(.ref a1), (.ref a2)] 7)) t := fun t k => by
    refine pre0 _ ?_
    refine y_aloadN X0.here hx (hb hby d7_0) rfl rfl ?_
    refine st95 _ ?_
    show Steps p.tables e below (T95.setTop (mkF m 4 #[.val (.ref a1), .val (.ref a2), .unset, .unset, .unset, .unset, .unset] [])) _
    refine y_aloadN X95.here hx (hb hby d7_4) rfl rfl ?_
    refine y_aloadN X95.here hx (hb hby d7_5) rfl rfl ?_
    refine st96 _ ?_
    show Steps p.tables e below (T96.setTop (mkF m 9 #[.val (.ref a1), .val (.ref a2), .unset, .unset, .unset, .unset, .unset] [])) _
    refine y_aloadN X96.here hx (hb hby d7_9) rfl rfl ?_
    refine X96.arraylength hx (by rw [e96]; exact Ar97.1) (State.isArrayOf_alike hZ.alike Ar97.2.1) (g := (mkF m 10 #[.val (.ref a1), .val (.ref a2), .unset, .unset, .unset, .unset, .unset] [(.ref a2)])) rfl rfl (hb hby d7_10) _ ?_
    rw [len_of Sz97 Nn97]
    show Steps p.tables e below (T96.setTop (mkF m 11 #[.val (.ref a1), .val (.ref a2), .unset, .unset, .unset, .unset, .unset] [(.int (1 : Int32))])) _
    refine y_istoreN X96.here hx (hb hby d7_11) (l' := #[.val (.ref a1), .val (.ref a2), .val (.int (1 : Int32)), .unset, .unset, .unset, .unset]) rfl ?_
    refine y_aloadN X96.here hx (hb hby d7_12) rfl rfl ?_
    refine y_astoreN X96.here hx (hb hby d7_13) rfl (l' := #[.val (.ref a1), .val (.ref a2), .val (.int (1 : Int32)), .val (.ref a2), .unset, .unset, .unset]) rfl ?_
    refine y_aloadN X96.here hx (hb hby d7_14) rfl rfl ?_
    refine X96.arraylength hx (by rw [e96]; exact Ar98.1) (State.isArrayOf_alike hZ.alike Ar98.2.1) (g := (mkF m 15 #[.val (.ref a1), .val (.ref a2), .val (.int (1 : Int32)), .val (.ref a2), .unset, .unset, .unset] [(.ref a2)])) rfl rfl (hb hby d7_15) _ ?_
    rw [len_of Sz98 Nn98]
    show Steps p.tables e below (T96.setTop (mkF m 16 #[.val (.ref a1), .val (.ref a2), .val (.int (1 : Int32)), .val (.ref a2), .unset, .unset, .unset] [(.int (1 : Int32))])) _
    refine y_istore X96.here hx (hb hby d7_16) (l' := (lo7_1_0 a1 a2)) rfl ?_
    refine y_iconst X96.here hx (v := (0 : Int32)) (hb hby d7_18) rfl ?_
    refine y_istore X96.here hx (hb hby d7_19) (l' := (lo7_1_1 a1 a2)) rfl ?_
    exact k
  obtain ⟨cl100, Ar100, q100, Sz100, Nn100, Hh100, Gg100⟩ := id V_a2
  have hin100 : ¬ ((0 : Int32) < 0 ∨ cl100.slots.size ≤ ((0 : Int32)).toNatClampNeg) := inb_of Sz100 ⟨by decide, by decide⟩
  have hat100 : cl100.slots[((0 : Int32)).toNatClampNeg]? = some (.int x0) := Hh100.at hin100 rfl
  have pre101 : ∀ t, Steps p.tables e below (T96.setTop (mkF m 21 #[.val (.ref a1), .val (.ref a2), .val (.int ((((1 : Int32) ^^^ x0) * (-1640531535 : Int32)) ^^^ (((((1 : Int32) ^^^ x0) * (-1640531535 : Int32)).toUInt32 >>> ((15 : Int32) &&& 31).toUInt32).toInt32))), .val (.ref a2), .val (.int (1 : Int32)), .val (.int (1 : Int32)), .val (.int x0)] [])) t → Steps p.tables e below (s₁.setTop (entryFrame m #[(.ref a1), (.ref a2)] 7)) t := fun t k => by
    refine pre99 _ ?_
    refine y_iload X96.here hx (hb hby d7_21) rfl ?_
    refine y_iload X96.here hx (hb hby d7_23) rfl ?_
    refine y_icmpNo X96.here hx (hb hby d7_25) (tlt (by decide)).2.1 ?_
    refine y_aloadN X96.here hx (hb hby d7_28) rfl rfl ?_
    refine y_iload X96.here hx (hb hby d7_29) rfl ?_
    refine X96.iaload hx (j := (0 : Int32)) (v := (.int x0)) (by rw [e96]; exact Ar100.1) (State.isArrayOf_alike hZ.alike Ar100.2.1) Ar100.2.2 hin100 hat100 (g := (mkF m 31 (lo7_1_1 a1 a2) [(.int (0 : Int32)), (.ref a2)])) rfl rfl (hb hby d7_31) _ ?_
    show Steps p.tables e below (T96.setTop (mkF m 32 (lo7_1_1 a1 a2) [(.int x0)])) _
    refine y_istore X96.here hx (hb hby d7_32) (l' := (lo7_1_2 a1 a2 x0)) rfl ?_
    refine y_iloadN X96.here hx (hb hby d7_34) rfl ?_
    refine y_iload X96.here hx (hb hby d7_35) rfl ?_
    refine y_ixor X96.here hx (hb hby d7_37) ?_
    refine X96.ldcInt hx hown (mvT hZ (ww hw 49 rfl)) (g := (mkF m 38 (lo7_1_2 a1 a2 x0) [(.int ((1 : Int32) ^^^ x0))])) rfl (hb hby d7_38) _ ?_
    show Steps p.tables e below (T96.setTop (mkF m 40 (lo7_1_2 a1 a2 x0) [(.int (-1640531535 : Int32)), (.int ((1 : Int32) ^^^ x0))])) _
    refine y_imul X96.here hx (hb hby d7_40) ?_
    refine y_istoreN X96.here hx (hb hby d7_41) (l' := (lo7_1_3 a1 a2 x0)) rfl ?_
    refine y_iloadN X96.here hx (hb hby d7_42) rfl ?_
    refine y_iloadN X96.here hx (hb hby d7_43) rfl ?_
    refine y_bipush X96.here hx (v := (15 : Int32)) (hb hby d7_44) rfl ?_
    refine y_iushr X96.here hx (hb hby d7_46) ?_
    refine y_ixor X96.here hx (hb hby d7_47) ?_
    refine y_istoreN X96.here hx (hb hby d7_48) (l' := (lo7_1_4 a1 a2 x0)) rfl ?_
    refine y_iinc X96.here hx (hb hby d7_49) rfl (l' := (lo7_1_5 a1 a2 x0)) rfl ?_
    refine y_goto X96.here hx (pc' := 21) (hb hby d7_52) (by decide) (by decide) ?_
    exact k
  obtain ⟨z102, hz102⟩ : ∃ z, z = ((((1 : Int32) ^^^ x0) * (-1640531535 : Int32)) ^^^ (((((1 : Int32) ^^^ x0) * (-1640531535 : Int32)).toUInt32 >>> ((15 : Int32) &&& 31).toUInt32).toInt32)) := ⟨_, rfl⟩
  rw [← hz102] at pre101
  obtain ⟨T103, h103, X103, e103, W103, st103⟩ := putF X96 hx hZ hown (host := "") (Or.inl (ww hw 50 rfl)) Via.refl e96 F_hash_a1 E_a1 (Or.inr ⟨(ww hw 51 rfl), rfl, hnm⟩) (ww hw 32 rfl) (ty := .int) (by decide) rfl rfl (g := (mkF m 57 (lo7_1_6 a1 a2 z102 x0) [(.int z102), (.ref a1)])) rfl rfl (hb hby d7_57)
  replace E_a1 := E_a1.wr W103
  replace F_numbers_a1 := F_numbers_a1.other W103 (Or.inr (slot_ne (Or.inr (ww hw 48 rfl)) (Or.inr (ww hw 51 rfl)) (by decide) (t := (.array .int)) (t' := .int) (by decide) (by decide)))
  replace F_hash_a1 := F_hash_a1.same W103
  replace V_a2 := V_a2.other W103 (Ne.symm ne_a1_a2)
  replace Z0 := Nat.le_trans Z0 (Keep.of_wr W103).1
  replace KK := KK.wr W103 (Or.inl (List.mem_of_getElem? (i := 0) rfl))
  have N103 := Fr.snoc X103 N96 g_a1
  obtain ⟨fs, hr, hrun, hended, hW, hsame⟩ := X103.leave (v := none) (fun _ => rfl)
  refine ⟨_, _, pre101 _ ?_, hrun, hended, _, _, rfl, ?_, ⟨_, rfl⟩, hW, hsame.mono (by decide) (by decide)⟩
  · refine y_iload X96.here hx (hb hby d7_21) rfl ?_
    refine y_iload X96.here hx (hb hby d7_23) rfl ?_
    refine y_icmpYes X96.here hx (pc' := 55) (hb hby d7_25) (flt (by decide)).2.1 (by decide) (by decide) ?_
    refine y_aloadN X96.here hx (hb hby d7_55) rfl rfl ?_
    refine y_iloadN X96.here hx (hb hby d7_56) rfl ?_
    refine st103 _ ?_
    show Steps p.tables e below (T103.setTop (mkF m 60 (lo7_1_6 a1 a2 z102 x0) [])) _
    exact X103.returnOut hx Bd.returns (hb hby d7_60) hr
  · show QI Z a1 a2 h0 n0 _ T103.heap _
    rw [e103]
    exact ⟨rfl, N103, KK, F_numbers_a1⟩
set_option maxRecDepth 65536 in
set_option maxHeartbeats 40000000 in
theorem rm5_1 (l : Launch) (Z : State) (a0 : Array Value) (hw : ∀ d ∈ tables_1, d.before a0 Z = true) (ws : List Jvm.Cond) (a1 : Addr) (aA : Addr) (kA : ClassId) (x0 : Int32) (h0 : Heap) (n0 : Nat) (Z0 : n0 ≤ h0.size) (E_a1 : Exa Z h0 a1 "com/example/hard_delay_bounds/harddelaybounds/analysis/FlowSet$Builder") (F_numbers_a1 : Fld Z h0 a1 "com/example/hard_delay_bounds/harddelaybounds/analysis/FlowSet$Builder" "numbers" "[I" (.ref aA)) (F_size_a1 : Fld Z h0 a1 "com/example/hard_delay_bounds/harddelaybounds/analysis/FlowSet$Builder" "size" "I" (.int (1 : Int32))) (E_aA : Exa Z h0 aA "[I") (V_aA : Arv Z h0 aA kA .int (4 : Int32) [(.int x0), (.int (0 : Int32)), (.int (0 : Int32)), (.int (0 : Int32))] (.int (0 : Int32))) (ne_a1_aA : a1 ≠ aA) :
    MetFree l mn5 (head1 (Jvm.Cond.code mn5 prog_19_method_3_code 1 (some (.object "com/example/hard_delay_bounds/harddelaybounds/analysis/FlowSet")) :: ws) ({ frames := 2, cells := 2, slots := 3, locals := 34 } : Room)) (fun a U => a = #[(.ref a1)] ∧ Z.Warmed39 U.vm ∧ U.heap = h0) (fun _ _ _ _ _ => True) (fun _ U o U' => ∃ v L, o = .returned v ∧ QS Z (1 : Int32) [(.int x0)] h0 n0 v U'.heap L ∧ FrameEnd U o U' L ({ frames := 2, cells := 2, slots := 3, locals := 34 } : Room).cells ({ frames := 2, cells := 2, slots := 3, locals := 34 } : Room).slots) := by
  refine MetFree.of_bodySF (plainFor_of_name pn_2) hisR ?_
  intro p e s m args below meth c s₁ Bd hml0 hP hK
  obtain ⟨rfl, hZ, hh⟩ := hP
  have hx := Bd.exec
  have hby := Bd.bytes
  have hml : c.maxLocals = 1 := hml0
  have hown : s.vm.findClass "com/example/hard_delay_bounds/harddelaybounds/analysis/FlowSet$Builder" = some m.cls := findClass_of_methodNamed Bd.named
  have hnm := (name_of_methodNamed Bd.named Bd.method).1
  have X0 : Stand p l e ({ frames := 2, cells := 2, slots := 3, locals := 34 } : Room) s m #[(.ref a1)] below meth c s₁ [] 0 0 := Stand.of_body Bd
  have e0 : s₁.heap = h0 := by rw [← hh, Bd.state]; rfl
  have N0 := Fr.nil n0
  have pre0 : ∀ t, Steps p.tables e below (s₁.setTop (mkF m 0 #[.val (.ref a1)] [])) t → Steps p.tables e below (s₁.setTop (entryFrame m #[(.ref a1)] 1)) t := fun t k => castTop (ef_5 m a1) k
  have KK := Keep.refl h0 []
  obtain ⟨T104, h104, X104, e104, E104, A104, D104, -, st104⟩ := newO X0 hx hZ hown (ww hw 31 rfl) (ww hw 32 rfl) (ww hw 33 rfl) e0 (g := (mkF m 0 #[.val (.ref a1)] [])) rfl (hb hby d5_0) (by decide) (by decide)
  obtain ⟨b104, g104⟩ : ∃ z, z = h0.size := ⟨_, rfl⟩
  rw [← g104] at A104 D104 st104
  have g_b104 : n0 ≤ b104 := Nat.le_trans Z0 (Nat.le_of_eq g104.symm)
  have sz_b104 : h0.size ≤ b104 := Nat.le_trans KK.1 (Nat.le_of_eq g104.symm)
  have ne_a1_b104 : a1 ≠ b104 := Nat.ne_of_lt (Nat.lt_of_lt_of_le E_a1.lt (Nat.le_of_eq g104.symm))
  have ne_aA_b104 : aA ≠ b104 := Nat.ne_of_lt (Nat.lt_of_lt_of_le E_aA.lt (Nat.le_of_eq g104.symm))
  replace E_a1 := E_a1.ext E104
  replace F_numbers_a1 := F_numbers_a1.ext E104
  replace F_size_a1 := F_size_a1.ext E104
  replace E_aA := E_aA.ext E104
  replace V_aA := V_aA.ext E104
  replace Z0 := Nat.le_trans Z0 E104.1
  replace KK := KK.ext E104
  have E_b104 := A104
  have F_numbers_b104 : Fld Z h104 b104 "com/example/hard_delay_bounds/harddelaybounds/analysis/FlowSet" "numbers" "[I" .null := D104 (Or.inr (ww hw 48 rfl)) (ty := (.array .int)) (by decide)
  have F_hash_b104 : Fld Z h104 b104 "com/example/hard_delay_bounds/harddelaybounds/analysis/FlowSet" "hash" "I" (.int (0 : Int32)) := D104 (Or.inr (ww hw 51 rfl)) (ty := .int) (by decide)
  obtain ⟨T105, X105, e105, st105⟩ := getF X104 hx hZ hown (host := "") (Or.inl (ww hw 17 rfl)) Via.refl e104 F_numbers_a1 (g := (mkF m 5 #[.val (.ref a1)] [(.ref a1), (.ref b104), (.ref b104)])) rfl rfl (hb hby d5_5)
  obtain ⟨T106, X106, e106, st106⟩ := getF X105 hx hZ hown (host := "") (Or.inl (ww hw 24 rfl)) Via.refl e105 F_size_a1 (g := (mkF m 9 #[.val (.ref a1)] [(.ref a1), (.ref aA), (.ref b104), (.ref b104)])) rfl rfl (hb hby d5_9)
  obtain ⟨_, _, ⟨T107, L107, k107, n107⟩, -, X107, ⟨Lc107, hQ107, l107, y107, z107⟩, st107⟩ := Jvm.LawKit.callS X106 hx (y := mn3) hown (mvT hZ (ww hw 34 rfl)) (mvT hZ (ww hw 35 rfl)) (mvT hZ (ww hw 36 rfl)) (mvT hZ (ww hw 37 rfl)) (by decide) (backOf (W := 2) (rm6_4_1_1 l Z a0 hw [] aA kA x0 h104 n0 Z0 E_aA V_aA) hZ (ww hw 37 rfl) (ww hw 36 rfl) (by decide) (by decide)) (g := (mkF m 12 #[.val (.ref a1)] [(.int (1 : Int32)), (.ref aA), (.ref b104), (.ref b104)])) rfl (by rw [hml]; rfl) (argsL := [(.ref aA), (.int (1 : Int32))]) (rest := [(.ref b104), (.ref b104)]) (lenOf pd_1 rfl) rfl (by show 2 * 0 + _ ≤ _; exact Nat.le_of_eq rfl) (hb hby d5_12) (fun _ _ => ⟨rfl, e106, (by decide : 1 + 1 ≤ _), (by decide : 2 + 1 ≤ _)⟩)
  dsimp only [Pt.U, Pt.locs, Pt.cells, Pt.slots] at X107 l107 y107 z107 st107 hQ107
  subst l107 y107 z107
  obtain ⟨h107, e107⟩ : ∃ z, T107.heap = z := ⟨_, rfl⟩
  rw [e107] at hQ107
  obtain ⟨b107, k107, rfl, N107q, K107, s107, Vn107, En107⟩ := hQ107
  have g_b107 : n0 ≤ b107 := Nat.le_trans Z0 s107
  have sz_b107 : h0.size ≤ b107 := Nat.le_trans KK.1 s107
  have ne_a1_b107 : a1 ≠ b107 := Nat.ne_of_lt (Nat.lt_of_lt_of_le E_a1.lt s107)
  have ne_aA_b107 : aA ≠ b107 := Nat.ne_of_lt (Nat.lt_of_lt_of_le E_aA.lt s107)
  have ne_b104_b107 : b104 ≠ b107 := Nat.ne_of_lt (Nat.lt_of_lt_of_le E_b104.lt s107)
  replace E_a1 := E_a1.keep K107
  replace F_numbers_a1 := F_numbers_a1.keep K107 nin0
  replace F_size_a1 := F_size_a1.keep K107 nin0
  replace E_aA := E_aA.keep K107
  replace V_aA := V_aA.keep K107 nin0
  replace E_b104 := E_b104.keep K107
  replace F_numbers_b104 := F_numbers_b104.keep K107 nin0
  replace F_hash_b104 := F_hash_b104.keep K107 nin0
  replace Z0 := Nat.le_trans Z0 K107.1
  replace KK := KK.trans K107 all0
  have V_b107 : Arv Z h107 b107 k107 .int (1 : Int32) [(.int x0)] (.int (0 : Int32)) := Vn107
  have E_b107 := En107
  have N107 := Fr.app N0 N107q
  obtain ⟨_, _, ⟨T108, L108, k108, n108⟩, -, X108, ⟨Lc108, hQ108, l108, y108, z108⟩, st108⟩ := X107.specialBackNest hx (y := mn4) rfl hown (own_mvMN hZ (ww hw 43 rfl)) (mvT hZ (ww hw 44 rfl)) (mvT hZ (ww hw 45 rfl)) (by decide) (backOf (W := 1) (rm7_1 l Z a0 hw [] b104 b107 k107 x0 h107 n0 Z0 E_b104 F_numbers_b104 F_hash_b104 V_b107 g_b104 ne_b104_b107) hZ (ww hw 45 rfl) (ww hw 33 rfl) (by decide) (by decide)) (g := (mkF m 15 #[.val (.ref a1)] [(.ref b107), (.ref b104), (.ref b104)])) rfl (by rw [hml]; rfl) (Steps.refl _) (a := b104) (argsL := [(.ref b107)]) (rest := [(.ref b104)]) (lenOf pd_2 rfl) rfl (by show 2 * 0 + _ ≤ _; exact Nat.le_of_eq rfl) (hb hby d5_15) (fun _ _ => ⟨rfl, e107, (by decide : 2 + 0 ≤ _), (by decide : 3 + 0 ≤ _)⟩)
  dsimp only [Pt.U, Pt.locs, Pt.cells, Pt.slots] at X108 l108 y108 z108 st108 hQ108
  subst l108 y108 z108
  obtain ⟨h108, e108⟩ : ∃ z, T108.heap = z := ⟨_, rfl⟩
  rw [e108] at hQ108
  obtain ⟨rfl, N108q, K108, Fn108⟩ := hQ108
  replace E_a1 := E_a1.keep K108
  replace F_numbers_a1 := F_numbers_a1.keep K108 (ninS ne_a1_b104 nin0)
  replace F_size_a1 := F_size_a1.keep K108 (ninS ne_a1_b104 nin0)
  replace E_aA := E_aA.keep K108
  replace V_aA := V_aA.keep K108 (ninS ne_aA_b104 nin0)
  replace E_b104 := E_b104.keep K108
  replace V_b107 := V_b107.keep K108 (ninS (Ne.symm ne_b104_b107) nin0)
  replace E_b107 := E_b107.keep K108
  replace Z0 := Nat.le_trans Z0 K108.1
  replace KK := KK.trans K108 (allS (Or.inr sz_b104) all0)
  have F_numbers_b104 := Fn108
  have N108 := Fr.app N107 N108q
  obtain ⟨fs, hr, hrun, hended, hW, hsame⟩ := X108.leave (v := some (.ref b104)) (fun h => by rw [Bd.returns] at h; cases h)
  refine ⟨_, _, pre0 _ ?_, hrun, hended, _, _, rfl, ?_, ⟨_, rfl⟩, hW, hsame.mono (by decide) (by decide)⟩
  · refine st104 _ ?_
    show Steps p.tables e below (T104.setTop (mkF m 3 #[.val (.ref a1)] [(.ref b104)])) _
    refine y_dup X104.here hx (hb hby d5_3) rfl ?_
    refine y_aloadN X104.here hx (hb hby d5_4) rfl rfl ?_
    refine st105 _ ?_
    show Steps p.tables e below (T105.setTop (mkF m 8 #[.val (.ref a1)] [(.ref aA), (.ref b104), (.ref b104)])) _
    refine y_aloadN X105.here hx (hb hby d5_8) rfl rfl ?_
    refine st106 _ ?_
    show Steps p.tables e below (T106.setTop (mkF m 12 #[.val (.ref a1)] [(.int (1 : Int32)), (.ref aA), (.ref b104), (.ref b104)])) _
    refine st107 _ ?_
    show Steps p.tables e below (T107.setTop (mkF m 15 #[.val (.ref a1)] [(.ref b107), (.ref b104), (.ref b104)])) _
    refine st108.trans ?_
    show Steps p.tables e below (T108.setTop (mkF m 18 #[.val (.ref a1)] [(.ref b104)])) _
    jvm_step X108.here [X108.here.top, hx, (hb hby d5_18), X108.method', Bd.returns, Value.isRef, FieldType.isReference]
    first | (intro acts; rw [hr _ acts rfl rfl rfl]) | rw [hr _ _ rfl rfl rfl]
    exact Steps.refl _
  · show QS Z (1 : Int32) [(.int x0)] h0 n0 _ T108.heap _
    rw [e108]
    exact ⟨b104, b107, _, rfl, N108, KK, sz_b104, sz_b107, E_b104, F_numbers_b104, V_b107⟩
set_option maxRecDepth 65536 in
set_option maxHeartbeats 40000000 in
theorem rm8_1 (l : Launch) (Z : State) (a0 : Array Value) (hw : ∀ d ∈ tables_1, d.before a0 Z = true) (ws : List Jvm.Cond) (a1 : Addr) (aB : Addr) (kB : ClassId) (x0 : Int32) (h0 : Heap) (n0 : Nat) (Z0 : n0 ≤ h0.size) (F_numbers_a1 : Fld Z h0 a1 "com/example/hard_delay_bounds/harddelaybounds/analysis/FlowSet" "numbers" "[I" (.ref aB)) (V_aB : Arv Z h0 aB kB .int (1 : Int32) [(.int x0)] (.int (0 : Int32))) :
    MetFree l mn6 (head1 (Jvm.Cond.code mn6 prog_18_method_2_code 1 (some .int) :: ws) ({ frames := 0, cells := 0, slots := 0, locals := 0 } : Room)) (fun a U => a = #[(.ref a1)] ∧ Z.Warmed39 U.vm ∧ U.heap = h0) (fun _ _ _ _ _ => True) (fun _ U o U' => ∃ v L, o = .returned v ∧ QP (some (.int (1 : Int32))) h0 n0 v U'.heap L ∧ FrameEnd U o U' L ({ frames := 0, cells := 0, slots := 0, locals := 0 } : Room).cells ({ frames := 0, cells := 0, slots := 0, locals := 0 } : Room).slots) := by
  refine MetFree.of_bodySF (plainFor_of_name pn_7) hisR ?_
  intro p e s m args below meth c s₁ Bd hml0 hP hK
  obtain ⟨rfl, hZ, hh⟩ := hP
  have hx := Bd.exec
  have hby := Bd.bytes
  have hml : c.maxLocals = 1 := hml0
  have hown : s.vm.findClass "com/example/hard_delay_bounds/harddelaybounds/analysis/FlowSet" = some m.cls := findClass_of_methodNamed Bd.named
  have hnm := (name_of_methodNamed Bd.named Bd.method).1
  have X0 : Stand p l e ({ frames := 0, cells := 0, slots := 0, locals := 0 } : Room) s m #[(.ref a1)] below meth c s₁ [] 0 0 := Stand.of_body Bd
  have e0 : s₁.heap = h0 := by rw [← hh, Bd.state]; rfl
  have N0 := Fr.nil n0
  have pre0 : ∀ t, Steps p.tables e below (s₁.setTop (mkF m 0 #[.val (.ref a1)] [])) t → Steps p.tables e below (s₁.setTop (entryFrame m #[(.ref a1)] 1)) t := fun t k => castTop (ef_8 m a1) k
  obtain ⟨T109, X109, e109, st109⟩ := getF X0 hx hZ hown (host := "") (Or.inl (ww hw 47 rfl)) Via.refl e0 F_numbers_a1 (g := (mkF m 1 #[.val (.ref a1)] [(.ref a1)])) rfl rfl (hb hby d8_1)
  obtain ⟨cl110, Ar110, q110, Sz110, Nn110, Hh110, Gg110⟩ := id V_aB
  obtain ⟨fs, hr, hrun, hended, hW, hsame⟩ := X109.leave (v := some (.int (1 : Int32))) (fun h => by rw [Bd.returns] at h; cases h)
  refine ⟨_, _, pre0 _ ?_, hrun, hended, _, _, rfl, ?_, ⟨_, rfl⟩, hW, hsame.mono (by decide) (by decide)⟩
  · refine y_aloadN X0.here hx (hb hby d8_0) rfl rfl ?_
    refine st109 _ ?_
    show Steps p.tables e below (T109.setTop (mkF m 4 #[.val (.ref a1)] [(.ref aB)])) _
    refine X109.arraylength hx (by rw [e109]; exact Ar110.1) (State.isArrayOf_alike hZ.alike Ar110.2.1) (g := (mkF m 4 #[.val (.ref a1)] [(.ref aB)])) rfl rfl (hb hby d8_4) _ ?_
    rw [len_of Sz110 Nn110]
    show Steps p.tables e below (T109.setTop (mkF m 5 #[.val (.ref a1)] [(.int (1 : Int32))])) _
    exact retI X109 hx Bd.returns (hb hby d8_5) hr
  · show QP _ h0 n0 _ T109.heap _
    rw [e109]
    exact ⟨rfl, N0, rfl⟩
theorem d9_0 : decode prog_18_method_3_code 0 = .ok (.aload_n 0, 1) := by decide +kernel
theorem d9_1 : decode prog_18_method_3_code 1 = .ok (.getfield 7, 3) := by decide +kernel
theorem d9_4 : decode prog_18_method_3_code 4 = .ok (.iload_n 1, 1) := by decide +kernel
theorem d9_5 : decode prog_18_method_3_code 5 = .ok (.iaload, 1) := by decide +kernel
theorem d9_6 : decode prog_18_method_3_code 6 = .ok (.ireturn, 1) := by decide +kernel
abbrev mn7 : MethodName := ⟨"com/example/hard_delay_bounds/harddelaybounds/analysis/FlowSet", "number", "(I)I"⟩
theorem ef_9 (m : MethodId) (x0 : Addr) (x1 : Int32) : entryFrame m #[(.ref x0), (.int x1)] 2 = mkF m 0 #[.val (.ref x0), .val (.int x1)] [] := by first | (simp [entryFrame, mkF, argsToLocals, Value.category]; done) | rfl
set_option maxRecDepth 65536 in
set_option maxHeartbeats 40000000 in
theorem rm9_1_0 (l : Launch) (Z : State) (a0 : Array Value) (hw : ∀ d ∈ tables_1, d.before a0 Z = true) (ws : List Jvm.Cond) (a1 : Addr) (aB : Addr) (kB : ClassId) (x0 : Int32) (h0 : Heap) (n0 : Nat) (Z0 : n0 ≤ h0.size) (F_numbers_a1 : Fld Z h0 a1 "com/example/hard_delay_bounds/harddelaybounds/analysis/FlowSet" "numbers" "[I" (.ref aB)) (V_aB : Arv Z h0 aB kB .int (1 : Int32) [(.int x0)] (.int (0 : Int32))) :
    MetFree l mn7 (head1 (Jvm.Cond.code mn7 prog_18_method_3_code 2 (some .int) :: ws) ({ frames := 0, cells := 0, slots := 0, locals := 0 } : Room)) (fun a U => a = #[(.ref a1), (.int (0 : Int32))] ∧ Z.Warmed39 U.vm ∧ U.heap = h0) (fun _ _ _ _ _ => True) (fun _ U o U' => ∃ v L, o = .returned v ∧ QP (some (.int x0)) h0 n0 v U'.heap L ∧ FrameEnd U o U' L ({ frames := 0, cells := 0, slots := 0, locals := 0 } : Room).cells ({ frames := 0, cells := 0, slots := 0, locals := 0 } : Room).slots) := by
  refine MetFree.of_bodySF (plainFor_of_name pn_7) hisR ?_
  intro p e s m args below meth c s₁ Bd hml0 hP hK
  obtain ⟨rfl, hZ, hh⟩ := hP
  have hx := Bd.exec
  have hby := Bd.bytes
  have hml : c.maxLocals = 2 := hml0
  have hown : s.vm.findClass "com/example/hard_delay_bounds/harddelaybounds/analysis/FlowSet" = some m.cls := findClass_of_methodNamed Bd.named
  have hnm := (name_of_methodNamed Bd.named Bd.method).1
  have X0 : Stand p l e ({ frames := 0, cells := 0, slots := 0, locals := 0 } : Room) s m #[(.ref a1), (.int (0 : Int32))] below meth c s₁ [] 0 0 := Stand.of_body Bd
  have e0 : s₁.heap = h0 := by rw [← hh, Bd.state]; rfl
  have N0 := Fr.nil n0
  have pre0 : ∀ t, Steps p.tables e below (s₁.setTop (mkF m 0 #[.val (.ref a1), .val (.int (0 : Int32))] [])) t → Steps p.tables e below (s₁.setTop (entryFrame m #[(.ref a1), (.int (0 : Int32))] 2)) t := fun t k => castTop (ef_9 m a1 (0 : Int32)) k
  obtain ⟨T111, X111, e111, st111⟩ := getF X0 hx hZ hown (host := "") (Or.inl (ww hw 47 rfl)) Via.refl e0 F_numbers_a1 (g := (mkF m 1 #[.val (.ref a1), .val (.int (0 : Int32))] [(.ref a1)])) rfl rfl (hb hby d9_1)
  obtain ⟨cl112, Ar112, q112, Sz112, Nn112, Hh112, Gg112⟩ := id V_aB
  have hin112 : ¬ ((0 : Int32) < 0 ∨ cl112.slots.size ≤ ((0 : Int32)).toNatClampNeg) := inb_of Sz112 ⟨by decide, by decide⟩
  have hat112 : cl112.slots[((0 : Int32)).toNatClampNeg]? = some (.int x0) := Hh112.at hin112 rfl
  obtain ⟨fs, hr, hrun, hended, hW, hsame⟩ := X111.leave (v := some (.int x0)) (fun h => by rw [Bd.returns] at h; cases h)
  refine ⟨_, _, pre0 _ ?_, hrun, hended, _, _, rfl, ?_, ⟨_, rfl⟩, hW, hsame.mono (by decide) (by decide)⟩
  · refine y_aloadN X0.here hx (hb hby d9_0) rfl rfl ?_
    refine st111 _ ?_
    show Steps p.tables e below (T111.setTop (mkF m 4 #[.val (.ref a1), .val (.int (0 : Int32))] [(.ref aB)])) _
    refine y_iloadN X111.here hx (hb hby d9_4) rfl ?_
    refine X111.iaload hx (j := (0 : Int32)) (v := (.int x0)) (by rw [e111]; exact Ar112.1) (State.isArrayOf_alike hZ.alike Ar112.2.1) Ar112.2.2 hin112 hat112 (g := (mkF m 5 #[.val (.ref a1), .val (.int (0 : Int32))] [(.int (0 : Int32)), (.ref aB)])) rfl rfl (hb hby d9_5) _ ?_
    show Steps p.tables e below (T111.setTop (mkF m 6 #[.val (.ref a1), .val (.int (0 : Int32))] [(.int x0)])) _
    exact retI X111 hx Bd.returns (hb hby d9_6) hr
  · show QP _ h0 n0 _ T111.heap _
    rw [e111]
    exact ⟨rfl, N0, rfl⟩
set_option maxRecDepth 65536 in
set_option maxHeartbeats 40000000 in
theorem rm6_4_2_2 (l : Launch) (Z : State) (a0 : Array Value) (hw : ∀ d ∈ tables_1, d.before a0 Z = true) (ws : List Jvm.Cond) (a1 : Addr) (k1 : ClassId) (x0 : Int32) (x1 : Int32) (h0 : Heap) (n0 : Nat) (Z0 : n0 ≤ h0.size) (E_a1 : Exa Z h0 a1 "[I") (V_a1 : Arv Z h0 a1 k1 .int (4 : Int32) [(.int x0), (.int x1), (.int (0 : Int32)), (.int (0 : Int32))] (.int (0 : Int32))) :
    MetFree l mn3 (head1 (Jvm.Cond.code mn3 jdk_65_method_123_code 3 (some (.array .int)) :: ws) ({ frames := 1, cells := 1, slots := 2, locals := 18 } : Room)) (fun a U => a = #[(.ref a1), (.int (2 : Int32))] ∧ Z.Warmed39 U.vm ∧ U.heap = h0) (fun _ _ _ _ _ => True) (fun _ U o U' => ∃ v L, o = .returned v ∧ QC Z (2 : Int32) [(.int x0), (.int x1)] h0 n0 v U'.heap L ∧ FrameEnd U o U' L ({ frames := 1, cells := 1, slots := 2, locals := 18 } : Room).cells ({ frames := 1, cells := 1, slots := 2, locals := 18 } : Room).slots) := by
  refine MetFree.of_bodySF (plainFor_of_name pn_6) hisR ?_
  intro p e s m args below meth c s₁ Bd hml0 hP hK
  obtain ⟨rfl, hZ, hh⟩ := hP
  have hx := Bd.exec
  have hby := Bd.bytes
  have hml : c.maxLocals = 3 := hml0
  have hown : s.vm.findClass "java/util/Arrays" = some m.cls := findClass_of_methodNamed Bd.named
  have hnm := (name_of_methodNamed Bd.named Bd.method).1
  have X0 : Stand p l e ({ frames := 1, cells := 1, slots := 2, locals := 18 } : Room) s m #[(.ref a1), (.int (2 : Int32))] below meth c s₁ [] 0 0 := Stand.of_body Bd
  have e0 : s₁.heap = h0 := by rw [← hh, Bd.state]; rfl
  have N0 := Fr.nil n0
  have pre0 : ∀ t, Steps p.tables e below (s₁.setTop (mkF m 0 #[.val (.ref a1), .val (.int (2 : Int32)), .unset] [])) t → Steps p.tables e below (s₁.setTop (entryFrame m #[(.ref a1), (.int (2 : Int32))] 3)) t := fun t k => castTop (ef_6 m a1 (2 : Int32)) k
  have KK := Keep.refl h0 []
  obtain ⟨cl113, Ar113, q113, Sz113, Nn113, Hh113, Gg113⟩ := id V_a1
  obtain ⟨T114, h114, k114, X114, e114, E114, A114, Ex114, st114⟩ := newPE X0 hx hZ (ww hw 16 rfl) e0 (g := (mkF m 15 #[.val (.ref a1), .val (.int (2 : Int32)), .unset] [(.int (2 : Int32))])) rfl (hb hby d6_15) rfl (by decide) (cap := 2) (by decide) (by decide) (by decide) (by decide) (ad := "[I") (by first | rfl | decide)
  obtain ⟨b114, g114⟩ : ∃ z, z = h0.size := ⟨_, rfl⟩
  rw [← g114] at A114 Ex114 st114
  have g_b114 : n0 ≤ b114 := Nat.le_trans Z0 (Nat.le_of_eq g114.symm)
  have sz_b114 : h0.size ≤ b114 := Nat.le_trans KK.1 (Nat.le_of_eq g114.symm)
  have ne_a1_b114 : a1 ≠ b114 := Nat.ne_of_lt (Nat.lt_of_lt_of_le E_a1.lt (Nat.le_of_eq g114.symm))
  replace E_a1 := E_a1.ext E114
  replace V_a1 := V_a1.ext E114
  replace Z0 := Nat.le_trans Z0 E114.1
  replace KK := KK.ext E114
  have V_b114 : Arv Z h114 b114 k114 .int (2 : Int32) [(.int (0 : Int32)), (.int (0 : Int32))] (.int (0 : Int32)) := (Arv.new A114 (by decide)).pad (pad_rep [] (.int (0 : Int32)) 2)
  have E_b114 : Exa Z h114 b114 "[I" := Ex114
  obtain ⟨cl115, Ar115, q115, Sz115, Nn115, Hh115, Gg115⟩ := id V_a1
  obtain ⟨_, _, ⟨T116, L116, k116, n116⟩, -, X116, ⟨Lc116, hQ116, l116, y116, z116⟩, st116⟩ := Jvm.LawKit.callS X114 hx (y := mn0) hown (mvT hZ (ww hw 38 rfl)) (mvT hZ (ww hw 3 rfl)) (mvT hZ (ww hw 4 rfl)) (mvT hZ (ww hw 5 rfl)) (by decide) (backOf (W := 4) (rm1 l Z a0 hw [] (4 : Int32) (2 : Int32) h114 n0 Z0) hZ (ww hw 5 rfl) (ww hw 4 rfl) (by decide) (by decide)) (g := (mkF m 25 #[.val (.ref a1), .val (.int (2 : Int32)), .val (.ref b114)] [(.int (2 : Int32)), (.int (4 : Int32)), (.int (0 : Int32)), (.ref b114), (.int (0 : Int32)), (.ref a1)])) rfl (by rw [hml]; rfl) (argsL := [(.int (4 : Int32)), (.int (2 : Int32))]) (rest := [(.int (0 : Int32)), (.ref b114), (.int (0 : Int32)), (.ref a1)]) (lenOf pd_0 rfl) rfl (by show 2 * 0 + _ ≤ _; exact Nat.le_of_eq rfl) (hb hby d6_25) (fun _ _ => ⟨rfl, e114, (by decide : 1 + 0 ≤ _), (by decide : 2 + 0 ≤ _)⟩)
  dsimp only [Pt.U, Pt.locs, Pt.cells, Pt.slots] at X116 l116 y116 z116 st116 hQ116
  subst l116 y116 z116
  obtain ⟨rfl, N116q, e116⟩ := hQ116
  rw [show f1 (4 : Int32) (2 : Int32) = (2 : Int32) from by decide] at st116
  have N116 := Fr.app N0 N116q
  obtain ⟨T117, h117, L117, X117, e117, N117, K117, Vn117, st117⟩ := cpA X116 hx hZ hown (ww hw 39 rfl) (ww hw 42 rfl) (ww hw 40 rfl) (ww hw 41 rfl) e116 (us := [(.int x0), (.int x1)]) V_a1 V_b114 (Or.inl ⟨rfl, rfl⟩) (by decide) (by decide) (by decide) (by decide) (by decide) rfl (by decide) N116 g_b114 (g := (mkF m 28 #[.val (.ref a1), .val (.int (2 : Int32)), .val (.ref b114)] [(.int (2 : Int32)), (.int (0 : Int32)), (.ref b114), (.int (0 : Int32)), (.ref a1)])) rfl (by rw [hml]; rfl) rfl (hb hby d6_28) (by decide) (W := 0) (by show 2 * 0 + _ ≤ _; exact Nat.le_of_eq rfl) (by decide)
  replace E_a1 := E_a1.keep K117
  replace V_a1 := V_a1.keep K117 (ninS ne_a1_b114 nin0)
  replace E_b114 := E_b114.keep K117
  replace Z0 := Nat.le_trans Z0 K117.1
  replace KK := KK.trans K117 (allS (Or.inr sz_b114) all0)
  have V_b114 : Arv Z h117 b114 k114 .int (2 : Int32) [(.int x0), (.int x1)] (.int (0 : Int32)) := Vn117
  obtain ⟨fs, hr, hrun, hended, hW, hsame⟩ := X117.leave (v := some (.ref b114)) (fun h => by rw [Bd.returns] at h; cases h)
  refine ⟨_, _, pre0 _ ?_, hrun, hended, _, _, rfl, ?_, ⟨_, rfl⟩, hW, hsame.mono (by decide) (by decide)⟩
  · refine y_iloadN X0.here hx (hb hby d6_0) rfl ?_
    refine y_aloadN X0.here hx (hb hby d6_1) rfl rfl ?_
    refine X0.arraylength hx (by rw [e0]; exact Ar113.1) (State.isArrayOf_alike hZ.alike Ar113.2.1) (g := (mkF m 2 #[.val (.ref a1), .val (.int (2 : Int32)), .unset] [(.ref a1), (.int (2 : Int32))])) rfl rfl (hb hby d6_2) _ ?_
    rw [len_of Sz113 Nn113]
    show Steps p.tables e below (s₁.setTop (mkF m 3 #[.val (.ref a1), .val (.int (2 : Int32)), .unset] [(.int (4 : Int32)), (.int (2 : Int32))])) _
    refine y_icmpYes X0.here hx (pc' := 14) (hb hby d6_3) (feq (by decide)).2 (by decide) (by decide) ?_
    refine y_iloadN X0.here hx (hb hby d6_14) rfl ?_
    refine st114 _ ?_
    show Steps p.tables e below (T114.setTop (mkF m 17 #[.val (.ref a1), .val (.int (2 : Int32)), .unset] [(.ref b114)])) _
    refine y_astoreN X114.here hx (hb hby d6_17) rfl (l' := #[.val (.ref a1), .val (.int (2 : Int32)), .val (.ref b114)]) rfl ?_
    refine y_aloadN X114.here hx (hb hby d6_18) rfl rfl ?_
    refine y_iconst X114.here hx (v := (0 : Int32)) (hb hby d6_19) rfl ?_
    refine y_aloadN X114.here hx (hb hby d6_20) rfl rfl ?_
    refine y_iconst X114.here hx (v := (0 : Int32)) (hb hby d6_21) rfl ?_
    refine y_aloadN X114.here hx (hb hby d6_22) rfl rfl ?_
    refine X114.arraylength hx (by rw [e114]; exact Ar115.1) (State.isArrayOf_alike hZ.alike Ar115.2.1) (g := (mkF m 23 #[.val (.ref a1), .val (.int (2 : Int32)), .val (.ref b114)] [(.ref a1), (.int (0 : Int32)), (.ref b114), (.int (0 : Int32)), (.ref a1)])) rfl rfl (hb hby d6_23) _ ?_
    rw [len_of Sz115 Nn115]
    show Steps p.tables e below (T114.setTop (mkF m 24 #[.val (.ref a1), .val (.int (2 : Int32)), .val (.ref b114)] [(.int (4 : Int32)), (.int (0 : Int32)), (.ref b114), (.int (0 : Int32)), (.ref a1)])) _
    refine y_iloadN X114.here hx (hb hby d6_24) rfl ?_
    refine st116 _ ?_
    show Steps p.tables e below (T116.setTop (mkF m 28 #[.val (.ref a1), .val (.int (2 : Int32)), .val (.ref b114)] [(.int (2 : Int32)), (.int (0 : Int32)), (.ref b114), (.int (0 : Int32)), (.ref a1)])) _
    refine st117 _ ?_
    show Steps p.tables e below (T117.setTop (mkF m 31 #[.val (.ref a1), .val (.int (2 : Int32)), .val (.ref b114)] [])) _
    refine y_aloadN X117.here hx (hb hby d6_31) rfl rfl ?_
    show Steps p.tables e below (T117.setTop (mkF m 32 #[.val (.ref a1), .val (.int (2 : Int32)), .val (.ref b114)] [(.ref b114)])) _
    jvm_step X117.here [X117.here.top, hx, (hb hby d6_32), X117.method', Bd.returns, Value.isRef, FieldType.isReference]
    first | (intro acts; rw [hr _ acts rfl rfl rfl]) | rw [hr _ _ rfl rfl rfl]
    exact Steps.refl _
  · show QC Z (2 : Int32) [(.int x0), (.int x1)] h0 n0 _ T117.heap _
    rw [e117]
    exact ⟨b114, _, rfl, N117, KK, sz_b114, V_b114, E_b114⟩
abbrev lo7_2_0 (a1 : Addr) (a2 : Addr) : Array Slot := #[.val (.ref a1), .val (.ref a2), .val (.int (2 : Int32)), .val (.ref a2), .val (.int (2 : Int32)), .unset, .unset]
abbrev lo7_2_1 (a1 : Addr) (a2 : Addr) : Array Slot := #[.val (.ref a1), .val (.ref a2), .val (.int (2 : Int32)), .val (.ref a2), .val (.int (2 : Int32)), .val (.int (0 : Int32)), .unset]
abbrev lo7_2_2 (a1 : Addr) (a2 : Addr) (x0 : Int32) : Array Slot := #[.val (.ref a1), .val (.ref a2), .val (.int (2 : Int32)), .val (.ref a2), .val (.int (2 : Int32)), .val (.int (0 : Int32)), .val (.int x0)]
abbrev lo7_2_3 (a1 : Addr) (a2 : Addr) (x0 : Int32) : Array Slot := #[.val (.ref a1), .val (.ref a2), .val (.int (((2 : Int32) ^^^ x0) * (-1640531535 : Int32))), .val (.ref a2), .val (.int (2 : Int32)), .val (.int (0 : Int32)), .val (.int x0)]
abbrev lo7_2_4 (a1 : Addr) (a2 : Addr) (x0 : Int32) : Array Slot := #[.val (.ref a1), .val (.ref a2), .val (.int ((((2 : Int32) ^^^ x0) * (-1640531535 : Int32)) ^^^ (((((2 : Int32) ^^^ x0) * (-1640531535 : Int32)).toUInt32 >>> ((15 : Int32) &&& 31).toUInt32).toInt32))), .val (.ref a2), .val (.int (2 : Int32)), .val (.int (0 : Int32)), .val (.int x0)]
abbrev lo7_2_5 (a1 : Addr) (a2 : Addr) (x0 : Int32) : Array Slot := #[.val (.ref a1), .val (.ref a2), .val (.int ((((2 : Int32) ^^^ x0) * (-1640531535 : Int32)) ^^^ (((((2 : Int32) ^^^ x0) * (-1640531535 : Int32)).toUInt32 >>> ((15 : Int32) &&& 31).toUInt32).toInt32))), .val (.ref a2), .val (.int (2 : Int32)), .val (.int (1 : Int32)), .val (.int x0)]
abbrev lo7_2_6 (a1 : Addr) (a2 : Addr) (z125 : Int32) (x0 : Int32) : Array Slot := #[.val (.ref a1), .val (.ref a2), .val (.int z125), .val (.ref a2), .val (.int (2 : Int32)), .val (.int (1 : Int32)), .val (.int x0)]
abbrev lo7_2_7 (a1 : Addr) (a2 : Addr) (z125 : Int32) (x1 : Int32) : Array Slot := #[.val (.ref a1), .val (.ref a2), .val (.int z125), .val (.ref a2), .val (.int (2 : Int32)), .val (.int (1 : Int32)), .val (.int x1)]
abbrev lo7_2_8 (a1 : Addr) (a2 : Addr) (z125 : Int32) (x1 : Int32) : Array Slot := #[.val (.ref a1), .val (.ref a2), .val (.int ((z125 ^^^ x1) * (-1640531535 : Int32))), .val (.ref a2), .val (.int (2 : Int32)), .val (.int (1 : Int32)), .val (.int x1)]
abbrev lo7_2_9 (a1 : Addr) (a2 : Addr) (z125 : Int32) (x1 : Int32) : Array Slot := #[.val (.ref a1), .val (.ref a2), .val (.int (((z125 ^^^ x1) * (-1640531535 : Int32)) ^^^ ((((z125 ^^^ x1) * (-1640531535 : Int32)).toUInt32 >>> ((15 : Int32) &&& 31).toUInt32).toInt32))), .val (.ref a2), .val (.int (2 : Int32)), .val (.int (1 : Int32)), .val (.int x1)]
abbrev lo7_2_10 (a1 : Addr) (a2 : Addr) (z125 : Int32) (x1 : Int32) : Array Slot := #[.val (.ref a1), .val (.ref a2), .val (.int (((z125 ^^^ x1) * (-1640531535 : Int32)) ^^^ ((((z125 ^^^ x1) * (-1640531535 : Int32)).toUInt32 >>> ((15 : Int32) &&& 31).toUInt32).toInt32))), .val (.ref a2), .val (.int (2 : Int32)), .val (.int (2 : Int32)), .val (.int x1)]
abbrev lo7_2_11 (a1 : Addr) (a2 : Addr) (z128 : Int32) (x1 : Int32) : Array Slot := #[.val (.ref a1), .val (.ref a2), .val (.int z128), .val (.ref a2), .val (.int (2 : Int32)), .val (.int (2 : Int32)), .val (.int x1)]
set_option maxRecDepth 65536 in
set_option maxHeartbeats 40000000 in
theorem rm7_2 (l : Launch) (Z : State) (a0 : Array Value) (hw : ∀ d ∈ tables_1, d.before a0 Z = true) (ws : List Jvm.Cond) (a1 : Addr) (a2 : Addr) (k2 : ClassId) (x0 : Int32) (x1 : Int32) (h0 : Heap) (n0 : Nat) (Z0 : n0 ≤ h0.size) (E_a1 : Exa Z h0 a1 "com/example/hard_delay_bounds/harddelaybounds/analysis/FlowSet") (F_numbers_a1 : Fld Z h0 a1 "com/example/hard_delay_bounds/harddelaybounds/analysis/FlowSet" "numbers" "[I" .null) (F_hash_a1 : Fld Z h0 a1 "com/example/hard_delay_bounds/harddelaybounds/analysis/FlowSet" "hash" "I" (.int (0 : Int32))) (V_a2 : Arv Z h0 a2 k2 .int (2 : Int32) [(.int x0), (.int x1)] (.int (0 : Int32))) (g_a1 : n0 ≤ a1) (ne_a1_a2 : a1 ≠ a2) :
    MetFree l mn4 (head1 (Jvm.Cond.code mn4 prog_18_method_1_code 7 none :: ws) ({ frames := 1, cells := 0, slots := 0, locals := 12 } : Room)) (fun a U => a = #[(.ref a1), (.ref a2)] ∧ Z.Warmed39 U.vm ∧ U.heap = h0) (fun _ _ _ _ _ => True) (fun _ U o U' => ∃ v L, o = .returned v ∧ QI Z a1 a2 h0 n0 v U'.heap L ∧ FrameEnd U o U' L ({ frames := 1, cells := 0, slots := 0, locals := 12 } : Room).cells ({ frames := 1, cells := 0, slots := 0, locals := 12 } : Room).slots) := by
  refine MetFree.of_bodySF (plainFor_of_name pn_7) hisR ?_
  intro p e s m args below meth c s₁ Bd hml0 hP hK
  obtain ⟨rfl, hZ, hh⟩ := hP
  have hx := Bd.exec
  have hby := Bd.bytes
  have hml : c.maxLocals = 7 := hml0
  have hown : s.vm.findClass "com/example/hard_delay_bounds/harddelaybounds/analysis/FlowSet" = some m.cls := findClass_of_methodNamed Bd.named
  have hnm := (name_of_methodNamed Bd.named Bd.method).1
  have X0 : Stand p l e ({ frames := 1, cells := 0, slots := 0, locals := 12 } : Room) s m #[(.ref a1), (.ref a2)] below meth c s₁ [] 0 0 := Stand.of_body Bd
  have e0 : s₁.heap = h0 := by rw [← hh, Bd.state]; rfl
  have N0 := Fr.nil n0
  have pre0 : ∀ t, Steps p.tables e below (s₁.setTop (mkF m 0 #[.val (.ref a1), .val (.ref a2), .unset, .unset, .unset, .unset, .unset] [])) t → Steps p.tables e below (s₁.setTop (entryFrame m #[(.ref a1), (.ref a2)] 7)) t := fun t k => castTop (ef_7 m a1 a2) k
  have KK := Keep.refl h0 [a1]
  obtain ⟨T118, X118, e118, st118⟩ := initO X0 hx hZ hown (ww hw 46 rfl) (ww hw 14 rfl) (ww hw 15 rfl) e0 (g := (mkF m 1 #[.val (.ref a1), .val (.ref a2), .unset, .unset, .unset, .unset, .unset] [(.ref a1)])) rfl (by rw [hml]; rfl) rfl (hb hby d7_1) (by decide) (W := 0) (by show 2 * 0 + _ ≤ _; exact Nat.le_of_eq rfl) (by decide)
  obtain ⟨T119, h119, X119, e119, W119, st119⟩ := putF X118 hx hZ hown (host := "") (Or.inl (ww hw 47 rfl)) Via.refl e118 F_numbers_a1 E_a1 (Or.inr ⟨(ww hw 48 rfl), rfl, hnm⟩) (ww hw 32 rfl) (ty := (.array .int)) (by decide) rfl rfl (g := (mkF m 6 #[.val (.ref a1), .val (.ref a2), .unset, .unset, .unset, .unset, .unset] [(.ref a2), (.ref a1)])) rfl rfl (hb hby d7_6)
  replace E_a1 := E_a1.wr W119
  replace F_numbers_a1 := F_numbers_a1.same W119
  replace F_hash_a1 := F_hash_a1.other W119 (Or.inr (slot_ne (Or.inr (ww hw 51 rfl)) (Or.inr (ww hw 48 rfl)) (by decide) (t := .int) (t' := (.array .int)) (by decide) (by decide)))
  replace V_a2 := V_a2.other W119 (Ne.symm ne_a1_a2)
  replace Z0 := Nat.le_trans Z0 (Keep.of_wr W119).1
  replace KK := KK.wr W119 (Or.inl (List.mem_of_getElem? (i := 0) rfl))
  have N119 := Fr.snoc X119 N0 g_a1
  obtain ⟨cl120, Ar120, q120, Sz120, Nn120, Hh120, Gg120⟩ := id V_a2
  obtain ⟨cl121, Ar121, q121, Sz121, Nn121, Hh121, Gg121⟩ := id V_a2
  have pre122 : ∀ t, Steps p.tables e below (T119.setTop (mkF m 21 #[.val (.ref a1), .val (.ref a2), .val (.int (2 : Int32)), .val (.ref a2), .val (.int (2 : Int32)), .val (.int (0 : Int32)), .unset] [])) t → Steps p.tables e below (s₁.setTop (entryFrame m #[(.ref a1), (.ref a2)] 7)) t := fun t k => by
    refine pre0 _ ?_
    refine y_aloadN X0.here hx (hb hby d7_0) rfl rfl ?_
    refine st118 _ ?_
    show Steps p.tables e below (T118.setTop (mkF m 4 #[.val (.ref a1), .val (.ref a2), .unset, .unset, .unset, .unset, .unset] [])) _
    refine y_aloadN X118.here hx (hb hby d7_4) rfl rfl ?_
    refine y_aloadN X118.here hx (hb hby d7_5) rfl rfl ?_
    refine st119 _ ?_
    show Steps p.tables e below (T119.setTop (mkF m 9 #[.val (.ref a1), .val (.ref a2), .unset, .unset, .unset, .unset, .unset] [])) _
    refine y_aloadN X119.here hx (hb hby d7_9) rfl rfl ?_
    refine X119.arraylength hx (by rw [e119]; exact Ar120.1) (State.isArrayOf_alike hZ.alike Ar120.2.1) (g := (mkF m 10 #[.val (.ref a1), .val (.ref a2), .unset, .unset, .unset, .unset, .unset] [(.ref a2)])) rfl rfl (hb hby d7_10) _ ?_
    rw [len_of Sz120 Nn120]
    show Steps p.tables e below (T119.setTop (mkF m 11 #[.val (.ref a1), .val (.ref a2), .unset, .unset, .unset, .unset, .unset] [(.int (2 : Int32))])) _
    refine y_istoreN X119.here hx (hb hby d7_11) (l' := #[.val (.ref a1), .val (.ref a2), .val (.int (2 : Int32)), .unset, .unset, .unset, .unset]) rfl ?_
    refine y_aloadN X119.here hx (hb hby d7_12) rfl rfl ?_
    refine y_astoreN X119.here hx (hb hby d7_13) rfl (l' := #[.val (.ref a1), .val (.ref a2), .val (.int (2 : Int32)), .val (.ref a2), .unset, .unset, .unset]) rfl ?_
    refine y_aloadN X119.here hx (hb hby d7_14) rfl rfl ?_
    refine X119.arraylength hx (by rw [e119]; exact Ar121.1) (State.isArrayOf_alike hZ.alike Ar121.2.1) (g := (mkF m 15 #[.val (.ref a1), .val (.ref a2), .val (.int (2 : Int32)), .val (.ref a2), .unset, .unset, .unset] [(.ref a2)])) rfl rfl (hb hby d7_15) _ ?_
    rw [len_of Sz121 Nn121]
    show Steps p.tables e below (T119.setTop (mkF m 16 #[.val (.ref a1), .val (.ref a2), .val (.int (2 : Int32)), .val (.ref a2), .unset, .unset, .unset] [(.int (2 : Int32))])) _
    refine y_istore X119.here hx (hb hby d7_16) (l' := (lo7_2_0 a1 a2)) rfl ?_
    refine y_iconst X119.here hx (v := (0 : Int32)) (hb hby d7_18) rfl ?_
    refine y_istore X119.here hx (hb hby d7_19) (l' := (lo7_2_1 a1 a2)) rfl ?_
    exact k
  obtain ⟨cl123, Ar123, q123, Sz123, Nn123, Hh123, Gg123⟩ := id V_a2
  have hin123 : ¬ ((0 : Int32) < 0 ∨ cl123.slots.size ≤ ((0 : Int32)).toNatClampNeg) := inb_of Sz123 ⟨by decide, by decide⟩
  have hat123 : cl123.slots[((0 : Int32)).toNatClampNeg]? = some (.int x0) := Hh123.at hin123 rfl
  have pre124 : ∀ t, Steps p.tables e below (T119.setTop (mkF m 21 #[.val (.ref a1), .val (.ref a2), .val (.int ((((2 : Int32) ^^^ x0) * (-1640531535 : Int32)) ^^^ (((((2 : Int32) ^^^ x0) * (-1640531535 : Int32)).toUInt32 >>> ((15 : Int32) &&& 31).toUInt32).toInt32))), .val (.ref a2), .val (.int (2 : Int32)), .val (.int (1 : Int32)), .val (.int x0)] [])) t → Steps p.tables e below (s₁.setTop (entryFrame m #[(.ref a1), (.ref a2)] 7)) t := fun t k => by
    refine pre122 _ ?_
    refine y_iload X119.here hx (hb hby d7_21) rfl ?_
    refine y_iload X119.here hx (hb hby d7_23) rfl ?_
    refine y_icmpNo X119.here hx (hb hby d7_25) (tlt (by decide)).2.1 ?_
    refine y_aloadN X119.here hx (hb hby d7_28) rfl rfl ?_
    refine y_iload X119.here hx (hb hby d7_29) rfl ?_
    refine X119.iaload hx (j := (0 : Int32)) (v := (.int x0)) (by rw [e119]; exact Ar123.1) (State.isArrayOf_alike hZ.alike Ar123.2.1) Ar123.2.2 hin123 hat123 (g := (mkF m 31 (lo7_2_1 a1 a2) [(.int (0 : Int32)), (.ref a2)])) rfl rfl (hb hby d7_31) _ ?_
    show Steps p.tables e below (T119.setTop (mkF m 32 (lo7_2_1 a1 a2) [(.int x0)])) _
    refine y_istore X119.here hx (hb hby d7_32) (l' := (lo7_2_2 a1 a2 x0)) rfl ?_
    refine y_iloadN X119.here hx (hb hby d7_34) rfl ?_
    refine y_iload X119.here hx (hb hby d7_35) rfl ?_
    refine y_ixor X119.here hx (hb hby d7_37) ?_
    refine X119.ldcInt hx hown (mvT hZ (ww hw 49 rfl)) (g := (mkF m 38 (lo7_2_2 a1 a2 x0) [(.int ((2 : Int32) ^^^ x0))])) rfl (hb hby d7_38) _ ?_
    show Steps p.tables e below (T119.setTop (mkF m 40 (lo7_2_2 a1 a2 x0) [(.int (-1640531535 : Int32)), (.int ((2 : Int32) ^^^ x0))])) _
    refine y_imul X119.here hx (hb hby d7_40) ?_
    refine y_istoreN X119.here hx (hb hby d7_41) (l' := (lo7_2_3 a1 a2 x0)) rfl ?_
    refine y_iloadN X119.here hx (hb hby d7_42) rfl ?_
    refine y_iloadN X119.here hx (hb hby d7_43) rfl ?_
    refine y_bipush X119.here hx (v := (15 : Int32)) (hb hby d7_44) rfl ?_
    refine y_iushr X119.here hx (hb hby d7_46) ?_
    refine y_ixor X119.here hx (hb hby d7_47) ?_
    refine y_istoreN X119.here hx (hb hby d7_48) (l' := (lo7_2_4 a1 a2 x0)) rfl ?_
    refine y_iinc X119.here hx (hb hby d7_49) rfl (l' := (lo7_2_5 a1 a2 x0)) rfl ?_
    refine y_goto X119.here hx (pc' := 21) (hb hby d7_52) (by decide) (by decide) ?_
    exact k
  obtain ⟨z125, hz125⟩ : ∃ z, z = ((((2 : Int32) ^^^ x0) * (-1640531535 : Int32)) ^^^ (((((2 : Int32) ^^^ x0) * (-1640531535 : Int32)).toUInt32 >>> ((15 : Int32) &&& 31).toUInt32).toInt32)) := ⟨_, rfl⟩
  rw [← hz125] at pre124
  obtain ⟨cl126, Ar126, q126, Sz126, Nn126, Hh126, Gg126⟩ := id V_a2
  have hin126 : ¬ ((1 : Int32) < 0 ∨ cl126.slots.size ≤ ((1 : Int32)).toNatClampNeg) := inb_of Sz126 ⟨by decide, by decide⟩
  have hat126 : cl126.slots[((1 : Int32)).toNatClampNeg]? = some (.int x1) := Hh126.at hin126 rfl
  have pre127 : ∀ t, Steps p.tables e below (T119.setTop (mkF m 21 #[.val (.ref a1), .val (.ref a2), .val (.int (((z125 ^^^ x1) * (-1640531535 : Int32)) ^^^ ((((z125 ^^^ x1) * (-1640531535 : Int32)).toUInt32 >>> ((15 : Int32) &&& 31).toUInt32).toInt32))), .val (.ref a2), .val (.int (2 : Int32)), .val (.int (2 : Int32)), .val (.int x1)] [])) t → Steps p.tables e below (s₁.setTop (entryFrame m #[(.ref a1), (.ref a2)] 7)) t := fun t k => by
    refine pre124 _ ?_
    refine y_iload X119.here hx (hb hby d7_21) rfl ?_
    refine y_iload X119.here hx (hb hby d7_23) rfl ?_
    refine y_icmpNo X119.here hx (hb hby d7_25) (tlt (by decide)).2.1 ?_
    refine y_aloadN X119.here hx (hb hby d7_28) rfl rfl ?_
    refine y_iload X119.here hx (hb hby d7_29) rfl ?_
    refine X119.iaload hx (j := (1 : Int32)) (v := (.int x1)) (by rw [e119]; exact Ar126.1) (State.isArrayOf_alike hZ.alike Ar126.2.1) Ar126.2.2 hin126 hat126 (g := (mkF m 31 (lo7_2_6 a1 a2 z125 x0) [(.int (1 : Int32)), (.ref a2)])) rfl rfl (hb hby d7_31) _ ?_
    show Steps p.tables e below (T119.setTop (mkF m 32 (lo7_2_6 a1 a2 z125 x0) [(.int x1)])) _
    refine y_istore X119.here hx (hb hby d7_32) (l' := (lo7_2_7 a1 a2 z125 x1)) rfl ?_
    refine y_iloadN X119.here hx (hb hby d7_34) rfl ?_
    refine y_iload X119.here hx (hb hby d7_35) rfl ?_
    refine y_ixor X119.here hx (hb hby d7_37) ?_
    refine X119.ldcInt hx hown (mvT hZ (ww hw 49 rfl)) (g := (mkF m 38 (lo7_2_7 a1 a2 z125 x1) [(.int (z125 ^^^ x1))])) rfl (hb hby d7_38) _ ?_
    show Steps p.tables e below (T119.setTop (mkF m 40 (lo7_2_7 a1 a2 z125 x1) [(.int (-1640531535 : Int32)), (.int (z125 ^^^ x1))])) _
    refine y_imul X119.here hx (hb hby d7_40) ?_
    refine y_istoreN X119.here hx (hb hby d7_41) (l' := (lo7_2_8 a1 a2 z125 x1)) rfl ?_
    refine y_iloadN X119.here hx (hb hby d7_42) rfl ?_
    refine y_iloadN X119.here hx (hb hby d7_43) rfl ?_
    refine y_bipush X119.here hx (v := (15 : Int32)) (hb hby d7_44) rfl ?_
    refine y_iushr X119.here hx (hb hby d7_46) ?_
    refine y_ixor X119.here hx (hb hby d7_47) ?_
    refine y_istoreN X119.here hx (hb hby d7_48) (l' := (lo7_2_9 a1 a2 z125 x1)) rfl ?_
    refine y_iinc X119.here hx (hb hby d7_49) rfl (l' := (lo7_2_10 a1 a2 z125 x1)) rfl ?_
    refine y_goto X119.here hx (pc' := 21) (hb hby d7_52) (by decide) (by decide) ?_
    exact k
  obtain ⟨z128, hz128⟩ : ∃ z, z = (((z125 ^^^ x1) * (-1640531535 : Int32)) ^^^ ((((z125 ^^^ x1) * (-1640531535 : Int32)).toUInt32 >>> ((15 : Int32) &&& 31).toUInt32).toInt32)) := ⟨_, rfl⟩
  rw [← hz128] at pre127
  obtain ⟨T129, h129, X129, e129, W129, st129⟩ := putF X119 hx hZ hown (host := "") (Or.inl (ww hw 50 rfl)) Via.refl e119 F_hash_a1 E_a1 (Or.inr ⟨(ww hw 51 rfl), rfl, hnm⟩) (ww hw 32 rfl) (ty := .int) (by decide) rfl rfl (g := (mkF m 57 (lo7_2_11 a1 a2 z128 x1) [(.int z128), (.ref a1)])) rfl rfl (hb hby d7_57)
  replace E_a1 := E_a1.wr W129
  replace F_numbers_a1 := F_numbers_a1.other W129 (Or.inr (slot_ne (Or.inr (ww hw 48 rfl)) (Or.inr (ww hw 51 rfl)) (by decide) (t := (.array .int)) (t' := .int) (by decide) (by decide)))
  replace F_hash_a1 := F_hash_a1.same W129
  replace V_a2 := V_a2.other W129 (Ne.symm ne_a1_a2)
  replace Z0 := Nat.le_trans Z0 (Keep.of_wr W129).1
  replace KK := KK.wr W129 (Or.inl (List.mem_of_getElem? (i := 0) rfl))
  have N129 := Fr.snoc X129 N119 g_a1
  obtain ⟨fs, hr, hrun, hended, hW, hsame⟩ := X129.leave (v := none) (fun _ => rfl)
  refine ⟨_, _, pre127 _ ?_, hrun, hended, _, _, rfl, ?_, ⟨_, rfl⟩, hW, hsame.mono (by decide) (by decide)⟩
  · refine y_iload X119.here hx (hb hby d7_21) rfl ?_
    refine y_iload X119.here hx (hb hby d7_23) rfl ?_
    refine y_icmpYes X119.here hx (pc' := 55) (hb hby d7_25) (flt (by decide)).2.1 (by decide) (by decide) ?_
    refine y_aloadN X119.here hx (hb hby d7_55) rfl rfl ?_
    refine y_iloadN X119.here hx (hb hby d7_56) rfl ?_
    refine st129 _ ?_
    show Steps p.tables e below (T129.setTop (mkF m 60 (lo7_2_11 a1 a2 z128 x1) [])) _
    exact X129.returnOut hx Bd.returns (hb hby d7_60) hr
  · show QI Z a1 a2 h0 n0 _ T129.heap _
    rw [e129]
    exact ⟨rfl, N129, KK, F_numbers_a1⟩
set_option maxRecDepth 65536 in
set_option maxHeartbeats 40000000 in
theorem rm5_2 (l : Launch) (Z : State) (a0 : Array Value) (hw : ∀ d ∈ tables_1, d.before a0 Z = true) (ws : List Jvm.Cond) (a1 : Addr) (aA : Addr) (kA : ClassId) (x0 : Int32) (x1 : Int32) (h0 : Heap) (n0 : Nat) (Z0 : n0 ≤ h0.size) (E_a1 : Exa Z h0 a1 "com/example/hard_delay_bounds/harddelaybounds/analysis/FlowSet$Builder") (F_numbers_a1 : Fld Z h0 a1 "com/example/hard_delay_bounds/harddelaybounds/analysis/FlowSet$Builder" "numbers" "[I" (.ref aA)) (F_size_a1 : Fld Z h0 a1 "com/example/hard_delay_bounds/harddelaybounds/analysis/FlowSet$Builder" "size" "I" (.int (2 : Int32))) (E_aA : Exa Z h0 aA "[I") (V_aA : Arv Z h0 aA kA .int (4 : Int32) [(.int x0), (.int x1), (.int (0 : Int32)), (.int (0 : Int32))] (.int (0 : Int32))) (ne_a1_aA : a1 ≠ aA) :
    MetFree l mn5 (head1 (Jvm.Cond.code mn5 prog_19_method_3_code 1 (some (.object "com/example/hard_delay_bounds/harddelaybounds/analysis/FlowSet")) :: ws) ({ frames := 2, cells := 2, slots := 4, locals := 34 } : Room)) (fun a U => a = #[(.ref a1)] ∧ Z.Warmed39 U.vm ∧ U.heap = h0) (fun _ _ _ _ _ => True) (fun _ U o U' => ∃ v L, o = .returned v ∧ QS Z (2 : Int32) [(.int x0), (.int x1)] h0 n0 v U'.heap L ∧ FrameEnd U o U' L ({ frames := 2, cells := 2, slots := 4, locals := 34 } : Room).cells ({ frames := 2, cells := 2, slots := 4, locals := 34 } : Room).slots) := by
  refine MetFree.of_bodySF (plainFor_of_name pn_2) hisR ?_
  intro p e s m args below meth c s₁ Bd hml0 hP hK
  obtain ⟨rfl, hZ, hh⟩ := hP
  have hx := Bd.exec
  have hby := Bd.bytes
  have hml : c.maxLocals = 1 := hml0
  have hown : s.vm.findClass "com/example/hard_delay_bounds/harddelaybounds/analysis/FlowSet$Builder" = some m.cls := findClass_of_methodNamed Bd.named
  have hnm := (name_of_methodNamed Bd.named Bd.method).1
  have X0 : Stand p l e ({ frames := 2, cells := 2, slots := 4, locals := 34 } : Room) s m #[(.ref a1)] below meth c s₁ [] 0 0 := Stand.of_body Bd
  have e0 : s₁.heap = h0 := by rw [← hh, Bd.state]; rfl
  have N0 := Fr.nil n0
  have pre0 : ∀ t, Steps p.tables e below (s₁.setTop (mkF m 0 #[.val (.ref a1)] [])) t → Steps p.tables e below (s₁.setTop (entryFrame m #[(.ref a1)] 1)) t := fun t k => castTop (ef_5 m a1) k
  have KK := Keep.refl h0 []
  obtain ⟨T130, h130, X130, e130, E130, A130, D130, -, st130⟩ := newO X0 hx hZ hown (ww hw 31 rfl) (ww hw 32 rfl) (ww hw 33 rfl) e0 (g := (mkF m 0 #[.val (.ref a1)] [])) rfl (hb hby d5_0) (by decide) (by decide)
  obtain ⟨b130, g130⟩ : ∃ z, z = h0.size := ⟨_, rfl⟩
  rw [← g130] at A130 D130 st130
  have g_b130 : n0 ≤ b130 := Nat.le_trans Z0 (Nat.le_of_eq g130.symm)
  have sz_b130 : h0.size ≤ b130 := Nat.le_trans KK.1 (Nat.le_of_eq g130.symm)
  have ne_a1_b130 : a1 ≠ b130 := Nat.ne_of_lt (Nat.lt_of_lt_of_le E_a1.lt (Nat.le_of_eq g130.symm))
  have ne_aA_b130 : aA ≠ b130 := Nat.ne_of_lt (Nat.lt_of_lt_of_le E_aA.lt (Nat.le_of_eq g130.symm))
  replace E_a1 := E_a1.ext E130
  replace F_numbers_a1 := F_numbers_a1.ext E130
  replace F_size_a1 := F_size_a1.ext E130
  replace E_aA := E_aA.ext E130
  replace V_aA := V_aA.ext E130
  replace Z0 := Nat.le_trans Z0 E130.1
  replace KK := KK.ext E130
  have E_b130 := A130
  have F_numbers_b130 : Fld Z h130 b130 "com/example/hard_delay_bounds/harddelaybounds/analysis/FlowSet" "numbers" "[I" .null := D130 (Or.inr (ww hw 48 rfl)) (ty := (.array .int)) (by decide)
  have F_hash_b130 : Fld Z h130 b130 "com/example/hard_delay_bounds/harddelaybounds/analysis/FlowSet" "hash" "I" (.int (0 : Int32)) := D130 (Or.inr (ww hw 51 rfl)) (ty := .int) (by decide)
  obtain ⟨T131, X131, e131, st131⟩ := getF X130 hx hZ hown (host := "") (Or.inl (ww hw 17 rfl)) Via.refl e130 F_numbers_a1 (g := (mkF m 5 #[.val (.ref a1)] [(.ref a1), (.ref b130), (.ref b130)])) rfl rfl (hb hby d5_5)
  obtain ⟨T132, X132, e132, st132⟩ := getF X131 hx hZ hown (host := "") (Or.inl (ww hw 24 rfl)) Via.refl e131 F_size_a1 (g := (mkF m 9 #[.val (.ref a1)] [(.ref a1), (.ref aA), (.ref b130), (.ref b130)])) rfl rfl (hb hby d5_9)
  obtain ⟨_, _, ⟨T133, L133, k133, n133⟩, -, X133, ⟨Lc133, hQ133, l133, y133, z133⟩, st133⟩ := Jvm.LawKit.callS X132 hx (y := mn3) hown (mvT hZ (ww hw 34 rfl)) (mvT hZ (ww hw 35 rfl)) (mvT hZ (ww hw 36 rfl)) (mvT hZ (ww hw 37 rfl)) (by decide) (backOf (W := 2) (rm6_4_2_2 l Z a0 hw [] aA kA x0 x1 h130 n0 Z0 E_aA V_aA) hZ (ww hw 37 rfl) (ww hw 36 rfl) (by decide) (by decide)) (g := (mkF m 12 #[.val (.ref a1)] [(.int (2 : Int32)), (.ref aA), (.ref b130), (.ref b130)])) rfl (by rw [hml]; rfl) (argsL := [(.ref aA), (.int (2 : Int32))]) (rest := [(.ref b130), (.ref b130)]) (lenOf pd_1 rfl) rfl (by show 2 * 0 + _ ≤ _; exact Nat.le_of_eq rfl) (hb hby d5_12) (fun _ _ => ⟨rfl, e132, (by decide : 1 + 1 ≤ _), (by decide : 2 + 2 ≤ _)⟩)
  dsimp only [Pt.U, Pt.locs, Pt.cells, Pt.slots] at X133 l133 y133 z133 st133 hQ133
  subst l133 y133 z133
  obtain ⟨h133, e133⟩ : ∃ z, T133.heap = z := ⟨_, rfl⟩
  rw [e133] at hQ133
  obtain ⟨b133, k133, rfl, N133q, K133, s133, Vn133, En133⟩ := hQ133
  have g_b133 : n0 ≤ b133 := Nat.le_trans Z0 s133
  have sz_b133 : h0.size ≤ b133 := Nat.le_trans KK.1 s133
  have ne_a1_b133 : a1 ≠ b133 := Nat.ne_of_lt (Nat.lt_of_lt_of_le E_a1.lt s133)
  have ne_aA_b133 : aA ≠ b133 := Nat.ne_of_lt (Nat.lt_of_lt_of_le E_aA.lt s133)
  have ne_b130_b133 : b130 ≠ b133 := Nat.ne_of_lt (Nat.lt_of_lt_of_le E_b130.lt s133)
  replace E_a1 := E_a1.keep K133
  replace F_numbers_a1 := F_numbers_a1.keep K133 nin0
  replace F_size_a1 := F_size_a1.keep K133 nin0
  replace E_aA := E_aA.keep K133
  replace V_aA := V_aA.keep K133 nin0
  replace E_b130 := E_b130.keep K133
  replace F_numbers_b130 := F_numbers_b130.keep K133 nin0
  replace F_hash_b130 := F_hash_b130.keep K133 nin0
  replace Z0 := Nat.le_trans Z0 K133.1
  replace KK := KK.trans K133 all0
  have V_b133 : Arv Z h133 b133 k133 .int (2 : Int32) [(.int x0), (.int x1)] (.int (0 : Int32)) := Vn133
  have E_b133 := En133
  have N133 := Fr.app N0 N133q
  obtain ⟨_, _, ⟨T134, L134, k134, n134⟩, -, X134, ⟨Lc134, hQ134, l134, y134, z134⟩, st134⟩ := X133.specialBackNest hx (y := mn4) rfl hown (own_mvMN hZ (ww hw 43 rfl)) (mvT hZ (ww hw 44 rfl)) (mvT hZ (ww hw 45 rfl)) (by decide) (backOf (W := 1) (rm7_2 l Z a0 hw [] b130 b133 k133 x0 x1 h133 n0 Z0 E_b130 F_numbers_b130 F_hash_b130 V_b133 g_b130 ne_b130_b133) hZ (ww hw 45 rfl) (ww hw 33 rfl) (by decide) (by decide)) (g := (mkF m 15 #[.val (.ref a1)] [(.ref b133), (.ref b130), (.ref b130)])) rfl (by rw [hml]; rfl) (Steps.refl _) (a := b130) (argsL := [(.ref b133)]) (rest := [(.ref b130)]) (lenOf pd_2 rfl) rfl (by show 2 * 0 + _ ≤ _; exact Nat.le_of_eq rfl) (hb hby d5_15) (fun _ _ => ⟨rfl, e133, (by decide : 2 + 0 ≤ _), (by decide : 4 + 0 ≤ _)⟩)
  dsimp only [Pt.U, Pt.locs, Pt.cells, Pt.slots] at X134 l134 y134 z134 st134 hQ134
  subst l134 y134 z134
  obtain ⟨h134, e134⟩ : ∃ z, T134.heap = z := ⟨_, rfl⟩
  rw [e134] at hQ134
  obtain ⟨rfl, N134q, K134, Fn134⟩ := hQ134
  replace E_a1 := E_a1.keep K134
  replace F_numbers_a1 := F_numbers_a1.keep K134 (ninS ne_a1_b130 nin0)
  replace F_size_a1 := F_size_a1.keep K134 (ninS ne_a1_b130 nin0)
  replace E_aA := E_aA.keep K134
  replace V_aA := V_aA.keep K134 (ninS ne_aA_b130 nin0)
  replace E_b130 := E_b130.keep K134
  replace V_b133 := V_b133.keep K134 (ninS (Ne.symm ne_b130_b133) nin0)
  replace E_b133 := E_b133.keep K134
  replace Z0 := Nat.le_trans Z0 K134.1
  replace KK := KK.trans K134 (allS (Or.inr sz_b130) all0)
  have F_numbers_b130 := Fn134
  have N134 := Fr.app N133 N134q
  obtain ⟨fs, hr, hrun, hended, hW, hsame⟩ := X134.leave (v := some (.ref b130)) (fun h => by rw [Bd.returns] at h; cases h)
  refine ⟨_, _, pre0 _ ?_, hrun, hended, _, _, rfl, ?_, ⟨_, rfl⟩, hW, hsame.mono (by decide) (by decide)⟩
  · refine st130 _ ?_
    show Steps p.tables e below (T130.setTop (mkF m 3 #[.val (.ref a1)] [(.ref b130)])) _
    refine y_dup X130.here hx (hb hby d5_3) rfl ?_
    refine y_aloadN X130.here hx (hb hby d5_4) rfl rfl ?_
    refine st131 _ ?_
    show Steps p.tables e below (T131.setTop (mkF m 8 #[.val (.ref a1)] [(.ref aA), (.ref b130), (.ref b130)])) _
    refine y_aloadN X131.here hx (hb hby d5_8) rfl rfl ?_
    refine st132 _ ?_
    show Steps p.tables e below (T132.setTop (mkF m 12 #[.val (.ref a1)] [(.int (2 : Int32)), (.ref aA), (.ref b130), (.ref b130)])) _
    refine st133 _ ?_
    show Steps p.tables e below (T133.setTop (mkF m 15 #[.val (.ref a1)] [(.ref b133), (.ref b130), (.ref b130)])) _
    refine st134.trans ?_
    show Steps p.tables e below (T134.setTop (mkF m 18 #[.val (.ref a1)] [(.ref b130)])) _
    jvm_step X134.here [X134.here.top, hx, (hb hby d5_18), X134.method', Bd.returns, Value.isRef, FieldType.isReference]
    first | (intro acts; rw [hr _ acts rfl rfl rfl]) | rw [hr _ _ rfl rfl rfl]
    exact Steps.refl _
  · show QS Z (2 : Int32) [(.int x0), (.int x1)] h0 n0 _ T134.heap _
    rw [e134]
    exact ⟨b130, b133, _, rfl, N134, KK, sz_b130, sz_b133, E_b130, F_numbers_b130, V_b133⟩
set_option maxRecDepth 65536 in
set_option maxHeartbeats 40000000 in
theorem rm8_2 (l : Launch) (Z : State) (a0 : Array Value) (hw : ∀ d ∈ tables_1, d.before a0 Z = true) (ws : List Jvm.Cond) (a1 : Addr) (aB : Addr) (kB : ClassId) (x0 : Int32) (x1 : Int32) (h0 : Heap) (n0 : Nat) (Z0 : n0 ≤ h0.size) (F_numbers_a1 : Fld Z h0 a1 "com/example/hard_delay_bounds/harddelaybounds/analysis/FlowSet" "numbers" "[I" (.ref aB)) (V_aB : Arv Z h0 aB kB .int (2 : Int32) [(.int x0), (.int x1)] (.int (0 : Int32))) :
    MetFree l mn6 (head1 (Jvm.Cond.code mn6 prog_18_method_2_code 1 (some .int) :: ws) ({ frames := 0, cells := 0, slots := 0, locals := 0 } : Room)) (fun a U => a = #[(.ref a1)] ∧ Z.Warmed39 U.vm ∧ U.heap = h0) (fun _ _ _ _ _ => True) (fun _ U o U' => ∃ v L, o = .returned v ∧ QP (some (.int (2 : Int32))) h0 n0 v U'.heap L ∧ FrameEnd U o U' L ({ frames := 0, cells := 0, slots := 0, locals := 0 } : Room).cells ({ frames := 0, cells := 0, slots := 0, locals := 0 } : Room).slots) := by
  refine MetFree.of_bodySF (plainFor_of_name pn_7) hisR ?_
  intro p e s m args below meth c s₁ Bd hml0 hP hK
  obtain ⟨rfl, hZ, hh⟩ := hP
  have hx := Bd.exec
  have hby := Bd.bytes
  have hml : c.maxLocals = 1 := hml0
  have hown : s.vm.findClass "com/example/hard_delay_bounds/harddelaybounds/analysis/FlowSet" = some m.cls := findClass_of_methodNamed Bd.named
  have hnm := (name_of_methodNamed Bd.named Bd.method).1
  have X0 : Stand p l e ({ frames := 0, cells := 0, slots := 0, locals := 0 } : Room) s m #[(.ref a1)] below meth c s₁ [] 0 0 := Stand.of_body Bd
  have e0 : s₁.heap = h0 := by rw [← hh, Bd.state]; rfl
  have N0 := Fr.nil n0
  have pre0 : ∀ t, Steps p.tables e below (s₁.setTop (mkF m 0 #[.val (.ref a1)] [])) t → Steps p.tables e below (s₁.setTop (entryFrame m #[(.ref a1)] 1)) t := fun t k => castTop (ef_8 m a1) k
  obtain ⟨T135, X135, e135, st135⟩ := getF X0 hx hZ hown (host := "") (Or.inl (ww hw 47 rfl)) Via.refl e0 F_numbers_a1 (g := (mkF m 1 #[.val (.ref a1)] [(.ref a1)])) rfl rfl (hb hby d8_1)
  obtain ⟨cl136, Ar136, q136, Sz136, Nn136, Hh136, Gg136⟩ := id V_aB
  obtain ⟨fs, hr, hrun, hended, hW, hsame⟩ := X135.leave (v := some (.int (2 : Int32))) (fun h => by rw [Bd.returns] at h; cases h)
  refine ⟨_, _, pre0 _ ?_, hrun, hended, _, _, rfl, ?_, ⟨_, rfl⟩, hW, hsame.mono (by decide) (by decide)⟩
  · refine y_aloadN X0.here hx (hb hby d8_0) rfl rfl ?_
    refine st135 _ ?_
    show Steps p.tables e below (T135.setTop (mkF m 4 #[.val (.ref a1)] [(.ref aB)])) _
    refine X135.arraylength hx (by rw [e135]; exact Ar136.1) (State.isArrayOf_alike hZ.alike Ar136.2.1) (g := (mkF m 4 #[.val (.ref a1)] [(.ref aB)])) rfl rfl (hb hby d8_4) _ ?_
    rw [len_of Sz136 Nn136]
    show Steps p.tables e below (T135.setTop (mkF m 5 #[.val (.ref a1)] [(.int (2 : Int32))])) _
    exact retI X135 hx Bd.returns (hb hby d8_5) hr
  · show QP _ h0 n0 _ T135.heap _
    rw [e135]
    exact ⟨rfl, N0, rfl⟩
set_option maxRecDepth 65536 in
set_option maxHeartbeats 40000000 in
theorem rm9_2_0 (l : Launch) (Z : State) (a0 : Array Value) (hw : ∀ d ∈ tables_1, d.before a0 Z = true) (ws : List Jvm.Cond) (a1 : Addr) (aB : Addr) (kB : ClassId) (x0 : Int32) (x1 : Int32) (h0 : Heap) (n0 : Nat) (Z0 : n0 ≤ h0.size) (F_numbers_a1 : Fld Z h0 a1 "com/example/hard_delay_bounds/harddelaybounds/analysis/FlowSet" "numbers" "[I" (.ref aB)) (V_aB : Arv Z h0 aB kB .int (2 : Int32) [(.int x0), (.int x1)] (.int (0 : Int32))) :
    MetFree l mn7 (head1 (Jvm.Cond.code mn7 prog_18_method_3_code 2 (some .int) :: ws) ({ frames := 0, cells := 0, slots := 0, locals := 0 } : Room)) (fun a U => a = #[(.ref a1), (.int (0 : Int32))] ∧ Z.Warmed39 U.vm ∧ U.heap = h0) (fun _ _ _ _ _ => True) (fun _ U o U' => ∃ v L, o = .returned v ∧ QP (some (.int x0)) h0 n0 v U'.heap L ∧ FrameEnd U o U' L ({ frames := 0, cells := 0, slots := 0, locals := 0 } : Room).cells ({ frames := 0, cells := 0, slots := 0, locals := 0 } : Room).slots) := by
  refine MetFree.of_bodySF (plainFor_of_name pn_7) hisR ?_
  intro p e s m args below meth c s₁ Bd hml0 hP hK
  obtain ⟨rfl, hZ, hh⟩ := hP
  have hx := Bd.exec
  have hby := Bd.bytes
  have hml : c.maxLocals = 2 := hml0
  have hown : s.vm.findClass "com/example/hard_delay_bounds/harddelaybounds/analysis/FlowSet" = some m.cls := findClass_of_methodNamed Bd.named
  have hnm := (name_of_methodNamed Bd.named Bd.method).1
  have X0 : Stand p l e ({ frames := 0, cells := 0, slots := 0, locals := 0 } : Room) s m #[(.ref a1), (.int (0 : Int32))] below meth c s₁ [] 0 0 := Stand.of_body Bd
  have e0 : s₁.heap = h0 := by rw [← hh, Bd.state]; rfl
  have N0 := Fr.nil n0
  have pre0 : ∀ t, Steps p.tables e below (s₁.setTop (mkF m 0 #[.val (.ref a1), .val (.int (0 : Int32))] [])) t → Steps p.tables e below (s₁.setTop (entryFrame m #[(.ref a1), (.int (0 : Int32))] 2)) t := fun t k => castTop (ef_9 m a1 (0 : Int32)) k
  obtain ⟨T137, X137, e137, st137⟩ := getF X0 hx hZ hown (host := "") (Or.inl (ww hw 47 rfl)) Via.refl e0 F_numbers_a1 (g := (mkF m 1 #[.val (.ref a1), .val (.int (0 : Int32))] [(.ref a1)])) rfl rfl (hb hby d9_1)
  obtain ⟨cl138, Ar138, q138, Sz138, Nn138, Hh138, Gg138⟩ := id V_aB
  have hin138 : ¬ ((0 : Int32) < 0 ∨ cl138.slots.size ≤ ((0 : Int32)).toNatClampNeg) := inb_of Sz138 ⟨by decide, by decide⟩
  have hat138 : cl138.slots[((0 : Int32)).toNatClampNeg]? = some (.int x0) := Hh138.at hin138 rfl
  obtain ⟨fs, hr, hrun, hended, hW, hsame⟩ := X137.leave (v := some (.int x0)) (fun h => by rw [Bd.returns] at h; cases h)
  refine ⟨_, _, pre0 _ ?_, hrun, hended, _, _, rfl, ?_, ⟨_, rfl⟩, hW, hsame.mono (by decide) (by decide)⟩
  · refine y_aloadN X0.here hx (hb hby d9_0) rfl rfl ?_
    refine st137 _ ?_
    show Steps p.tables e below (T137.setTop (mkF m 4 #[.val (.ref a1), .val (.int (0 : Int32))] [(.ref aB)])) _
    refine y_iloadN X137.here hx (hb hby d9_4) rfl ?_
    refine X137.iaload hx (j := (0 : Int32)) (v := (.int x0)) (by rw [e137]; exact Ar138.1) (State.isArrayOf_alike hZ.alike Ar138.2.1) Ar138.2.2 hin138 hat138 (g := (mkF m 5 #[.val (.ref a1), .val (.int (0 : Int32))] [(.int (0 : Int32)), (.ref aB)])) rfl rfl (hb hby d9_5) _ ?_
    show Steps p.tables e below (T137.setTop (mkF m 6 #[.val (.ref a1), .val (.int (0 : Int32))] [(.int x0)])) _
    exact retI X137 hx Bd.returns (hb hby d9_6) hr
  · show QP _ h0 n0 _ T137.heap _
    rw [e137]
    exact ⟨rfl, N0, rfl⟩
set_option maxRecDepth 65536 in
set_option maxHeartbeats 40000000 in
theorem rm9_2_1 (l : Launch) (Z : State) (a0 : Array Value) (hw : ∀ d ∈ tables_1, d.before a0 Z = true) (ws : List Jvm.Cond) (a1 : Addr) (aB : Addr) (kB : ClassId) (x0 : Int32) (x1 : Int32) (h0 : Heap) (n0 : Nat) (Z0 : n0 ≤ h0.size) (F_numbers_a1 : Fld Z h0 a1 "com/example/hard_delay_bounds/harddelaybounds/analysis/FlowSet" "numbers" "[I" (.ref aB)) (V_aB : Arv Z h0 aB kB .int (2 : Int32) [(.int x0), (.int x1)] (.int (0 : Int32))) :
    MetFree l mn7 (head1 (Jvm.Cond.code mn7 prog_18_method_3_code 2 (some .int) :: ws) ({ frames := 0, cells := 0, slots := 0, locals := 0 } : Room)) (fun a U => a = #[(.ref a1), (.int (1 : Int32))] ∧ Z.Warmed39 U.vm ∧ U.heap = h0) (fun _ _ _ _ _ => True) (fun _ U o U' => ∃ v L, o = .returned v ∧ QP (some (.int x1)) h0 n0 v U'.heap L ∧ FrameEnd U o U' L ({ frames := 0, cells := 0, slots := 0, locals := 0 } : Room).cells ({ frames := 0, cells := 0, slots := 0, locals := 0 } : Room).slots) := by
  refine MetFree.of_bodySF (plainFor_of_name pn_7) hisR ?_
  intro p e s m args below meth c s₁ Bd hml0 hP hK
  obtain ⟨rfl, hZ, hh⟩ := hP
  have hx := Bd.exec
  have hby := Bd.bytes
  have hml : c.maxLocals = 2 := hml0
  have hown : s.vm.findClass "com/example/hard_delay_bounds/harddelaybounds/analysis/FlowSet" = some m.cls := findClass_of_methodNamed Bd.named
  have hnm := (name_of_methodNamed Bd.named Bd.method).1
  have X0 : Stand p l e ({ frames := 0, cells := 0, slots := 0, locals := 0 } : Room) s m #[(.ref a1), (.int (1 : Int32))] below meth c s₁ [] 0 0 := Stand.of_body Bd
  have e0 : s₁.heap = h0 := by rw [← hh, Bd.state]; rfl
  have N0 := Fr.nil n0
  have pre0 : ∀ t, Steps p.tables e below (s₁.setTop (mkF m 0 #[.val (.ref a1), .val (.int (1 : Int32))] [])) t → Steps p.tables e below (s₁.setTop (entryFrame m #[(.ref a1), (.int (1 : Int32))] 2)) t := fun t k => castTop (ef_9 m a1 (1 : Int32)) k
  obtain ⟨T139, X139, e139, st139⟩ := getF X0 hx hZ hown (host := "") (Or.inl (ww hw 47 rfl)) Via.refl e0 F_numbers_a1 (g := (mkF m 1 #[.val (.ref a1), .val (.int (1 : Int32))] [(.ref a1)])) rfl rfl (hb hby d9_1)
  obtain ⟨cl140, Ar140, q140, Sz140, Nn140, Hh140, Gg140⟩ := id V_aB
  have hin140 : ¬ ((1 : Int32) < 0 ∨ cl140.slots.size ≤ ((1 : Int32)).toNatClampNeg) := inb_of Sz140 ⟨by decide, by decide⟩
  have hat140 : cl140.slots[((1 : Int32)).toNatClampNeg]? = some (.int x1) := Hh140.at hin140 rfl
  obtain ⟨fs, hr, hrun, hended, hW, hsame⟩ := X139.leave (v := some (.int x1)) (fun h => by rw [Bd.returns] at h; cases h)
  refine ⟨_, _, pre0 _ ?_, hrun, hended, _, _, rfl, ?_, ⟨_, rfl⟩, hW, hsame.mono (by decide) (by decide)⟩
  · refine y_aloadN X0.here hx (hb hby d9_0) rfl rfl ?_
    refine st139 _ ?_
    show Steps p.tables e below (T139.setTop (mkF m 4 #[.val (.ref a1), .val (.int (1 : Int32))] [(.ref aB)])) _
    refine y_iloadN X139.here hx (hb hby d9_4) rfl ?_
    refine X139.iaload hx (j := (1 : Int32)) (v := (.int x1)) (by rw [e139]; exact Ar140.1) (State.isArrayOf_alike hZ.alike Ar140.2.1) Ar140.2.2 hin140 hat140 (g := (mkF m 5 #[.val (.ref a1), .val (.int (1 : Int32))] [(.int (1 : Int32)), (.ref aB)])) rfl rfl (hb hby d9_5) _ ?_
    show Steps p.tables e below (T139.setTop (mkF m 6 #[.val (.ref a1), .val (.int (1 : Int32))] [(.int x1)])) _
    exact retI X139 hx Bd.returns (hb hby d9_6) hr
  · show QP _ h0 n0 _ T139.heap _
    rw [e139]
    exact ⟨rfl, N0, rfl⟩
set_option maxRecDepth 65536 in
set_option maxHeartbeats 40000000 in
theorem rm6_4_3_3 (l : Launch) (Z : State) (a0 : Array Value) (hw : ∀ d ∈ tables_1, d.before a0 Z = true) (ws : List Jvm.Cond) (a1 : Addr) (k1 : ClassId) (x0 : Int32) (x1 : Int32) (x2 : Int32) (h0 : Heap) (n0 : Nat) (Z0 : n0 ≤ h0.size) (E_a1 : Exa Z h0 a1 "[I") (V_a1 : Arv Z h0 a1 k1 .int (4 : Int32) [(.int x0), (.int x1), (.int x2), (.int (0 : Int32))] (.int (0 : Int32))) :
    MetFree l mn3 (head1 (Jvm.Cond.code mn3 jdk_65_method_123_code 3 (some (.array .int)) :: ws) ({ frames := 1, cells := 1, slots := 3, locals := 18 } : Room)) (fun a U => a = #[(.ref a1), (.int (3 : Int32))] ∧ Z.Warmed39 U.vm ∧ U.heap = h0) (fun _ _ _ _ _ => True) (fun _ U o U' => ∃ v L, o = .returned v ∧ QC Z (3 : Int32) [(.int x0), (.int x1), (.int x2)] h0 n0 v U'.heap L ∧ FrameEnd U o U' L ({ frames := 1, cells := 1, slots := 3, locals := 18 } : Room).cells ({ frames := 1, cells := 1, slots := 3, locals := 18 } : Room).slots) := by
  refine MetFree.of_bodySF (plainFor_of_name pn_6) hisR ?_
  intro p e s m args below meth c s₁ Bd hml0 hP hK
  obtain ⟨rfl, hZ, hh⟩ := hP
  have hx := Bd.exec
  have hby := Bd.bytes
  have hml : c.maxLocals = 3 := hml0
  have hown : s.vm.findClass "java/util/Arrays" = some m.cls := findClass_of_methodNamed Bd.named
  have hnm := (name_of_methodNamed Bd.named Bd.method).1
  have X0 : Stand p l e ({ frames := 1, cells := 1, slots := 3, locals := 18 } : Room) s m #[(.ref a1), (.int (3 : Int32))] below meth c s₁ [] 0 0 := Stand.of_body Bd
  have e0 : s₁.heap = h0 := by rw [← hh, Bd.state]; rfl
  have N0 := Fr.nil n0
  have pre0 : ∀ t, Steps p.tables e below (s₁.setTop (mkF m 0 #[.val (.ref a1), .val (.int (3 : Int32)), .unset] [])) t → Steps p.tables e below (s₁.setTop (entryFrame m #[(.ref a1), (.int (3 : Int32))] 3)) t := fun t k => castTop (ef_6 m a1 (3 : Int32)) k
  have KK := Keep.refl h0 []
  obtain ⟨cl141, Ar141, q141, Sz141, Nn141, Hh141, Gg141⟩ := id V_a1
  obtain ⟨T142, h142, k142, X142, e142, E142, A142, Ex142, st142⟩ := newPE X0 hx hZ (ww hw 16 rfl) e0 (g := (mkF m 15 #[.val (.ref a1), .val (.int (3 : Int32)), .unset] [(.int (3 : Int32))])) rfl (hb hby d6_15) rfl (by decide) (cap := 3) (by decide) (by decide) (by decide) (by decide) (ad := "[I") (by first | rfl | decide)
  obtain ⟨b142, g142⟩ : ∃ z, z = h0.size := ⟨_, rfl⟩
  rw [← g142] at A142 Ex142 st142
  have g_b142 : n0 ≤ b142 := Nat.le_trans Z0 (Nat.le_of_eq g142.symm)
  have sz_b142 : h0.size ≤ b142 := Nat.le_trans KK.1 (Nat.le_of_eq g142.symm)
  have ne_a1_b142 : a1 ≠ b142 := Nat.ne_of_lt (Nat.lt_of_lt_of_le E_a1.lt (Nat.le_of_eq g142.symm))
  replace E_a1 := E_a1.ext E142
  replace V_a1 := V_a1.ext E142
  replace Z0 := Nat.le_trans Z0 E142.1
  replace KK := KK.ext E142
  have V_b142 : Arv Z h142 b142 k142 .int (3 : Int32) [(.int (0 : Int32)), (.int (0 : Int32)), (.int (0 : Int32))] (.int (0 : Int32)) := (Arv.new A142 (by decide)).pad (pad_rep [] (.int (0 : Int32)) 3)
  have E_b142 : Exa Z h142 b142 "[I" := Ex142
  obtain ⟨cl143, Ar143, q143, Sz143, Nn143, Hh143, Gg143⟩ := id V_a1
  obtain ⟨_, _, ⟨T144, L144, k144, n144⟩, -, X144, ⟨Lc144, hQ144, l144, y144, z144⟩, st144⟩ := Jvm.LawKit.callS X142 hx (y := mn0) hown (mvT hZ (ww hw 38 rfl)) (mvT hZ (ww hw 3 rfl)) (mvT hZ (ww hw 4 rfl)) (mvT hZ (ww hw 5 rfl)) (by decide) (backOf (W := 4) (rm1 l Z a0 hw [] (4 : Int32) (3 : Int32) h142 n0 Z0) hZ (ww hw 5 rfl) (ww hw 4 rfl) (by decide) (by decide)) (g := (mkF m 25 #[.val (.ref a1), .val (.int (3 : Int32)), .val (.ref b142)] [(.int (3 : Int32)), (.int (4 : Int32)), (.int (0 : Int32)), (.ref b142), (.int (0 : Int32)), (.ref a1)])) rfl (by rw [hml]; rfl) (argsL := [(.int (4 : Int32)), (.int (3 : Int32))]) (rest := [(.int (0 : Int32)), (.ref b142), (.int (0 : Int32)), (.ref a1)]) (lenOf pd_0 rfl) rfl (by show 2 * 0 + _ ≤ _; exact Nat.le_of_eq rfl) (hb hby d6_25) (fun _ _ => ⟨rfl, e142, (by decide : 1 + 0 ≤ _), (by decide : 3 + 0 ≤ _)⟩)
  dsimp only [Pt.U, Pt.locs, Pt.cells, Pt.slots] at X144 l144 y144 z144 st144 hQ144
  subst l144 y144 z144
  obtain ⟨rfl, N144q, e144⟩ := hQ144
  rw [show f1 (4 : Int32) (3 : Int32) = (3 : Int32) from by decide] at st144
  have N144 := Fr.app N0 N144q
  obtain ⟨T145, h145, L145, X145, e145, N145, K145, Vn145, st145⟩ := cpA X144 hx hZ hown (ww hw 39 rfl) (ww hw 42 rfl) (ww hw 40 rfl) (ww hw 41 rfl) e144 (us := [(.int x0), (.int x1), (.int x2)]) V_a1 V_b142 (Or.inl ⟨rfl, rfl⟩) (by decide) (by decide) (by decide) (by decide) (by decide) rfl (by decide) N144 g_b142 (g := (mkF m 28 #[.val (.ref a1), .val (.int (3 : Int32)), .val (.ref b142)] [(.int (3 : Int32)), (.int (0 : Int32)), (.ref b142), (.int (0 : Int32)), (.ref a1)])) rfl (by rw [hml]; rfl) rfl (hb hby d6_28) (by decide) (W := 0) (by show 2 * 0 + _ ≤ _; exact Nat.le_of_eq rfl) (by decide)
  replace E_a1 := E_a1.keep K145
  replace V_a1 := V_a1.keep K145 (ninS ne_a1_b142 nin0)
  replace E_b142 := E_b142.keep K145
  replace Z0 := Nat.le_trans Z0 K145.1
  replace KK := KK.trans K145 (allS (Or.inr sz_b142) all0)
  have V_b142 : Arv Z h145 b142 k142 .int (3 : Int32) [(.int x0), (.int x1), (.int x2)] (.int (0 : Int32)) := Vn145
  obtain ⟨fs, hr, hrun, hended, hW, hsame⟩ := X145.leave (v := some (.ref b142)) (fun h => by rw [Bd.returns] at h; cases h)
  refine ⟨_, _, pre0 _ ?_, hrun, hended, _, _, rfl, ?_, ⟨_, rfl⟩, hW, hsame.mono (by decide) (by decide)⟩
  · refine y_iloadN X0.here hx (hb hby d6_0) rfl ?_
    refine y_aloadN X0.here hx (hb hby d6_1) rfl rfl ?_
    refine X0.arraylength hx (by rw [e0]; exact Ar141.1) (State.isArrayOf_alike hZ.alike Ar141.2.1) (g := (mkF m 2 #[.val (.ref a1), .val (.int (3 : Int32)), .unset] [(.ref a1), (.int (3 : Int32))])) rfl rfl (hb hby d6_2) _ ?_
    rw [len_of Sz141 Nn141]
    show Steps p.tables e below (s₁.setTop (mkF m 3 #[.val (.ref a1), .val (.int (3 : Int32)), .unset] [(.int (4 : Int32)), (.int (3 : Int32))])) _
    refine y_icmpYes X0.here hx (pc' := 14) (hb hby d6_3) (feq (by decide)).2 (by decide) (by decide) ?_
    refine y_iloadN X0.here hx (hb hby d6_14) rfl ?_
    refine st142 _ ?_
    show Steps p.tables e below (T142.setTop (mkF m 17 #[.val (.ref a1), .val (.int (3 : Int32)), .unset] [(.ref b142)])) _
    refine y_astoreN X142.here hx (hb hby d6_17) rfl (l' := #[.val (.ref a1), .val (.int (3 : Int32)), .val (.ref b142)]) rfl ?_
    refine y_aloadN X142.here hx (hb hby d6_18) rfl rfl ?_
    refine y_iconst X142.here hx (v := (0 : Int32)) (hb hby d6_19) rfl ?_
    refine y_aloadN X142.here hx (hb hby d6_20) rfl rfl ?_
    refine y_iconst X142.here hx (v := (0 : Int32)) (hb hby d6_21) rfl ?_
    refine y_aloadN X142.here hx (hb hby d6_22) rfl rfl ?_
    refine X142.arraylength hx (by rw [e142]; exact Ar143.1) (State.isArrayOf_alike hZ.alike Ar143.2.1) (g := (mkF m 23 #[.val (.ref a1), .val (.int (3 : Int32)), .val (.ref b142)] [(.ref a1), (.int (0 : Int32)), (.ref b142), (.int (0 : Int32)), (.ref a1)])) rfl rfl (hb hby d6_23) _ ?_
    rw [len_of Sz143 Nn143]
    show Steps p.tables e below (T142.setTop (mkF m 24 #[.val (.ref a1), .val (.int (3 : Int32)), .val (.ref b142)] [(.int (4 : Int32)), (.int (0 : Int32)), (.ref b142), (.int (0 : Int32)), (.ref a1)])) _
    refine y_iloadN X142.here hx (hb hby d6_24) rfl ?_
    refine st144 _ ?_
    show Steps p.tables e below (T144.setTop (mkF m 28 #[.val (.ref a1), .val (.int (3 : Int32)), .val (.ref b142)] [(.int (3 : Int32)), (.int (0 : Int32)), (.ref b142), (.int (0 : Int32)), (.ref a1)])) _
    refine st145 _ ?_
    show Steps p.tables e below (T145.setTop (mkF m 31 #[.val (.ref a1), .val (.int (3 : Int32)), .val (.ref b142)] [])) _
    refine y_aloadN X145.here hx (hb hby d6_31) rfl rfl ?_
    show Steps p.tables e below (T145.setTop (mkF m 32 #[.val (.ref a1), .val (.int (3 : Int32)), .val (.ref b142)] [(.ref b142)])) _
    jvm_step X145.here [X145.here.top, hx, (hb hby d6_32), X145.method', Bd.returns, Value.isRef, FieldType.isReference]
    first | (intro acts; rw [hr _ acts rfl rfl rfl]) | rw [hr _ _ rfl rfl rfl]
    exact Steps.refl _
  · show QC Z (3 : Int32) [(.int x0), (.int x1), (.int x2)] h0 n0 _ T145.heap _
    rw [e145]
    exact ⟨b142, _, rfl, N145, KK, sz_b142, V_b142, E_b142⟩
abbrev lo7_3_0 (a1 : Addr) (a2 : Addr) : Array Slot := #[.val (.ref a1), .val (.ref a2), .val (.int (3 : Int32)), .val (.ref a2), .val (.int (3 : Int32)), .unset, .unset]
abbrev lo7_3_1 (a1 : Addr) (a2 : Addr) : Array Slot := #[.val (.ref a1), .val (.ref a2), .val (.int (3 : Int32)), .val (.ref a2), .val (.int (3 : Int32)), .val (.int (0 : Int32)), .unset]
abbrev lo7_3_2 (a1 : Addr) (a2 : Addr) (x0 : Int32) : Array Slot := #[.val (.ref a1), .val (.ref a2), .val (.int (3 : Int32)), .val (.ref a2), .val (.int (3 : Int32)), .val (.int (0 : Int32)), .val (.int x0)]
abbrev lo7_3_3 (a1 : Addr) (a2 : Addr) (x0 : Int32) : Array Slot := #[.val (.ref a1), .val (.ref a2), .val (.int (((3 : Int32) ^^^ x0) * (-1640531535 : Int32))), .val (.ref a2), .val (.int (3 : Int32)), .val (.int (0 : Int32)), .val (.int x0)]
abbrev lo7_3_4 (a1 : Addr) (a2 : Addr) (x0 : Int32) : Array Slot := #[.val (.ref a1), .val (.ref a2), .val (.int ((((3 : Int32) ^^^ x0) * (-1640531535 : Int32)) ^^^ (((((3 : Int32) ^^^ x0) * (-1640531535 : Int32)).toUInt32 >>> ((15 : Int32) &&& 31).toUInt32).toInt32))), .val (.ref a2), .val (.int (3 : Int32)), .val (.int (0 : Int32)), .val (.int x0)]
abbrev lo7_3_5 (a1 : Addr) (a2 : Addr) (x0 : Int32) : Array Slot := #[.val (.ref a1), .val (.ref a2), .val (.int ((((3 : Int32) ^^^ x0) * (-1640531535 : Int32)) ^^^ (((((3 : Int32) ^^^ x0) * (-1640531535 : Int32)).toUInt32 >>> ((15 : Int32) &&& 31).toUInt32).toInt32))), .val (.ref a2), .val (.int (3 : Int32)), .val (.int (1 : Int32)), .val (.int x0)]
abbrev lo7_3_6 (a1 : Addr) (a2 : Addr) (z153 : Int32) (x0 : Int32) : Array Slot := #[.val (.ref a1), .val (.ref a2), .val (.int z153), .val (.ref a2), .val (.int (3 : Int32)), .val (.int (1 : Int32)), .val (.int x0)]
abbrev lo7_3_7 (a1 : Addr) (a2 : Addr) (z153 : Int32) (x1 : Int32) : Array Slot := #[.val (.ref a1), .val (.ref a2), .val (.int z153), .val (.ref a2), .val (.int (3 : Int32)), .val (.int (1 : Int32)), .val (.int x1)]
abbrev lo7_3_8 (a1 : Addr) (a2 : Addr) (z153 : Int32) (x1 : Int32) : Array Slot := #[.val (.ref a1), .val (.ref a2), .val (.int ((z153 ^^^ x1) * (-1640531535 : Int32))), .val (.ref a2), .val (.int (3 : Int32)), .val (.int (1 : Int32)), .val (.int x1)]
abbrev lo7_3_9 (a1 : Addr) (a2 : Addr) (z153 : Int32) (x1 : Int32) : Array Slot := #[.val (.ref a1), .val (.ref a2), .val (.int (((z153 ^^^ x1) * (-1640531535 : Int32)) ^^^ ((((z153 ^^^ x1) * (-1640531535 : Int32)).toUInt32 >>> ((15 : Int32) &&& 31).toUInt32).toInt32))), .val (.ref a2), .val (.int (3 : Int32)), .val (.int (1 : Int32)), .val (.int x1)]
abbrev lo7_3_10 (a1 : Addr) (a2 : Addr) (z153 : Int32) (x1 : Int32) : Array Slot := #[.val (.ref a1), .val (.ref a2), .val (.int (((z153 ^^^ x1) * (-1640531535 : Int32)) ^^^ ((((z153 ^^^ x1) * (-1640531535 : Int32)).toUInt32 >>> ((15 : Int32) &&& 31).toUInt32).toInt32))), .val (.ref a2), .val (.int (3 : Int32)), .val (.int (2 : Int32)), .val (.int x1)]
abbrev lo7_3_11 (a1 : Addr) (a2 : Addr) (z156 : Int32) (x1 : Int32) : Array Slot := #[.val (.ref a1), .val (.ref a2), .val (.int z156), .val (.ref a2), .val (.int (3 : Int32)), .val (.int (2 : Int32)), .val (.int x1)]
abbrev lo7_3_12 (a1 : Addr) (a2 : Addr) (z156 : Int32) (x2 : Int32) : Array Slot := #[.val (.ref a1), .val (.ref a2), .val (.int z156), .val (.ref a2), .val (.int (3 : Int32)), .val (.int (2 : Int32)), .val (.int x2)]
abbrev lo7_3_13 (a1 : Addr) (a2 : Addr) (z156 : Int32) (x2 : Int32) : Array Slot := #[.val (.ref a1), .val (.ref a2), .val (.int ((z156 ^^^ x2) * (-1640531535 : Int32))), .val (.ref a2), .val (.int (3 : Int32)), .val (.int (2 : Int32)), .val (.int x2)]
abbrev lo7_3_14 (a1 : Addr) (a2 : Addr) (z156 : Int32) (x2 : Int32) : Array Slot := #[.val (.ref a1), .val (.ref a2), .val (.int (((z156 ^^^ x2) * (-1640531535 : Int32)) ^^^ ((((z156 ^^^ x2) * (-1640531535 : Int32)).toUInt32 >>> ((15 : Int32) &&& 31).toUInt32).toInt32))), .val (.ref a2), .val (.int (3 : Int32)), .val (.int (2 : Int32)), .val (.int x2)]
abbrev lo7_3_15 (a1 : Addr) (a2 : Addr) (z156 : Int32) (x2 : Int32) : Array Slot := #[.val (.ref a1), .val (.ref a2), .val (.int (((z156 ^^^ x2) * (-1640531535 : Int32)) ^^^ ((((z156 ^^^ x2) * (-1640531535 : Int32)).toUInt32 >>> ((15 : Int32) &&& 31).toUInt32).toInt32))), .val (.ref a2), .val (.int (3 : Int32)), .val (.int (3 : Int32)), .val (.int x2)]
abbrev lo7_3_16 (a1 : Addr) (a2 : Addr) (z159 : Int32) (x2 : Int32) : Array Slot := #[.val (.ref a1), .val (.ref a2), .val (.int z159), .val (.ref a2), .val (.int (3 : Int32)), .val (.int (3 : Int32)), .val (.int x2)]
set_option maxRecDepth 65536 in
set_option maxHeartbeats 40000000 in
theorem rm7_3 (l : Launch) (Z : State) (a0 : Array Value) (hw : ∀ d ∈ tables_1, d.before a0 Z = true) (ws : List Jvm.Cond) (a1 : Addr) (a2 : Addr) (k2 : ClassId) (x0 : Int32) (x1 : Int32) (x2 : Int32) (h0 : Heap) (n0 : Nat) (Z0 : n0 ≤ h0.size) (E_a1 : Exa Z h0 a1 "com/example/hard_delay_bounds/harddelaybounds/analysis/FlowSet") (F_numbers_a1 : Fld Z h0 a1 "com/example/hard_delay_bounds/harddelaybounds/analysis/FlowSet" "numbers" "[I" .null) (F_hash_a1 : Fld Z h0 a1 "com/example/hard_delay_bounds/harddelaybounds/analysis/FlowSet" "hash" "I" (.int (0 : Int32))) (V_a2 : Arv Z h0 a2 k2 .int (3 : Int32) [(.int x0), (.int x1), (.int x2)] (.int (0 : Int32))) (g_a1 : n0 ≤ a1) (ne_a1_a2 : a1 ≠ a2) :
    MetFree l mn4 (head1 (Jvm.Cond.code mn4 prog_18_method_1_code 7 none :: ws) ({ frames := 1, cells := 0, slots := 0, locals := 12 } : Room)) (fun a U => a = #[(.ref a1), (.ref a2)] ∧ Z.Warmed39 U.vm ∧ U.heap = h0) (fun _ _ _ _ _ => True) (fun _ U o U' => ∃ v L, o = .returned v ∧ QI Z a1 a2 h0 n0 v U'.heap L ∧ FrameEnd U o U' L ({ frames := 1, cells := 0, slots := 0, locals := 12 } : Room).cells ({ frames := 1, cells := 0, slots := 0, locals := 12 } : Room).slots) := by
  refine MetFree.of_bodySF (plainFor_of_name pn_7) hisR ?_
  intro p e s m args below meth c s₁ Bd hml0 hP hK
  obtain ⟨rfl, hZ, hh⟩ := hP
  have hx := Bd.exec
  have hby := Bd.bytes
  have hml : c.maxLocals = 7 := hml0
  have hown : s.vm.findClass "com/example/hard_delay_bounds/harddelaybounds/analysis/FlowSet" = some m.cls := findClass_of_methodNamed Bd.named
  have hnm := (name_of_methodNamed Bd.named Bd.method).1
  have X0 : Stand p l e ({ frames := 1, cells := 0, slots := 0, locals := 12 } : Room) s m #[(.ref a1), (.ref a2)] below meth c s₁ [] 0 0 := Stand.of_body Bd
  have e0 : s₁.heap = h0 := by rw [← hh, Bd.state]; rfl
  have N0 := Fr.nil n0
  have pre0 : ∀ t, Steps p.tables e below (s₁.setTop (mkF m 0 #[.val (.ref a1), .val (.ref a2), .unset, .unset, .unset, .unset, .unset] [])) t → Steps p.tables e below (s₁.setTop (entryFrame m #[(.ref a1), (.ref a2)] 7)) t := fun t k => castTop (ef_7 m a1 a2) k
  have KK := Keep.refl h0 [a1]
  obtain ⟨T146, X146, e146, st146⟩ := initO X0 hx hZ hown (ww hw 46 rfl) (ww hw 14 rfl) (ww hw 15 rfl) e0 (g := (mkF m 1 #[.val (.ref a1), .val (.ref a2), .unset, .unset, .unset, .unset, .unset] [(.ref a1)])) rfl (by rw [hml]; rfl) rfl (hb hby d7_1) (by decide) (W := 0) (by show 2 * 0 + _ ≤ _; exact Nat.le_of_eq rfl) (by decide)
  obtain ⟨T147, h147, X147, e147, W147, st147⟩ := putF X146 hx hZ hown (host := "") (Or.inl (ww hw 47 rfl)) Via.refl e146 F_numbers_a1 E_a1 (Or.inr ⟨(ww hw 48 rfl), rfl, hnm⟩) (ww hw 32 rfl) (ty := (.array .int)) (by decide) rfl rfl (g := (mkF m 6 #[.val (.ref a1), .val (.ref a2), .unset, .unset, .unset, .unset, .unset] [(.ref a2), (.ref a1)])) rfl rfl (hb hby d7_6)
  replace E_a1 := E_a1.wr W147
  replace F_numbers_a1 := F_numbers_a1.same W147
  replace F_hash_a1 := F_hash_a1.other W147 (Or.inr (slot_ne (Or.inr (ww hw 51 rfl)) (Or.inr (ww hw 48 rfl)) (by decide) (t := .int) (t' := (.array .int)) (by decide) (by decide)))
  replace V_a2 := V_a2.other W147 (Ne.symm ne_a1_a2)
  replace Z0 := Nat.le_trans Z0 (Keep.of_wr W147).1
  replace KK := KK.wr W147 (Or.inl (List.mem_of_getElem? (i := 0) rfl))
  have N147 := Fr.snoc X147 N0 g_a1
  obtain ⟨cl148, Ar148, q148, Sz148, Nn148, Hh148, Gg148⟩ := id V_a2
  obtain ⟨cl149, Ar149, q149, Sz149, Nn149, Hh149, Gg149⟩ := id V_a2
  have pre150 : ∀ t, Steps p.tables e below (T147.setTop (mkF m 21 #[.val (.ref a1), .val (.ref a2), .val (.int (3 : Int32)), .val (.ref a2), .val (.int (3 : Int32)), .val (.int (0 : Int32)), .unset] [])) t → Steps p.tables e below (s₁.setTop (entryFrame m #[(.ref a1), (.ref a2)] 7)) t := fun t k => by
    refine pre0 _ ?_
    refine y_aloadN X0.here hx (hb hby d7_0) rfl rfl ?_
    refine st146 _ ?_
    show Steps p.tables e below (T146.setTop (mkF m 4 #[.val (.ref a1), .val (.ref a2), .unset, .unset, .unset, .unset, .unset] [])) _
    refine y_aloadN X146.here hx (hb hby d7_4) rfl rfl ?_
    refine y_aloadN X146.here hx (hb hby d7_5) rfl rfl ?_
    refine st147 _ ?_
    show Steps p.tables e below (T147.setTop (mkF m 9 #[.val (.ref a1), .val (.ref a2), .unset, .unset, .unset, .unset, .unset] [])) _
    refine y_aloadN X147.here hx (hb hby d7_9) rfl rfl ?_
    refine X147.arraylength hx (by rw [e147]; exact Ar148.1) (State.isArrayOf_alike hZ.alike Ar148.2.1) (g := (mkF m 10 #[.val (.ref a1), .val (.ref a2), .unset, .unset, .unset, .unset, .unset] [(.ref a2)])) rfl rfl (hb hby d7_10) _ ?_
    rw [len_of Sz148 Nn148]
    show Steps p.tables e below (T147.setTop (mkF m 11 #[.val (.ref a1), .val (.ref a2), .unset, .unset, .unset, .unset, .unset] [(.int (3 : Int32))])) _
    refine y_istoreN X147.here hx (hb hby d7_11) (l' := #[.val (.ref a1), .val (.ref a2), .val (.int (3 : Int32)), .unset, .unset, .unset, .unset]) rfl ?_
    refine y_aloadN X147.here hx (hb hby d7_12) rfl rfl ?_
    refine y_astoreN X147.here hx (hb hby d7_13) rfl (l' := #[.val (.ref a1), .val (.ref a2), .val (.int (3 : Int32)), .val (.ref a2), .unset, .unset, .unset]) rfl ?_
    refine y_aloadN X147.here hx (hb hby d7_14) rfl rfl ?_
    refine X147.arraylength hx (by rw [e147]; exact Ar149.1) (State.isArrayOf_alike hZ.alike Ar149.2.1) (g := (mkF m 15 #[.val (.ref a1), .val (.ref a2), .val (.int (3 : Int32)), .val (.ref a2), .unset, .unset, .unset] [(.ref a2)])) rfl rfl (hb hby d7_15) _ ?_
    rw [len_of Sz149 Nn149]
    show Steps p.tables e below (T147.setTop (mkF m 16 #[.val (.ref a1), .val (.ref a2), .val (.int (3 : Int32)), .val (.ref a2), .unset, .unset, .unset] [(.int (3 : Int32))])) _
    refine y_istore X147.here hx (hb hby d7_16) (l' := (lo7_3_0 a1 a2)) rfl ?_
    refine y_iconst X147.here hx (v := (0 : Int32)) (hb hby d7_18) rfl ?_
    refine y_istore X147.here hx (hb hby d7_19) (l' := (lo7_3_1 a1 a2)) rfl ?_
    exact k
  obtain ⟨cl151, Ar151, q151, Sz151, Nn151, Hh151, Gg151⟩ := id V_a2
  have hin151 : ¬ ((0 : Int32) < 0 ∨ cl151.slots.size ≤ ((0 : Int32)).toNatClampNeg) := inb_of Sz151 ⟨by decide, by decide⟩
  have hat151 : cl151.slots[((0 : Int32)).toNatClampNeg]? = some (.int x0) := Hh151.at hin151 rfl
  have pre152 : ∀ t, Steps p.tables e below (T147.setTop (mkF m 21 #[.val (.ref a1), .val (.ref a2), .val (.int ((((3 : Int32) ^^^ x0) * (-1640531535 : Int32)) ^^^ (((((3 : Int32) ^^^ x0) * (-1640531535 : Int32)).toUInt32 >>> ((15 : Int32) &&& 31).toUInt32).toInt32))), .val (.ref a2), .val (.int (3 : Int32)), .val (.int (1 : Int32)), .val (.int x0)] [])) t → Steps p.tables e below (s₁.setTop (entryFrame m #[(.ref a1), (.ref a2)] 7)) t := fun t k => by
    refine pre150 _ ?_
    refine y_iload X147.here hx (hb hby d7_21) rfl ?_
    refine y_iload X147.here hx (hb hby d7_23) rfl ?_
    refine y_icmpNo X147.here hx (hb hby d7_25) (tlt (by decide)).2.1 ?_
    refine y_aloadN X147.here hx (hb hby d7_28) rfl rfl ?_
    refine y_iload X147.here hx (hb hby d7_29) rfl ?_
    refine X147.iaload hx (j := (0 : Int32)) (v := (.int x0)) (by rw [e147]; exact Ar151.1) (State.isArrayOf_alike hZ.alike Ar151.2.1) Ar151.2.2 hin151 hat151 (g := (mkF m 31 (lo7_3_1 a1 a2) [(.int (0 : Int32)), (.ref a2)])) rfl rfl (hb hby d7_31) _ ?_
    show Steps p.tables e below (T147.setTop (mkF m 32 (lo7_3_1 a1 a2) [(.int x0)])) _
    refine y_istore X147.here hx (hb hby d7_32) (l' := (lo7_3_2 a1 a2 x0)) rfl ?_
    refine y_iloadN X147.here hx (hb hby d7_34) rfl ?_
    refine y_iload X147.here hx (hb hby d7_35) rfl ?_
    refine y_ixor X147.here hx (hb hby d7_37) ?_
    refine X147.ldcInt hx hown (mvT hZ (ww hw 49 rfl)) (g := (mkF m 38 (lo7_3_2 a1 a2 x0) [(.int ((3 : Int32) ^^^ x0))])) rfl (hb hby d7_38) _ ?_
    show Steps p.tables e below (T147.setTop (mkF m 40 (lo7_3_2 a1 a2 x0) [(.int (-1640531535 : Int32)), (.int ((3 : Int32) ^^^ x0))])) _
    refine y_imul X147.here hx (hb hby d7_40) ?_
    refine y_istoreN X147.here hx (hb hby d7_41) (l' := (lo7_3_3 a1 a2 x0)) rfl ?_
    refine y_iloadN X147.here hx (hb hby d7_42) rfl ?_
    refine y_iloadN X147.here hx (hb hby d7_43) rfl ?_
    refine y_bipush X147.here hx (v := (15 : Int32)) (hb hby d7_44) rfl ?_
    refine y_iushr X147.here hx (hb hby d7_46) ?_
    refine y_ixor X147.here hx (hb hby d7_47) ?_
    refine y_istoreN X147.here hx (hb hby d7_48) (l' := (lo7_3_4 a1 a2 x0)) rfl ?_
    refine y_iinc X147.here hx (hb hby d7_49) rfl (l' := (lo7_3_5 a1 a2 x0)) rfl ?_
    refine y_goto X147.here hx (pc' := 21) (hb hby d7_52) (by decide) (by decide) ?_
    exact k
  obtain ⟨z153, hz153⟩ : ∃ z, z = ((((3 : Int32) ^^^ x0) * (-1640531535 : Int32)) ^^^ (((((3 : Int32) ^^^ x0) * (-1640531535 : Int32)).toUInt32 >>> ((15 : Int32) &&& 31).toUInt32).toInt32)) := ⟨_, rfl⟩
  rw [← hz153] at pre152
  obtain ⟨cl154, Ar154, q154, Sz154, Nn154, Hh154, Gg154⟩ := id V_a2
  have hin154 : ¬ ((1 : Int32) < 0 ∨ cl154.slots.size ≤ ((1 : Int32)).toNatClampNeg) := inb_of Sz154 ⟨by decide, by decide⟩
  have hat154 : cl154.slots[((1 : Int32)).toNatClampNeg]? = some (.int x1) := Hh154.at hin154 rfl
  have pre155 : ∀ t, Steps p.tables e below (T147.setTop (mkF m 21 #[.val (.ref a1), .val (.ref a2), .val (.int (((z153 ^^^ x1) * (-1640531535 : Int32)) ^^^ ((((z153 ^^^ x1) * (-1640531535 : Int32)).toUInt32 >>> ((15 : Int32) &&& 31).toUInt32).toInt32))), .val (.ref a2), .val (.int (3 : Int32)), .val (.int (2 : Int32)), .val (.int x1)] [])) t → Steps p.tables e below (s₁.setTop (entryFrame m #[(.ref a1), (.ref a2)] 7)) t := fun t k => by
    refine pre152 _ ?_
    refine y_iload X147.here hx (hb hby d7_21) rfl ?_
    refine y_iload X147.here hx (hb hby d7_23) rfl ?_
    refine y_icmpNo X147.here hx (hb hby d7_25) (tlt (by decide)).2.1 ?_
    refine y_aloadN X147.here hx (hb hby d7_28) rfl rfl ?_
    refine y_iload X147.here hx (hb hby d7_29) rfl ?_
    refine X147.iaload hx (j := (1 : Int32)) (v := (.int x1)) (by rw [e147]; exact Ar154.1) (State.isArrayOf_alike hZ.alike Ar154.2.1) Ar154.2.2 hin154 hat154 (g := (mkF m 31 (lo7_3_6 a1 a2 z153 x0) [(.int (1 : Int32)), (.ref a2)])) rfl rfl (hb hby d7_31) _ ?_
    show Steps p.tables e below (T147.setTop (mkF m 32 (lo7_3_6 a1 a2 z153 x0) [(.int x1)])) _
    refine y_istore X147.here hx (hb hby d7_32) (l' := (lo7_3_7 a1 a2 z153 x1)) rfl ?_
    refine y_iloadN X147.here hx (hb hby d7_34) rfl ?_
    refine y_iload X147.here hx (hb hby d7_35) rfl ?_
    refine y_ixor X147.here hx (hb hby d7_37) ?_
    refine X147.ldcInt hx hown (mvT hZ (ww hw 49 rfl)) (g := (mkF m 38 (lo7_3_7 a1 a2 z153 x1) [(.int (z153 ^^^ x1))])) rfl (hb hby d7_38) _ ?_
    show Steps p.tables e below (T147.setTop (mkF m 40 (lo7_3_7 a1 a2 z153 x1) [(.int (-1640531535 : Int32)), (.int (z153 ^^^ x1))])) _
    refine y_imul X147.here hx (hb hby d7_40) ?_
    refine y_istoreN X147.here hx (hb hby d7_41) (l' := (lo7_3_8 a1 a2 z153 x1)) rfl ?_
    refine y_iloadN X147.here hx (hb hby d7_42) rfl ?_
    refine y_iloadN X147.here hx (hb hby d7_43) rfl ?_
    refine y_bipush X147.here hx (v := (15 : Int32)) (hb hby d7_44) rfl ?_
    refine y_iushr X147.here hx (hb hby d7_46) ?_
    refine y_ixor X147.here hx (hb hby d7_47) ?_
    refine y_istoreN X147.here hx (hb hby d7_48) (l' := (lo7_3_9 a1 a2 z153 x1)) rfl ?_
    refine y_iinc X147.here hx (hb hby d7_49) rfl (l' := (lo7_3_10 a1 a2 z153 x1)) rfl ?_
    refine y_goto X147.here hx (pc' := 21) (hb hby d7_52) (by decide) (by decide) ?_
    exact k
  obtain ⟨z156, hz156⟩ : ∃ z, z = (((z153 ^^^ x1) * (-1640531535 : Int32)) ^^^ ((((z153 ^^^ x1) * (-1640531535 : Int32)).toUInt32 >>> ((15 : Int32) &&& 31).toUInt32).toInt32)) := ⟨_, rfl⟩
  rw [← hz156] at pre155
  obtain ⟨cl157, Ar157, q157, Sz157, Nn157, Hh157, Gg157⟩ := id V_a2
  have hin157 : ¬ ((2 : Int32) < 0 ∨ cl157.slots.size ≤ ((2 : Int32)).toNatClampNeg) := inb_of Sz157 ⟨by decide, by decide⟩
  have hat157 : cl157.slots[((2 : Int32)).toNatClampNeg]? = some (.int x2) := Hh157.at hin157 rfl
  have pre158 : ∀ t, Steps p.tables e below (T147.setTop (mkF m 21 #[.val (.ref a1), .val (.ref a2), .val (.int (((z156 ^^^ x2) * (-1640531535 : Int32)) ^^^ ((((z156 ^^^ x2) * (-1640531535 : Int32)).toUInt32 >>> ((15 : Int32) &&& 31).toUInt32).toInt32))), .val (.ref a2), .val (.int (3 : Int32)), .val (.int (3 : Int32)), .val (.int x2)] [])) t → Steps p.tables e below (s₁.setTop (entryFrame m #[(.ref a1), (.ref a2)] 7)) t := fun t k => by
    refine pre155 _ ?_
    refine y_iload X147.here hx (hb hby d7_21) rfl ?_
    refine y_iload X147.here hx (hb hby d7_23) rfl ?_
    refine y_icmpNo X147.here hx (hb hby d7_25) (tlt (by decide)).2.1 ?_
    refine y_aloadN X147.here hx (hb hby d7_28) rfl rfl ?_
    refine y_iload X147.here hx (hb hby d7_29) rfl ?_
    refine X147.iaload hx (j := (2 : Int32)) (v := (.int x2)) (by rw [e147]; exact Ar157.1) (State.isArrayOf_alike hZ.alike Ar157.2.1) Ar157.2.2 hin157 hat157 (g := (mkF m 31 (lo7_3_11 a1 a2 z156 x1) [(.int (2 : Int32)), (.ref a2)])) rfl rfl (hb hby d7_31) _ ?_
    show Steps p.tables e below (T147.setTop (mkF m 32 (lo7_3_11 a1 a2 z156 x1) [(.int x2)])) _
    refine y_istore X147.here hx (hb hby d7_32) (l' := (lo7_3_12 a1 a2 z156 x2)) rfl ?_
    refine y_iloadN X147.here hx (hb hby d7_34) rfl ?_
    refine y_iload X147.here hx (hb hby d7_35) rfl ?_
    refine y_ixor X147.here hx (hb hby d7_37) ?_
    refine X147.ldcInt hx hown (mvT hZ (ww hw 49 rfl)) (g := (mkF m 38 (lo7_3_12 a1 a2 z156 x2) [(.int (z156 ^^^ x2))])) rfl (hb hby d7_38) _ ?_
    show Steps p.tables e below (T147.setTop (mkF m 40 (lo7_3_12 a1 a2 z156 x2) [(.int (-1640531535 : Int32)), (.int (z156 ^^^ x2))])) _
    refine y_imul X147.here hx (hb hby d7_40) ?_
    refine y_istoreN X147.here hx (hb hby d7_41) (l' := (lo7_3_13 a1 a2 z156 x2)) rfl ?_
    refine y_iloadN X147.here hx (hb hby d7_42) rfl ?_
    refine y_iloadN X147.here hx (hb hby d7_43) rfl ?_
    refine y_bipush X147.here hx (v := (15 : Int32)) (hb hby d7_44) rfl ?_
    refine y_iushr X147.here hx (hb hby d7_46) ?_
    refine y_ixor X147.here hx (hb hby d7_47) ?_
    refine y_istoreN X147.here hx (hb hby d7_48) (l' := (lo7_3_14 a1 a2 z156 x2)) rfl ?_
    refine y_iinc X147.here hx (hb hby d7_49) rfl (l' := (lo7_3_15 a1 a2 z156 x2)) rfl ?_
    refine y_goto X147.here hx (pc' := 21) (hb hby d7_52) (by decide) (by decide) ?_
    exact k
  obtain ⟨z159, hz159⟩ : ∃ z, z = (((z156 ^^^ x2) * (-1640531535 : Int32)) ^^^ ((((z156 ^^^ x2) * (-1640531535 : Int32)).toUInt32 >>> ((15 : Int32) &&& 31).toUInt32).toInt32)) := ⟨_, rfl⟩
  rw [← hz159] at pre158
  obtain ⟨T160, h160, X160, e160, W160, st160⟩ := putF X147 hx hZ hown (host := "") (Or.inl (ww hw 50 rfl)) Via.refl e147 F_hash_a1 E_a1 (Or.inr ⟨(ww hw 51 rfl), rfl, hnm⟩) (ww hw 32 rfl) (ty := .int) (by decide) rfl rfl (g := (mkF m 57 (lo7_3_16 a1 a2 z159 x2) [(.int z159), (.ref a1)])) rfl rfl (hb hby d7_57)
  replace E_a1 := E_a1.wr W160
  replace F_numbers_a1 := F_numbers_a1.other W160 (Or.inr (slot_ne (Or.inr (ww hw 48 rfl)) (Or.inr (ww hw 51 rfl)) (by decide) (t := (.array .int)) (t' := .int) (by decide) (by decide)))
  replace F_hash_a1 := F_hash_a1.same W160
  replace V_a2 := V_a2.other W160 (Ne.symm ne_a1_a2)
  replace Z0 := Nat.le_trans Z0 (Keep.of_wr W160).1
  replace KK := KK.wr W160 (Or.inl (List.mem_of_getElem? (i := 0) rfl))
  have N160 := Fr.snoc X160 N147 g_a1
  obtain ⟨fs, hr, hrun, hended, hW, hsame⟩ := X160.leave (v := none) (fun _ => rfl)
  refine ⟨_, _, pre158 _ ?_, hrun, hended, _, _, rfl, ?_, ⟨_, rfl⟩, hW, hsame.mono (by decide) (by decide)⟩
  · refine y_iload X147.here hx (hb hby d7_21) rfl ?_
    refine y_iload X147.here hx (hb hby d7_23) rfl ?_
    refine y_icmpYes X147.here hx (pc' := 55) (hb hby d7_25) (flt (by decide)).2.1 (by decide) (by decide) ?_
    refine y_aloadN X147.here hx (hb hby d7_55) rfl rfl ?_
    refine y_iloadN X147.here hx (hb hby d7_56) rfl ?_
    refine st160 _ ?_
    show Steps p.tables e below (T160.setTop (mkF m 60 (lo7_3_16 a1 a2 z159 x2) [])) _
    exact X160.returnOut hx Bd.returns (hb hby d7_60) hr
  · show QI Z a1 a2 h0 n0 _ T160.heap _
    rw [e160]
    exact ⟨rfl, N160, KK, F_numbers_a1⟩
set_option maxRecDepth 65536 in
set_option maxHeartbeats 40000000 in
theorem rm5_3 (l : Launch) (Z : State) (a0 : Array Value) (hw : ∀ d ∈ tables_1, d.before a0 Z = true) (ws : List Jvm.Cond) (a1 : Addr) (aA : Addr) (kA : ClassId) (x0 : Int32) (x1 : Int32) (x2 : Int32) (h0 : Heap) (n0 : Nat) (Z0 : n0 ≤ h0.size) (E_a1 : Exa Z h0 a1 "com/example/hard_delay_bounds/harddelaybounds/analysis/FlowSet$Builder") (F_numbers_a1 : Fld Z h0 a1 "com/example/hard_delay_bounds/harddelaybounds/analysis/FlowSet$Builder" "numbers" "[I" (.ref aA)) (F_size_a1 : Fld Z h0 a1 "com/example/hard_delay_bounds/harddelaybounds/analysis/FlowSet$Builder" "size" "I" (.int (3 : Int32))) (E_aA : Exa Z h0 aA "[I") (V_aA : Arv Z h0 aA kA .int (4 : Int32) [(.int x0), (.int x1), (.int x2), (.int (0 : Int32))] (.int (0 : Int32))) (ne_a1_aA : a1 ≠ aA) :
    MetFree l mn5 (head1 (Jvm.Cond.code mn5 prog_19_method_3_code 1 (some (.object "com/example/hard_delay_bounds/harddelaybounds/analysis/FlowSet")) :: ws) ({ frames := 2, cells := 2, slots := 5, locals := 34 } : Room)) (fun a U => a = #[(.ref a1)] ∧ Z.Warmed39 U.vm ∧ U.heap = h0) (fun _ _ _ _ _ => True) (fun _ U o U' => ∃ v L, o = .returned v ∧ QS Z (3 : Int32) [(.int x0), (.int x1), (.int x2)] h0 n0 v U'.heap L ∧ FrameEnd U o U' L ({ frames := 2, cells := 2, slots := 5, locals := 34 } : Room).cells ({ frames := 2, cells := 2, slots := 5, locals := 34 } : Room).slots) := by
  refine MetFree.of_bodySF (plainFor_of_name pn_2) hisR ?_
  intro p e s m args below meth c s₁ Bd hml0 hP hK
  obtain ⟨rfl, hZ, hh⟩ := hP
  have hx := Bd.exec
  have hby := Bd.bytes
  have hml : c.maxLocals = 1 := hml0
  have hown : s.vm.findClass "com/example/hard_delay_bounds/harddelaybounds/analysis/FlowSet$Builder" = some m.cls := findClass_of_methodNamed Bd.named
  have hnm := (name_of_methodNamed Bd.named Bd.method).1
  have X0 : Stand p l e ({ frames := 2, cells := 2, slots := 5, locals := 34 } : Room) s m #[(.ref a1)] below meth c s₁ [] 0 0 := Stand.of_body Bd
  have e0 : s₁.heap = h0 := by rw [← hh, Bd.state]; rfl
  have N0 := Fr.nil n0
  have pre0 : ∀ t, Steps p.tables e below (s₁.setTop (mkF m 0 #[.val (.ref a1)] [])) t → Steps p.tables e below (s₁.setTop (entryFrame m #[(.ref a1)] 1)) t := fun t k => castTop (ef_5 m a1) k
  have KK := Keep.refl h0 []
  obtain ⟨T161, h161, X161, e161, E161, A161, D161, -, st161⟩ := newO X0 hx hZ hown (ww hw 31 rfl) (ww hw 32 rfl) (ww hw 33 rfl) e0 (g := (mkF m 0 #[.val (.ref a1)] [])) rfl (hb hby d5_0) (by decide) (by decide)
  obtain ⟨b161, g161⟩ : ∃ z, z = h0.size := ⟨_, rfl⟩
  rw [← g161] at A161 D161 st161
  have g_b161 : n0 ≤ b161 := Nat.le_trans Z0 (Nat.le_of_eq g161.symm)
  have sz_b161 : h0.size ≤ b161 := Nat.le_trans KK.1 (Nat.le_of_eq g161.symm)
  have ne_a1_b161 : a1 ≠ b161 := Nat.ne_of_lt (Nat.lt_of_lt_of_le E_a1.lt (Nat.le_of_eq g161.symm))
  have ne_aA_b161 : aA ≠ b161 := Nat.ne_of_lt (Nat.lt_of_lt_of_le E_aA.lt (Nat.le_of_eq g161.symm))
  replace E_a1 := E_a1.ext E161
  replace F_numbers_a1 := F_numbers_a1.ext E161
  replace F_size_a1 := F_size_a1.ext E161
  replace E_aA := E_aA.ext E161
  replace V_aA := V_aA.ext E161
  replace Z0 := Nat.le_trans Z0 E161.1
  replace KK := KK.ext E161
  have E_b161 := A161
  have F_numbers_b161 : Fld Z h161 b161 "com/example/hard_delay_bounds/harddelaybounds/analysis/FlowSet" "numbers" "[I" .null := D161 (Or.inr (ww hw 48 rfl)) (ty := (.array .int)) (by decide)
  have F_hash_b161 : Fld Z h161 b161 "com/example/hard_delay_bounds/harddelaybounds/analysis/FlowSet" "hash" "I" (.int (0 : Int32)) := D161 (Or.inr (ww hw 51 rfl)) (ty := .int) (by decide)
  obtain ⟨T162, X162, e162, st162⟩ := getF X161 hx hZ hown (host := "") (Or.inl (ww hw 17 rfl)) Via.refl e161 F_numbers_a1 (g := (mkF m 5 #[.val (.ref a1)] [(.ref a1), (.ref b161), (.ref b161)])) rfl rfl (hb hby d5_5)
  obtain ⟨T163, X163, e163, st163⟩ := getF X162 hx hZ hown (host := "") (Or.inl (ww hw 24 rfl)) Via.refl e162 F_size_a1 (g := (mkF m 9 #[.val (.ref a1)] [(.ref a1), (.ref aA), (.ref b161), (.ref b161)])) rfl rfl (hb hby d5_9)
  obtain ⟨_, _, ⟨T164, L164, k164, n164⟩, -, X164, ⟨Lc164, hQ164, l164, y164, z164⟩, st164⟩ := Jvm.LawKit.callS X163 hx (y := mn3) hown (mvT hZ (ww hw 34 rfl)) (mvT hZ (ww hw 35 rfl)) (mvT hZ (ww hw 36 rfl)) (mvT hZ (ww hw 37 rfl)) (by decide) (backOf (W := 2) (rm6_4_3_3 l Z a0 hw [] aA kA x0 x1 x2 h161 n0 Z0 E_aA V_aA) hZ (ww hw 37 rfl) (ww hw 36 rfl) (by decide) (by decide)) (g := (mkF m 12 #[.val (.ref a1)] [(.int (3 : Int32)), (.ref aA), (.ref b161), (.ref b161)])) rfl (by rw [hml]; rfl) (argsL := [(.ref aA), (.int (3 : Int32))]) (rest := [(.ref b161), (.ref b161)]) (lenOf pd_1 rfl) rfl (by show 2 * 0 + _ ≤ _; exact Nat.le_of_eq rfl) (hb hby d5_12) (fun _ _ => ⟨rfl, e163, (by decide : 1 + 1 ≤ _), (by decide : 2 + 3 ≤ _)⟩)
  dsimp only [Pt.U, Pt.locs, Pt.cells, Pt.slots] at X164 l164 y164 z164 st164 hQ164
  subst l164 y164 z164
  obtain ⟨h164, e164⟩ : ∃ z, T164.heap = z := ⟨_, rfl⟩
  rw [e164] at hQ164
  obtain ⟨b164, k164, rfl, N164q, K164, s164, Vn164, En164⟩ := hQ164
  have g_b164 : n0 ≤ b164 := Nat.le_trans Z0 s164
  have sz_b164 : h0.size ≤ b164 := Nat.le_trans KK.1 s164
  have ne_a1_b164 : a1 ≠ b164 := Nat.ne_of_lt (Nat.lt_of_lt_of_le E_a1.lt s164)
  have ne_aA_b164 : aA ≠ b164 := Nat.ne_of_lt (Nat.lt_of_lt_of_le E_aA.lt s164)
  have ne_b161_b164 : b161 ≠ b164 := Nat.ne_of_lt (Nat.lt_of_lt_of_le E_b161.lt s164)
  replace E_a1 := E_a1.keep K164
  replace F_numbers_a1 := F_numbers_a1.keep K164 nin0
  replace F_size_a1 := F_size_a1.keep K164 nin0
  replace E_aA := E_aA.keep K164
  replace V_aA := V_aA.keep K164 nin0
  replace E_b161 := E_b161.keep K164
  replace F_numbers_b161 := F_numbers_b161.keep K164 nin0
  replace F_hash_b161 := F_hash_b161.keep K164 nin0
  replace Z0 := Nat.le_trans Z0 K164.1
  replace KK := KK.trans K164 all0
  have V_b164 : Arv Z h164 b164 k164 .int (3 : Int32) [(.int x0), (.int x1), (.int x2)] (.int (0 : Int32)) := Vn164
  have E_b164 := En164
  have N164 := Fr.app N0 N164q
  obtain ⟨_, _, ⟨T165, L165, k165, n165⟩, -, X165, ⟨Lc165, hQ165, l165, y165, z165⟩, st165⟩ := X164.specialBackNest hx (y := mn4) rfl hown (own_mvMN hZ (ww hw 43 rfl)) (mvT hZ (ww hw 44 rfl)) (mvT hZ (ww hw 45 rfl)) (by decide) (backOf (W := 1) (rm7_3 l Z a0 hw [] b161 b164 k164 x0 x1 x2 h164 n0 Z0 E_b161 F_numbers_b161 F_hash_b161 V_b164 g_b161 ne_b161_b164) hZ (ww hw 45 rfl) (ww hw 33 rfl) (by decide) (by decide)) (g := (mkF m 15 #[.val (.ref a1)] [(.ref b164), (.ref b161), (.ref b161)])) rfl (by rw [hml]; rfl) (Steps.refl _) (a := b161) (argsL := [(.ref b164)]) (rest := [(.ref b161)]) (lenOf pd_2 rfl) rfl (by show 2 * 0 + _ ≤ _; exact Nat.le_of_eq rfl) (hb hby d5_15) (fun _ _ => ⟨rfl, e164, (by decide : 2 + 0 ≤ _), (by decide : 5 + 0 ≤ _)⟩)
  dsimp only [Pt.U, Pt.locs, Pt.cells, Pt.slots] at X165 l165 y165 z165 st165 hQ165
  subst l165 y165 z165
  obtain ⟨h165, e165⟩ : ∃ z, T165.heap = z := ⟨_, rfl⟩
  rw [e165] at hQ165
  obtain ⟨rfl, N165q, K165, Fn165⟩ := hQ165
  replace E_a1 := E_a1.keep K165
  replace F_numbers_a1 := F_numbers_a1.keep K165 (ninS ne_a1_b161 nin0)
  replace F_size_a1 := F_size_a1.keep K165 (ninS ne_a1_b161 nin0)
  replace E_aA := E_aA.keep K165
  replace V_aA := V_aA.keep K165 (ninS ne_aA_b161 nin0)
  replace E_b161 := E_b161.keep K165
  replace V_b164 := V_b164.keep K165 (ninS (Ne.symm ne_b161_b164) nin0)
  replace E_b164 := E_b164.keep K165
  replace Z0 := Nat.le_trans Z0 K165.1
  replace KK := KK.trans K165 (allS (Or.inr sz_b161) all0)
  have F_numbers_b161 := Fn165
  have N165 := Fr.app N164 N165q
  obtain ⟨fs, hr, hrun, hended, hW, hsame⟩ := X165.leave (v := some (.ref b161)) (fun h => by rw [Bd.returns] at h; cases h)
  refine ⟨_, _, pre0 _ ?_, hrun, hended, _, _, rfl, ?_, ⟨_, rfl⟩, hW, hsame.mono (by decide) (by decide)⟩
  · refine st161 _ ?_
    show Steps p.tables e below (T161.setTop (mkF m 3 #[.val (.ref a1)] [(.ref b161)])) _
    refine y_dup X161.here hx (hb hby d5_3) rfl ?_
    refine y_aloadN X161.here hx (hb hby d5_4) rfl rfl ?_
    refine st162 _ ?_
    show Steps p.tables e below (T162.setTop (mkF m 8 #[.val (.ref a1)] [(.ref aA), (.ref b161), (.ref b161)])) _
    refine y_aloadN X162.here hx (hb hby d5_8) rfl rfl ?_
    refine st163 _ ?_
    show Steps p.tables e below (T163.setTop (mkF m 12 #[.val (.ref a1)] [(.int (3 : Int32)), (.ref aA), (.ref b161), (.ref b161)])) _
    refine st164 _ ?_
    show Steps p.tables e below (T164.setTop (mkF m 15 #[.val (.ref a1)] [(.ref b164), (.ref b161), (.ref b161)])) _
    refine st165.trans ?_
    show Steps p.tables e below (T165.setTop (mkF m 18 #[.val (.ref a1)] [(.ref b161)])) _
    jvm_step X165.here [X165.here.top, hx, (hb hby d5_18), X165.method', Bd.returns, Value.isRef, FieldType.isReference]
    first | (intro acts; rw [hr _ acts rfl rfl rfl]) | rw [hr _ _ rfl rfl rfl]
    exact Steps.refl _
  · show QS Z (3 : Int32) [(.int x0), (.int x1), (.int x2)] h0 n0 _ T165.heap _
    rw [e165]
    exact ⟨b161, b164, _, rfl, N165, KK, sz_b161, sz_b164, E_b161, F_numbers_b161, V_b164⟩
set_option maxRecDepth 65536 in
set_option maxHeartbeats 40000000 in
theorem rm8_3 (l : Launch) (Z : State) (a0 : Array Value) (hw : ∀ d ∈ tables_1, d.before a0 Z = true) (ws : List Jvm.Cond) (a1 : Addr) (aB : Addr) (kB : ClassId) (x0 : Int32) (x1 : Int32) (x2 : Int32) (h0 : Heap) (n0 : Nat) (Z0 : n0 ≤ h0.size) (F_numbers_a1 : Fld Z h0 a1 "com/example/hard_delay_bounds/harddelaybounds/analysis/FlowSet" "numbers" "[I" (.ref aB)) (V_aB : Arv Z h0 aB kB .int (3 : Int32) [(.int x0), (.int x1), (.int x2)] (.int (0 : Int32))) :
    MetFree l mn6 (head1 (Jvm.Cond.code mn6 prog_18_method_2_code 1 (some .int) :: ws) ({ frames := 0, cells := 0, slots := 0, locals := 0 } : Room)) (fun a U => a = #[(.ref a1)] ∧ Z.Warmed39 U.vm ∧ U.heap = h0) (fun _ _ _ _ _ => True) (fun _ U o U' => ∃ v L, o = .returned v ∧ QP (some (.int (3 : Int32))) h0 n0 v U'.heap L ∧ FrameEnd U o U' L ({ frames := 0, cells := 0, slots := 0, locals := 0 } : Room).cells ({ frames := 0, cells := 0, slots := 0, locals := 0 } : Room).slots) := by
  refine MetFree.of_bodySF (plainFor_of_name pn_7) hisR ?_
  intro p e s m args below meth c s₁ Bd hml0 hP hK
  obtain ⟨rfl, hZ, hh⟩ := hP
  have hx := Bd.exec
  have hby := Bd.bytes
  have hml : c.maxLocals = 1 := hml0
  have hown : s.vm.findClass "com/example/hard_delay_bounds/harddelaybounds/analysis/FlowSet" = some m.cls := findClass_of_methodNamed Bd.named
  have hnm := (name_of_methodNamed Bd.named Bd.method).1
  have X0 : Stand p l e ({ frames := 0, cells := 0, slots := 0, locals := 0 } : Room) s m #[(.ref a1)] below meth c s₁ [] 0 0 := Stand.of_body Bd
  have e0 : s₁.heap = h0 := by rw [← hh, Bd.state]; rfl
  have N0 := Fr.nil n0
  have pre0 : ∀ t, Steps p.tables e below (s₁.setTop (mkF m 0 #[.val (.ref a1)] [])) t → Steps p.tables e below (s₁.setTop (entryFrame m #[(.ref a1)] 1)) t := fun t k => castTop (ef_8 m a1) k
  obtain ⟨T166, X166, e166, st166⟩ := getF X0 hx hZ hown (host := "") (Or.inl (ww hw 47 rfl)) Via.refl e0 F_numbers_a1 (g := (mkF m 1 #[.val (.ref a1)] [(.ref a1)])) rfl rfl (hb hby d8_1)
  obtain ⟨cl167, Ar167, q167, Sz167, Nn167, Hh167, Gg167⟩ := id V_aB
  obtain ⟨fs, hr, hrun, hended, hW, hsame⟩ := X166.leave (v := some (.int (3 : Int32))) (fun h => by rw [Bd.returns] at h; cases h)
  refine ⟨_, _, pre0 _ ?_, hrun, hended, _, _, rfl, ?_, ⟨_, rfl⟩, hW, hsame.mono (by decide) (by decide)⟩
  · refine y_aloadN X0.here hx (hb hby d8_0) rfl rfl ?_
    refine st166 _ ?_
    show Steps p.tables e below (T166.setTop (mkF m 4 #[.val (.ref a1)] [(.ref aB)])) _
    refine X166.arraylength hx (by rw [e166]; exact Ar167.1) (State.isArrayOf_alike hZ.alike Ar167.2.1) (g := (mkF m 4 #[.val (.ref a1)] [(.ref aB)])) rfl rfl (hb hby d8_4) _ ?_
    rw [len_of Sz167 Nn167]
    show Steps p.tables e below (T166.setTop (mkF m 5 #[.val (.ref a1)] [(.int (3 : Int32))])) _
    exact retI X166 hx Bd.returns (hb hby d8_5) hr
  · show QP _ h0 n0 _ T166.heap _
    rw [e166]
    exact ⟨rfl, N0, rfl⟩
set_option maxRecDepth 65536 in
set_option maxHeartbeats 40000000 in
theorem rm9_3_0 (l : Launch) (Z : State) (a0 : Array Value) (hw : ∀ d ∈ tables_1, d.before a0 Z = true) (ws : List Jvm.Cond) (a1 : Addr) (aB : Addr) (kB : ClassId) (x0 : Int32) (x1 : Int32) (x2 : Int32) (h0 : Heap) (n0 : Nat) (Z0 : n0 ≤ h0.size) (F_numbers_a1 : Fld Z h0 a1 "com/example/hard_delay_bounds/harddelaybounds/analysis/FlowSet" "numbers" "[I" (.ref aB)) (V_aB : Arv Z h0 aB kB .int (3 : Int32) [(.int x0), (.int x1), (.int x2)] (.int (0 : Int32))) :
    MetFree l mn7 (head1 (Jvm.Cond.code mn7 prog_18_method_3_code 2 (some .int) :: ws) ({ frames := 0, cells := 0, slots := 0, locals := 0 } : Room)) (fun a U => a = #[(.ref a1), (.int (0 : Int32))] ∧ Z.Warmed39 U.vm ∧ U.heap = h0) (fun _ _ _ _ _ => True) (fun _ U o U' => ∃ v L, o = .returned v ∧ QP (some (.int x0)) h0 n0 v U'.heap L ∧ FrameEnd U o U' L ({ frames := 0, cells := 0, slots := 0, locals := 0 } : Room).cells ({ frames := 0, cells := 0, slots := 0, locals := 0 } : Room).slots) := by
  refine MetFree.of_bodySF (plainFor_of_name pn_7) hisR ?_
  intro p e s m args below meth c s₁ Bd hml0 hP hK
  obtain ⟨rfl, hZ, hh⟩ := hP
  have hx := Bd.exec
  have hby := Bd.bytes
  have hml : c.maxLocals = 2 := hml0
  have hown : s.vm.findClass "com/example/hard_delay_bounds/harddelaybounds/analysis/FlowSet" = some m.cls := findClass_of_methodNamed Bd.named
  have hnm := (name_of_methodNamed Bd.named Bd.method).1
  have X0 : Stand p l e ({ frames := 0, cells := 0, slots := 0, locals := 0 } : Room) s m #[(.ref a1), (.int (0 : Int32))] below meth c s₁ [] 0 0 := Stand.of_body Bd
  have e0 : s₁.heap = h0 := by rw [← hh, Bd.state]; rfl
  have N0 := Fr.nil n0
  have pre0 : ∀ t, Steps p.tables e below (s₁.setTop (mkF m 0 #[.val (.ref a1), .val (.int (0 : Int32))] [])) t → Steps p.tables e below (s₁.setTop (entryFrame m #[(.ref a1), (.int (0 : Int32))] 2)) t := fun t k => castTop (ef_9 m a1 (0 : Int32)) k
  obtain ⟨T168, X168, e168, st168⟩ := getF X0 hx hZ hown (host := "") (Or.inl (ww hw 47 rfl)) Via.refl e0 F_numbers_a1 (g := (mkF m 1 #[.val (.ref a1), .val (.int (0 : Int32))] [(.ref a1)])) rfl rfl (hb hby d9_1)
  obtain ⟨cl169, Ar169, q169, Sz169, Nn169, Hh169, Gg169⟩ := id V_aB
  have hin169 : ¬ ((0 : Int32) < 0 ∨ cl169.slots.size ≤ ((0 : Int32)).toNatClampNeg) := inb_of Sz169 ⟨by decide, by decide⟩
  have hat169 : cl169.slots[((0 : Int32)).toNatClampNeg]? = some (.int x0) := Hh169.at hin169 rfl
  obtain ⟨fs, hr, hrun, hended, hW, hsame⟩ := X168.leave (v := some (.int x0)) (fun h => by rw [Bd.returns] at h; cases h)
  refine ⟨_, _, pre0 _ ?_, hrun, hended, _, _, rfl, ?_, ⟨_, rfl⟩, hW, hsame.mono (by decide) (by decide)⟩
  · refine y_aloadN X0.here hx (hb hby d9_0) rfl rfl ?_
    refine st168 _ ?_
    show Steps p.tables e below (T168.setTop (mkF m 4 #[.val (.ref a1), .val (.int (0 : Int32))] [(.ref aB)])) _
    refine y_iloadN X168.here hx (hb hby d9_4) rfl ?_
    refine X168.iaload hx (j := (0 : Int32)) (v := (.int x0)) (by rw [e168]; exact Ar169.1) (State.isArrayOf_alike hZ.alike Ar169.2.1) Ar169.2.2 hin169 hat169 (g := (mkF m 5 #[.val (.ref a1), .val (.int (0 : Int32))] [(.int (0 : Int32)), (.ref aB)])) rfl rfl (hb hby d9_5) _ ?_
    show Steps p.tables e below (T168.setTop (mkF m 6 #[.val (.ref a1), .val (.int (0 : Int32))] [(.int x0)])) _
    exact retI X168 hx Bd.returns (hb hby d9_6) hr
  · show QP _ h0 n0 _ T168.heap _
    rw [e168]
    exact ⟨rfl, N0, rfl⟩
set_option maxRecDepth 65536 in
set_option maxHeartbeats 40000000 in
theorem rm9_3_1 (l : Launch) (Z : State) (a0 : Array Value) (hw : ∀ d ∈ tables_1, d.before a0 Z = true) (ws : List Jvm.Cond) (a1 : Addr) (aB : Addr) (kB : ClassId) (x0 : Int32) (x1 : Int32) (x2 : Int32) (h0 : Heap) (n0 : Nat) (Z0 : n0 ≤ h0.size) (F_numbers_a1 : Fld Z h0 a1 "com/example/hard_delay_bounds/harddelaybounds/analysis/FlowSet" "numbers" "[I" (.ref aB)) (V_aB : Arv Z h0 aB kB .int (3 : Int32) [(.int x0), (.int x1), (.int x2)] (.int (0 : Int32))) :
    MetFree l mn7 (head1 (Jvm.Cond.code mn7 prog_18_method_3_code 2 (some .int) :: ws) ({ frames := 0, cells := 0, slots := 0, locals := 0 } : Room)) (fun a U => a = #[(.ref a1), (.int (1 : Int32))] ∧ Z.Warmed39 U.vm ∧ U.heap = h0) (fun _ _ _ _ _ => True) (fun _ U o U' => ∃ v L, o = .returned v ∧ QP (some (.int x1)) h0 n0 v U'.heap L ∧ FrameEnd U o U' L ({ frames := 0, cells := 0, slots := 0, locals := 0 } : Room).cells ({ frames := 0, cells := 0, slots := 0, locals := 0 } : Room).slots) := by
  refine MetFree.of_bodySF (plainFor_of_name pn_7) hisR ?_
  intro p e s m args below meth c s₁ Bd hml0 hP hK
  obtain ⟨rfl, hZ, hh⟩ := hP
  have hx := Bd.exec
  have hby := Bd.bytes
  have hml : c.maxLocals = 2 := hml0
  have hown : s.vm.findClass "com/example/hard_delay_bounds/harddelaybounds/analysis/FlowSet" = some m.cls := findClass_of_methodNamed Bd.named
  have hnm := (name_of_methodNamed Bd.named Bd.method).1
  have X0 : Stand p l e ({ frames := 0, cells := 0, slots := 0, locals := 0 } : Room) s m #[(.ref a1), (.int (1 : Int32))] below meth c s₁ [] 0 0 := Stand.of_body Bd
  have e0 : s₁.heap = h0 := by rw [← hh, Bd.state]; rfl
  have N0 := Fr.nil n0
  have pre0 : ∀ t, Steps p.tables e below (s₁.setTop (mkF m 0 #[.val (.ref a1), .val (.int (1 : Int32))] [])) t → Steps p.tables e below (s₁.setTop (entryFrame m #[(.ref a1), (.int (1 : Int32))] 2)) t := fun t k => castTop (ef_9 m a1 (1 : Int32)) k
  obtain ⟨T170, X170, e170, st170⟩ := getF X0 hx hZ hown (host := "") (Or.inl (ww hw 47 rfl)) Via.refl e0 F_numbers_a1 (g := (mkF m 1 #[.val (.ref a1), .val (.int (1 : Int32))] [(.ref a1)])) rfl rfl (hb hby d9_1)
  obtain ⟨cl171, Ar171, q171, Sz171, Nn171, Hh171, Gg171⟩ := id V_aB
  have hin171 : ¬ ((1 : Int32) < 0 ∨ cl171.slots.size ≤ ((1 : Int32)).toNatClampNeg) := inb_of Sz171 ⟨by decide, by decide⟩
  have hat171 : cl171.slots[((1 : Int32)).toNatClampNeg]? = some (.int x1) := Hh171.at hin171 rfl
  obtain ⟨fs, hr, hrun, hended, hW, hsame⟩ := X170.leave (v := some (.int x1)) (fun h => by rw [Bd.returns] at h; cases h)
  refine ⟨_, _, pre0 _ ?_, hrun, hended, _, _, rfl, ?_, ⟨_, rfl⟩, hW, hsame.mono (by decide) (by decide)⟩
  · refine y_aloadN X0.here hx (hb hby d9_0) rfl rfl ?_
    refine st170 _ ?_
    show Steps p.tables e below (T170.setTop (mkF m 4 #[.val (.ref a1), .val (.int (1 : Int32))] [(.ref aB)])) _
    refine y_iloadN X170.here hx (hb hby d9_4) rfl ?_
    refine X170.iaload hx (j := (1 : Int32)) (v := (.int x1)) (by rw [e170]; exact Ar171.1) (State.isArrayOf_alike hZ.alike Ar171.2.1) Ar171.2.2 hin171 hat171 (g := (mkF m 5 #[.val (.ref a1), .val (.int (1 : Int32))] [(.int (1 : Int32)), (.ref aB)])) rfl rfl (hb hby d9_5) _ ?_
    show Steps p.tables e below (T170.setTop (mkF m 6 #[.val (.ref a1), .val (.int (1 : Int32))] [(.int x1)])) _
    exact retI X170 hx Bd.returns (hb hby d9_6) hr
  · show QP _ h0 n0 _ T170.heap _
    rw [e170]
    exact ⟨rfl, N0, rfl⟩
set_option maxRecDepth 65536 in
set_option maxHeartbeats 40000000 in
theorem rm9_3_2 (l : Launch) (Z : State) (a0 : Array Value) (hw : ∀ d ∈ tables_1, d.before a0 Z = true) (ws : List Jvm.Cond) (a1 : Addr) (aB : Addr) (kB : ClassId) (x0 : Int32) (x1 : Int32) (x2 : Int32) (h0 : Heap) (n0 : Nat) (Z0 : n0 ≤ h0.size) (F_numbers_a1 : Fld Z h0 a1 "com/example/hard_delay_bounds/harddelaybounds/analysis/FlowSet" "numbers" "[I" (.ref aB)) (V_aB : Arv Z h0 aB kB .int (3 : Int32) [(.int x0), (.int x1), (.int x2)] (.int (0 : Int32))) :
    MetFree l mn7 (head1 (Jvm.Cond.code mn7 prog_18_method_3_code 2 (some .int) :: ws) ({ frames := 0, cells := 0, slots := 0, locals := 0 } : Room)) (fun a U => a = #[(.ref a1), (.int (2 : Int32))] ∧ Z.Warmed39 U.vm ∧ U.heap = h0) (fun _ _ _ _ _ => True) (fun _ U o U' => ∃ v L, o = .returned v ∧ QP (some (.int x2)) h0 n0 v U'.heap L ∧ FrameEnd U o U' L ({ frames := 0, cells := 0, slots := 0, locals := 0 } : Room).cells ({ frames := 0, cells := 0, slots := 0, locals := 0 } : Room).slots) := by
  refine MetFree.of_bodySF (plainFor_of_name pn_7) hisR ?_
  intro p e s m args below meth c s₁ Bd hml0 hP hK
  obtain ⟨rfl, hZ, hh⟩ := hP
  have hx := Bd.exec
  have hby := Bd.bytes
  have hml : c.maxLocals = 2 := hml0
  have hown : s.vm.findClass "com/example/hard_delay_bounds/harddelaybounds/analysis/FlowSet" = some m.cls := findClass_of_methodNamed Bd.named
  have hnm := (name_of_methodNamed Bd.named Bd.method).1
  have X0 : Stand p l e ({ frames := 0, cells := 0, slots := 0, locals := 0 } : Room) s m #[(.ref a1), (.int (2 : Int32))] below meth c s₁ [] 0 0 := Stand.of_body Bd
  have e0 : s₁.heap = h0 := by rw [← hh, Bd.state]; rfl
  have N0 := Fr.nil n0
  have pre0 : ∀ t, Steps p.tables e below (s₁.setTop (mkF m 0 #[.val (.ref a1), .val (.int (2 : Int32))] [])) t → Steps p.tables e below (s₁.setTop (entryFrame m #[(.ref a1), (.int (2 : Int32))] 2)) t := fun t k => castTop (ef_9 m a1 (2 : Int32)) k
  obtain ⟨T172, X172, e172, st172⟩ := getF X0 hx hZ hown (host := "") (Or.inl (ww hw 47 rfl)) Via.refl e0 F_numbers_a1 (g := (mkF m 1 #[.val (.ref a1), .val (.int (2 : Int32))] [(.ref a1)])) rfl rfl (hb hby d9_1)
  obtain ⟨cl173, Ar173, q173, Sz173, Nn173, Hh173, Gg173⟩ := id V_aB
  have hin173 : ¬ ((2 : Int32) < 0 ∨ cl173.slots.size ≤ ((2 : Int32)).toNatClampNeg) := inb_of Sz173 ⟨by decide, by decide⟩
  have hat173 : cl173.slots[((2 : Int32)).toNatClampNeg]? = some (.int x2) := Hh173.at hin173 rfl
  obtain ⟨fs, hr, hrun, hended, hW, hsame⟩ := X172.leave (v := some (.int x2)) (fun h => by rw [Bd.returns] at h; cases h)
  refine ⟨_, _, pre0 _ ?_, hrun, hended, _, _, rfl, ?_, ⟨_, rfl⟩, hW, hsame.mono (by decide) (by decide)⟩
  · refine y_aloadN X0.here hx (hb hby d9_0) rfl rfl ?_
    refine st172 _ ?_
    show Steps p.tables e below (T172.setTop (mkF m 4 #[.val (.ref a1), .val (.int (2 : Int32))] [(.ref aB)])) _
    refine y_iloadN X172.here hx (hb hby d9_4) rfl ?_
    refine X172.iaload hx (j := (2 : Int32)) (v := (.int x2)) (by rw [e172]; exact Ar173.1) (State.isArrayOf_alike hZ.alike Ar173.2.1) Ar173.2.2 hin173 hat173 (g := (mkF m 5 #[.val (.ref a1), .val (.int (2 : Int32))] [(.int (2 : Int32)), (.ref aB)])) rfl rfl (hb hby d9_5) _ ?_
    show Steps p.tables e below (T172.setTop (mkF m 6 #[.val (.ref a1), .val (.int (2 : Int32))] [(.int x2)])) _
    exact retI X172 hx Bd.returns (hb hby d9_6) hr
  · show QP _ h0 n0 _ T172.heap _
    rw [e172]
    exact ⟨rfl, N0, rfl⟩
theorem d6_6 : decode jdk_65_method_123_code 6 = .ok (.aload_n 0, 1) := by decide +kernel
theorem d6_7 : decode jdk_65_method_123_code 7 = .ok (.invokevirtual 316, 3) := by decide +kernel
theorem d6_10 : decode jdk_65_method_123_code 10 = .ok (.checkcast 317, 3) := by decide +kernel
theorem d6_13 : decode jdk_65_method_123_code 13 = .ok (.areturn, 1) := by decide +kernel
set_option maxRecDepth 65536 in
set_option maxHeartbeats 40000000 in
theorem rm6_4_4_4 (l : Launch) (Z : State) (a0 : Array Value) (hw : ∀ d ∈ tables_1, d.before a0 Z = true) (ws : List Jvm.Cond) (a1 : Addr) (k1 : ClassId) (x0 : Int32) (x1 : Int32) (x2 : Int32) (x3 : Int32) (h0 : Heap) (n0 : Nat) (Z0 : n0 ≤ h0.size) (E_a1 : Exa Z h0 a1 "[I") (V_a1 : Arv Z h0 a1 k1 .int (4 : Int32) [(.int x0), (.int x1), (.int x2), (.int x3)] (.int (0 : Int32))) :
    MetFree l mn3 (head1 (Jvm.Cond.code mn3 jdk_65_method_123_code 3 (some (.array .int)) :: ws) ({ frames := 1, cells := 1, slots := 4, locals := 14 } : Room)) (fun a U => a = #[(.ref a1), (.int (4 : Int32))] ∧ Z.Warmed39 U.vm ∧ U.heap = h0) (fun _ _ _ _ _ => True) (fun _ U o U' => ∃ v L, o = .returned v ∧ QC Z (4 : Int32) [(.int x0), (.int x1), (.int x2), (.int x3)] h0 n0 v U'.heap L ∧ FrameEnd U o U' L ({ frames := 1, cells := 1, slots := 4, locals := 14 } : Room).cells ({ frames := 1, cells := 1, slots := 4, locals := 14 } : Room).slots) := by
  refine MetFree.of_bodySF (plainFor_of_name pn_6) hisR ?_
  intro p e s m args below meth c s₁ Bd hml0 hP hK
  obtain ⟨rfl, hZ, hh⟩ := hP
  have hx := Bd.exec
  have hby := Bd.bytes
  have hml : c.maxLocals = 3 := hml0
  have hown : s.vm.findClass "java/util/Arrays" = some m.cls := findClass_of_methodNamed Bd.named
  have hnm := (name_of_methodNamed Bd.named Bd.method).1
  have X0 : Stand p l e ({ frames := 1, cells := 1, slots := 4, locals := 14 } : Room) s m #[(.ref a1), (.int (4 : Int32))] below meth c s₁ [] 0 0 := Stand.of_body Bd
  have e0 : s₁.heap = h0 := by rw [← hh, Bd.state]; rfl
  have N0 := Fr.nil n0
  have pre0 : ∀ t, Steps p.tables e below (s₁.setTop (mkF m 0 #[.val (.ref a1), .val (.int (4 : Int32)), .unset] [])) t → Steps p.tables e below (s₁.setTop (entryFrame m #[(.ref a1), (.int (4 : Int32))] 3)) t := fun t k => castTop (ef_6 m a1 (4 : Int32)) k
  have KK := Keep.refl h0 []
  obtain ⟨cl174, Ar174, q174, Sz174, Nn174, Hh174, Gg174⟩ := id V_a1
  obtain ⟨T175, h175, X175, e175, E175, A175, Ex175, st175⟩ := cloneH X0 hx hZ hown (ww hw 62 rfl) (ww hw 63 rfl) (ww hw 67 rfl) (ww hw 65 rfl) (ww hw 66 rfl) (ww hw 68 rfl) e0 (Arv.arh V_a1) E_a1 (g := (mkF m 7 #[.val (.ref a1), .val (.int (4 : Int32)), .unset] [(.ref a1)])) rfl (by rw [hml]; rfl) rfl (hb hby d6_7) (by decide) (W := 0) (cap := 4) (by show 2 * 0 + _ ≤ _; exact Nat.le_of_eq rfl) (by decide) (by decide) (by decide) (by decide)
  obtain ⟨b175, g175⟩ : ∃ z, z = h0.size := ⟨_, rfl⟩
  rw [← g175] at A175 Ex175 st175
  have g_b175 : n0 ≤ b175 := Nat.le_trans Z0 (Nat.le_of_eq g175.symm)
  have sz_b175 : h0.size ≤ b175 := Nat.le_trans KK.1 (Nat.le_of_eq g175.symm)
  have ne_a1_b175 : a1 ≠ b175 := Nat.ne_of_lt (Nat.lt_of_lt_of_le E_a1.lt (Nat.le_of_eq g175.symm))
  replace E_a1 := E_a1.ext E175
  replace V_a1 := V_a1.ext E175
  replace Z0 := Nat.le_trans Z0 E175.1
  replace KK := KK.ext E175
  have V_b175 : Arv Z h175 b175 k1 .int (4 : Int32) [(.int x0), (.int x1), (.int x2), (.int x3)] (.int (0 : Int32)) := A175
  have E_b175 := Ex175
  obtain ⟨T176, X176, e176, st176⟩ := castY X175 hx hZ hown (ww hw 69 rfl) e175 (Ins.self E_b175) (g := (mkF m 10 #[.val (.ref a1), .val (.int (4 : Int32)), .unset] [(.ref b175)])) rfl rfl (hb hby d6_10)
  obtain ⟨fs, hr, hrun, hended, hW, hsame⟩ := X176.leave (v := some (.ref b175)) (fun h => by rw [Bd.returns] at h; cases h)
  refine ⟨_, _, pre0 _ ?_, hrun, hended, _, _, rfl, ?_, ⟨_, rfl⟩, hW, hsame.mono (by decide) (by decide)⟩
  · refine y_iloadN X0.here hx (hb hby d6_0) rfl ?_
    refine y_aloadN X0.here hx (hb hby d6_1) rfl rfl ?_
    refine X0.arraylength hx (by rw [e0]; exact Ar174.1) (State.isArrayOf_alike hZ.alike Ar174.2.1) (g := (mkF m 2 #[.val (.ref a1), .val (.int (4 : Int32)), .unset] [(.ref a1), (.int (4 : Int32))])) rfl rfl (hb hby d6_2) _ ?_
    rw [len_of Sz174 Nn174]
    show Steps p.tables e below (s₁.setTop (mkF m 3 #[.val (.ref a1), .val (.int (4 : Int32)), .unset] [(.int (4 : Int32)), (.int (4 : Int32))])) _
    refine y_icmpNo X0.here hx (hb hby d6_3) (teq rfl).2 ?_
    refine y_aloadN X0.here hx (hb hby d6_6) rfl rfl ?_
    refine st175 _ ?_
    show Steps p.tables e below (T175.setTop (mkF m 10 #[.val (.ref a1), .val (.int (4 : Int32)), .unset] [(.ref b175)])) _
    refine st176 _ ?_
    show Steps p.tables e below (T176.setTop (mkF m 13 #[.val (.ref a1), .val (.int (4 : Int32)), .unset] [(.ref b175)])) _
    jvm_step X176.here [X176.here.top, hx, (hb hby d6_13), X176.method', Bd.returns, Value.isRef, FieldType.isReference]
    first | (intro acts; rw [hr _ acts rfl rfl rfl]) | rw [hr _ _ rfl rfl rfl]
    exact Steps.refl _
  · show QC Z (4 : Int32) [(.int x0), (.int x1), (.int x2), (.int x3)] h0 n0 _ T176.heap _
    rw [e176]
    exact ⟨b175, _, rfl, N0, KK, sz_b175, V_b175, E_b175⟩
abbrev lo7_4_0 (a1 : Addr) (a2 : Addr) : Array Slot := #[.val (.ref a1), .val (.ref a2), .val (.int (4 : Int32)), .val (.ref a2), .val (.int (4 : Int32)), .unset, .unset]
abbrev lo7_4_1 (a1 : Addr) (a2 : Addr) : Array Slot := #[.val (.ref a1), .val (.ref a2), .val (.int (4 : Int32)), .val (.ref a2), .val (.int (4 : Int32)), .val (.int (0 : Int32)), .unset]
abbrev lo7_4_2 (a1 : Addr) (a2 : Addr) (x0 : Int32) : Array Slot := #[.val (.ref a1), .val (.ref a2), .val (.int (4 : Int32)), .val (.ref a2), .val (.int (4 : Int32)), .val (.int (0 : Int32)), .val (.int x0)]
abbrev lo7_4_3 (a1 : Addr) (a2 : Addr) (x0 : Int32) : Array Slot := #[.val (.ref a1), .val (.ref a2), .val (.int (((4 : Int32) ^^^ x0) * (-1640531535 : Int32))), .val (.ref a2), .val (.int (4 : Int32)), .val (.int (0 : Int32)), .val (.int x0)]
abbrev lo7_4_4 (a1 : Addr) (a2 : Addr) (x0 : Int32) : Array Slot := #[.val (.ref a1), .val (.ref a2), .val (.int ((((4 : Int32) ^^^ x0) * (-1640531535 : Int32)) ^^^ (((((4 : Int32) ^^^ x0) * (-1640531535 : Int32)).toUInt32 >>> ((15 : Int32) &&& 31).toUInt32).toInt32))), .val (.ref a2), .val (.int (4 : Int32)), .val (.int (0 : Int32)), .val (.int x0)]
abbrev lo7_4_5 (a1 : Addr) (a2 : Addr) (x0 : Int32) : Array Slot := #[.val (.ref a1), .val (.ref a2), .val (.int ((((4 : Int32) ^^^ x0) * (-1640531535 : Int32)) ^^^ (((((4 : Int32) ^^^ x0) * (-1640531535 : Int32)).toUInt32 >>> ((15 : Int32) &&& 31).toUInt32).toInt32))), .val (.ref a2), .val (.int (4 : Int32)), .val (.int (1 : Int32)), .val (.int x0)]
abbrev lo7_4_6 (a1 : Addr) (a2 : Addr) (z184 : Int32) (x0 : Int32) : Array Slot := #[.val (.ref a1), .val (.ref a2), .val (.int z184), .val (.ref a2), .val (.int (4 : Int32)), .val (.int (1 : Int32)), .val (.int x0)]
abbrev lo7_4_7 (a1 : Addr) (a2 : Addr) (z184 : Int32) (x1 : Int32) : Array Slot := #[.val (.ref a1), .val (.ref a2), .val (.int z184), .val (.ref a2), .val (.int (4 : Int32)), .val (.int (1 : Int32)), .val (.int x1)]
abbrev lo7_4_8 (a1 : Addr) (a2 : Addr) (z184 : Int32) (x1 : Int32) : Array Slot := #[.val (.ref a1), .val (.ref a2), .val (.int ((z184 ^^^ x1) * (-1640531535 : Int32))), .val (.ref a2), .val (.int (4 : Int32)), .val (.int (1 : Int32)), .val (.int x1)]
abbrev lo7_4_9 (a1 : Addr) (a2 : Addr) (z184 : Int32) (x1 : Int32) : Array Slot := #[.val (.ref a1), .val (.ref a2), .val (.int (((z184 ^^^ x1) * (-1640531535 : Int32)) ^^^ ((((z184 ^^^ x1) * (-1640531535 : Int32)).toUInt32 >>> ((15 : Int32) &&& 31).toUInt32).toInt32))), .val (.ref a2), .val (.int (4 : Int32)), .val (.int (1 : Int32)), .val (.int x1)]
abbrev lo7_4_10 (a1 : Addr) (a2 : Addr) (z184 : Int32) (x1 : Int32) : Array Slot := #[.val (.ref a1), .val (.ref a2), .val (.int (((z184 ^^^ x1) * (-1640531535 : Int32)) ^^^ ((((z184 ^^^ x1) * (-1640531535 : Int32)).toUInt32 >>> ((15 : Int32) &&& 31).toUInt32).toInt32))), .val (.ref a2), .val (.int (4 : Int32)), .val (.int (2 : Int32)), .val (.int x1)]
abbrev lo7_4_11 (a1 : Addr) (a2 : Addr) (z187 : Int32) (x1 : Int32) : Array Slot := #[.val (.ref a1), .val (.ref a2), .val (.int z187), .val (.ref a2), .val (.int (4 : Int32)), .val (.int (2 : Int32)), .val (.int x1)]
abbrev lo7_4_12 (a1 : Addr) (a2 : Addr) (z187 : Int32) (x2 : Int32) : Array Slot := #[.val (.ref a1), .val (.ref a2), .val (.int z187), .val (.ref a2), .val (.int (4 : Int32)), .val (.int (2 : Int32)), .val (.int x2)]
abbrev lo7_4_13 (a1 : Addr) (a2 : Addr) (z187 : Int32) (x2 : Int32) : Array Slot := #[.val (.ref a1), .val (.ref a2), .val (.int ((z187 ^^^ x2) * (-1640531535 : Int32))), .val (.ref a2), .val (.int (4 : Int32)), .val (.int (2 : Int32)), .val (.int x2)]
abbrev lo7_4_14 (a1 : Addr) (a2 : Addr) (z187 : Int32) (x2 : Int32) : Array Slot := #[.val (.ref a1), .val (.ref a2), .val (.int (((z187 ^^^ x2) * (-1640531535 : Int32)) ^^^ ((((z187 ^^^ x2) * (-1640531535 : Int32)).toUInt32 >>> ((15 : Int32) &&& 31).toUInt32).toInt32))), .val (.ref a2), .val (.int (4 : Int32)), .val (.int (2 : Int32)), .val (.int x2)]
abbrev lo7_4_15 (a1 : Addr) (a2 : Addr) (z187 : Int32) (x2 : Int32) : Array Slot := #[.val (.ref a1), .val (.ref a2), .val (.int (((z187 ^^^ x2) * (-1640531535 : Int32)) ^^^ ((((z187 ^^^ x2) * (-1640531535 : Int32)).toUInt32 >>> ((15 : Int32) &&& 31).toUInt32).toInt32))), .val (.ref a2), .val (.int (4 : Int32)), .val (.int (3 : Int32)), .val (.int x2)]
abbrev lo7_4_16 (a1 : Addr) (a2 : Addr) (z190 : Int32) (x2 : Int32) : Array Slot := #[.val (.ref a1), .val (.ref a2), .val (.int z190), .val (.ref a2), .val (.int (4 : Int32)), .val (.int (3 : Int32)), .val (.int x2)]
abbrev lo7_4_17 (a1 : Addr) (a2 : Addr) (z190 : Int32) (x3 : Int32) : Array Slot := #[.val (.ref a1), .val (.ref a2), .val (.int z190), .val (.ref a2), .val (.int (4 : Int32)), .val (.int (3 : Int32)), .val (.int x3)]
abbrev lo7_4_18 (a1 : Addr) (a2 : Addr) (z190 : Int32) (x3 : Int32) : Array Slot := #[.val (.ref a1), .val (.ref a2), .val (.int ((z190 ^^^ x3) * (-1640531535 : Int32))), .val (.ref a2), .val (.int (4 : Int32)), .val (.int (3 : Int32)), .val (.int x3)]
abbrev lo7_4_19 (a1 : Addr) (a2 : Addr) (z190 : Int32) (x3 : Int32) : Array Slot := #[.val (.ref a1), .val (.ref a2), .val (.int (((z190 ^^^ x3) * (-1640531535 : Int32)) ^^^ ((((z190 ^^^ x3) * (-1640531535 : Int32)).toUInt32 >>> ((15 : Int32) &&& 31).toUInt32).toInt32))), .val (.ref a2), .val (.int (4 : Int32)), .val (.int (3 : Int32)), .val (.int x3)]
abbrev lo7_4_20 (a1 : Addr) (a2 : Addr) (z190 : Int32) (x3 : Int32) : Array Slot := #[.val (.ref a1), .val (.ref a2), .val (.int (((z190 ^^^ x3) * (-1640531535 : Int32)) ^^^ ((((z190 ^^^ x3) * (-1640531535 : Int32)).toUInt32 >>> ((15 : Int32) &&& 31).toUInt32).toInt32))), .val (.ref a2), .val (.int (4 : Int32)), .val (.int (4 : Int32)), .val (.int x3)]
abbrev lo7_4_21 (a1 : Addr) (a2 : Addr) (z193 : Int32) (x3 : Int32) : Array Slot := #[.val (.ref a1), .val (.ref a2), .val (.int z193), .val (.ref a2), .val (.int (4 : Int32)), .val (.int (4 : Int32)), .val (.int x3)]
set_option maxRecDepth 65536 in
set_option maxHeartbeats 40000000 in
theorem rm7_4 (l : Launch) (Z : State) (a0 : Array Value) (hw : ∀ d ∈ tables_1, d.before a0 Z = true) (ws : List Jvm.Cond) (a1 : Addr) (a2 : Addr) (k2 : ClassId) (x0 : Int32) (x1 : Int32) (x2 : Int32) (x3 : Int32) (h0 : Heap) (n0 : Nat) (Z0 : n0 ≤ h0.size) (E_a1 : Exa Z h0 a1 "com/example/hard_delay_bounds/harddelaybounds/analysis/FlowSet") (F_numbers_a1 : Fld Z h0 a1 "com/example/hard_delay_bounds/harddelaybounds/analysis/FlowSet" "numbers" "[I" .null) (F_hash_a1 : Fld Z h0 a1 "com/example/hard_delay_bounds/harddelaybounds/analysis/FlowSet" "hash" "I" (.int (0 : Int32))) (V_a2 : Arv Z h0 a2 k2 .int (4 : Int32) [(.int x0), (.int x1), (.int x2), (.int x3)] (.int (0 : Int32))) (g_a1 : n0 ≤ a1) (ne_a1_a2 : a1 ≠ a2) :
    MetFree l mn4 (head1 (Jvm.Cond.code mn4 prog_18_method_1_code 7 none :: ws) ({ frames := 1, cells := 0, slots := 0, locals := 12 } : Room)) (fun a U => a = #[(.ref a1), (.ref a2)] ∧ Z.Warmed39 U.vm ∧ U.heap = h0) (fun _ _ _ _ _ => True) (fun _ U o U' => ∃ v L, o = .returned v ∧ QI Z a1 a2 h0 n0 v U'.heap L ∧ FrameEnd U o U' L ({ frames := 1, cells := 0, slots := 0, locals := 12 } : Room).cells ({ frames := 1, cells := 0, slots := 0, locals := 12 } : Room).slots) := by
  refine MetFree.of_bodySF (plainFor_of_name pn_7) hisR ?_
  intro p e s m args below meth c s₁ Bd hml0 hP hK
  obtain ⟨rfl, hZ, hh⟩ := hP
  have hx := Bd.exec
  have hby := Bd.bytes
  have hml : c.maxLocals = 7 := hml0
  have hown : s.vm.findClass "com/example/hard_delay_bounds/harddelaybounds/analysis/FlowSet" = some m.cls := findClass_of_methodNamed Bd.named
  have hnm := (name_of_methodNamed Bd.named Bd.method).1
  have X0 : Stand p l e ({ frames := 1, cells := 0, slots := 0, locals := 12 } : Room) s m #[(.ref a1), (.ref a2)] below meth c s₁ [] 0 0 := Stand.of_body Bd
  have e0 : s₁.heap = h0 := by rw [← hh, Bd.state]; rfl
  have N0 := Fr.nil n0
  have pre0 : ∀ t, Steps p.tables e below (s₁.setTop (mkF m 0 #[.val (.ref a1), .val (.ref a2), .unset, .unset, .unset, .unset, .unset] [])) t → Steps p.tables e below (s₁.setTop (entryFrame m #[(.ref a1), (.ref a2)] 7)) t := fun t k => castTop (ef_7 m a1 a2) k
  have KK := Keep.refl h0 [a1]
  obtain ⟨T177, X177, e177, st177⟩ := initO X0 hx hZ hown (ww hw 46 rfl) (ww hw 14 rfl) (ww hw 15 rfl) e0 (g := (mkF m 1 #[.val (.ref a1), .val (.ref a2), .unset, .unset, .unset, .unset, .unset] [(.ref a1)])) rfl (by rw [hml]; rfl) rfl (hb hby d7_1) (by decide) (W := 0) (by show 2 * 0 + _ ≤ _; exact Nat.le_of_eq rfl) (by decide)
  obtain ⟨T178, h178, X178, e178, W178, st178⟩ := putF X177 hx hZ hown (host := "") (Or.inl (ww hw 47 rfl)) Via.refl e177 F_numbers_a1 E_a1 (Or.inr ⟨(ww hw 48 rfl), rfl, hnm⟩) (ww hw 32 rfl) (ty := (.array .int)) (by decide) rfl rfl (g := (mkF m 6 #[.val (.ref a1), .val (.ref a2), .unset, .unset, .unset, .unset, .unset] [(.ref a2), (.ref a1)])) rfl rfl (hb hby d7_6)
  replace E_a1 := E_a1.wr W178
  replace F_numbers_a1 := F_numbers_a1.same W178
  replace F_hash_a1 := F_hash_a1.other W178 (Or.inr (slot_ne (Or.inr (ww hw 51 rfl)) (Or.inr (ww hw 48 rfl)) (by decide) (t := .int) (t' := (.array .int)) (by decide) (by decide)))
  replace V_a2 := V_a2.other W178 (Ne.symm ne_a1_a2)
  replace Z0 := Nat.le_trans Z0 (Keep.of_wr W178).1
  replace KK := KK.wr W178 (Or.inl (List.mem_of_getElem? (i := 0) rfl))
  have N178 := Fr.snoc X178 N0 g_a1
  obtain ⟨cl179, Ar179, q179, Sz179, Nn179, Hh179, Gg179⟩ := id V_a2
  obtain ⟨cl180, Ar180, q180, Sz180, Nn180, Hh180, Gg180⟩ := id V_a2
  have pre181 : ∀ t, Steps p.tables e below (T178.setTop (mkF m 21 #[.val (.ref a1), .val (.ref a2), .val (.int (4 : Int32)), .val (.ref a2), .val (.int (4 : Int32)), .val (.int (0 : Int32)), .unset] [])) t → Steps p.tables e below (s₁.setTop (entryFrame m #[(.ref a1), (.ref a2)] 7)) t := fun t k => by
    refine pre0 _ ?_
    refine y_aloadN X0.here hx (hb hby d7_0) rfl rfl ?_
    refine st177 _ ?_
    show Steps p.tables e below (T177.setTop (mkF m 4 #[.val (.ref a1), .val (.ref a2), .unset, .unset, .unset, .unset, .unset] [])) _
    refine y_aloadN X177.here hx (hb hby d7_4) rfl rfl ?_
    refine y_aloadN X177.here hx (hb hby d7_5) rfl rfl ?_
    refine st178 _ ?_
    show Steps p.tables e below (T178.setTop (mkF m 9 #[.val (.ref a1), .val (.ref a2), .unset, .unset, .unset, .unset, .unset] [])) _
    refine y_aloadN X178.here hx (hb hby d7_9) rfl rfl ?_
    refine X178.arraylength hx (by rw [e178]; exact Ar179.1) (State.isArrayOf_alike hZ.alike Ar179.2.1) (g := (mkF m 10 #[.val (.ref a1), .val (.ref a2), .unset, .unset, .unset, .unset, .unset] [(.ref a2)])) rfl rfl (hb hby d7_10) _ ?_
    rw [len_of Sz179 Nn179]
    show Steps p.tables e below (T178.setTop (mkF m 11 #[.val (.ref a1), .val (.ref a2), .unset, .unset, .unset, .unset, .unset] [(.int (4 : Int32))])) _
    refine y_istoreN X178.here hx (hb hby d7_11) (l' := #[.val (.ref a1), .val (.ref a2), .val (.int (4 : Int32)), .unset, .unset, .unset, .unset]) rfl ?_
    refine y_aloadN X178.here hx (hb hby d7_12) rfl rfl ?_
    refine y_astoreN X178.here hx (hb hby d7_13) rfl (l' := #[.val (.ref a1), .val (.ref a2), .val (.int (4 : Int32)), .val (.ref a2), .unset, .unset, .unset]) rfl ?_
    refine y_aloadN X178.here hx (hb hby d7_14) rfl rfl ?_
    refine X178.arraylength hx (by rw [e178]; exact Ar180.1) (State.isArrayOf_alike hZ.alike Ar180.2.1) (g := (mkF m 15 #[.val (.ref a1), .val (.ref a2), .val (.int (4 : Int32)), .val (.ref a2), .unset, .unset, .unset] [(.ref a2)])) rfl rfl (hb hby d7_15) _ ?_
    rw [len_of Sz180 Nn180]
    show Steps p.tables e below (T178.setTop (mkF m 16 #[.val (.ref a1), .val (.ref a2), .val (.int (4 : Int32)), .val (.ref a2), .unset, .unset, .unset] [(.int (4 : Int32))])) _
    refine y_istore X178.here hx (hb hby d7_16) (l' := (lo7_4_0 a1 a2)) rfl ?_
    refine y_iconst X178.here hx (v := (0 : Int32)) (hb hby d7_18) rfl ?_
    refine y_istore X178.here hx (hb hby d7_19) (l' := (lo7_4_1 a1 a2)) rfl ?_
    exact k
  obtain ⟨cl182, Ar182, q182, Sz182, Nn182, Hh182, Gg182⟩ := id V_a2
  have hin182 : ¬ ((0 : Int32) < 0 ∨ cl182.slots.size ≤ ((0 : Int32)).toNatClampNeg) := inb_of Sz182 ⟨by decide, by decide⟩
  have hat182 : cl182.slots[((0 : Int32)).toNatClampNeg]? = some (.int x0) := Hh182.at hin182 rfl
  have pre183 : ∀ t, Steps p.tables e below (T178.setTop (mkF m 21 #[.val (.ref a1), .val (.ref a2), .val (.int ((((4 : Int32) ^^^ x0) * (-1640531535 : Int32)) ^^^ (((((4 : Int32) ^^^ x0) * (-1640531535 : Int32)).toUInt32 >>> ((15 : Int32) &&& 31).toUInt32).toInt32))), .val (.ref a2), .val (.int (4 : Int32)), .val (.int (1 : Int32)), .val (.int x0)] [])) t → Steps p.tables e below (s₁.setTop (entryFrame m #[(.ref a1), (.ref a2)] 7)) t := fun t k => by
    refine pre181 _ ?_
    refine y_iload X178.here hx (hb hby d7_21) rfl ?_
    refine y_iload X178.here hx (hb hby d7_23) rfl ?_
    refine y_icmpNo X178.here hx (hb hby d7_25) (tlt (by decide)).2.1 ?_
    refine y_aloadN X178.here hx (hb hby d7_28) rfl rfl ?_
    refine y_iload X178.here hx (hb hby d7_29) rfl ?_
    refine X178.iaload hx (j := (0 : Int32)) (v := (.int x0)) (by rw [e178]; exact Ar182.1) (State.isArrayOf_alike hZ.alike Ar182.2.1) Ar182.2.2 hin182 hat182 (g := (mkF m 31 (lo7_4_1 a1 a2) [(.int (0 : Int32)), (.ref a2)])) rfl rfl (hb hby d7_31) _ ?_
    show Steps p.tables e below (T178.setTop (mkF m 32 (lo7_4_1 a1 a2) [(.int x0)])) _
    refine y_istore X178.here hx (hb hby d7_32) (l' := (lo7_4_2 a1 a2 x0)) rfl ?_
    refine y_iloadN X178.here hx (hb hby d7_34) rfl ?_
    refine y_iload X178.here hx (hb hby d7_35) rfl ?_
    refine y_ixor X178.here hx (hb hby d7_37) ?_
    refine X178.ldcInt hx hown (mvT hZ (ww hw 49 rfl)) (g := (mkF m 38 (lo7_4_2 a1 a2 x0) [(.int ((4 : Int32) ^^^ x0))])) rfl (hb hby d7_38) _ ?_
    show Steps p.tables e below (T178.setTop (mkF m 40 (lo7_4_2 a1 a2 x0) [(.int (-1640531535 : Int32)), (.int ((4 : Int32) ^^^ x0))])) _
    refine y_imul X178.here hx (hb hby d7_40) ?_
    refine y_istoreN X178.here hx (hb hby d7_41) (l' := (lo7_4_3 a1 a2 x0)) rfl ?_
    refine y_iloadN X178.here hx (hb hby d7_42) rfl ?_
    refine y_iloadN X178.here hx (hb hby d7_43) rfl ?_
    refine y_bipush X178.here hx (v := (15 : Int32)) (hb hby d7_44) rfl ?_
    refine y_iushr X178.here hx (hb hby d7_46) ?_
    refine y_ixor X178.here hx (hb hby d7_47) ?_
    refine y_istoreN X178.here hx (hb hby d7_48) (l' := (lo7_4_4 a1 a2 x0)) rfl ?_
    refine y_iinc X178.here hx (hb hby d7_49) rfl (l' := (lo7_4_5 a1 a2 x0)) rfl ?_
    refine y_goto X178.here hx (pc' := 21) (hb hby d7_52) (by decide) (by decide) ?_
    exact k
  obtain ⟨z184, hz184⟩ : ∃ z, z = ((((4 : Int32) ^^^ x0) * (-1640531535 : Int32)) ^^^ (((((4 : Int32) ^^^ x0) * (-1640531535 : Int32)).toUInt32 >>> ((15 : Int32) &&& 31).toUInt32).toInt32)) := ⟨_, rfl⟩
  rw [← hz184] at pre183
  obtain ⟨cl185, Ar185, q185, Sz185, Nn185, Hh185, Gg185⟩ := id V_a2
  have hin185 : ¬ ((1 : Int32) < 0 ∨ cl185.slots.size ≤ ((1 : Int32)).toNatClampNeg) := inb_of Sz185 ⟨by decide, by decide⟩
  have hat185 : cl185.slots[((1 : Int32)).toNatClampNeg]? = some (.int x1) := Hh185.at hin185 rfl
  have pre186 : ∀ t, Steps p.tables e below (T178.setTop (mkF m 21 #[.val (.ref a1), .val (.ref a2), .val (.int (((z184 ^^^ x1) * (-1640531535 : Int32)) ^^^ ((((z184 ^^^ x1) * (-1640531535 : Int32)).toUInt32 >>> ((15 : Int32) &&& 31).toUInt32).toInt32))), .val (.ref a2), .val (.int (4 : Int32)), .val (.int (2 : Int32)), .val (.int x1)] [])) t → Steps p.tables e below (s₁.setTop (entryFrame m #[(.ref a1), (.ref a2)] 7)) t := fun t k => by
    refine pre183 _ ?_
    refine y_iload X178.here hx (hb hby d7_21) rfl ?_
    refine y_iload X178.here hx (hb hby d7_23) rfl ?_
    refine y_icmpNo X178.here hx (hb hby d7_25) (tlt (by decide)).2.1 ?_
    refine y_aloadN X178.here hx (hb hby d7_28) rfl rfl ?_
    refine y_iload X178.here hx (hb hby d7_29) rfl ?_
    refine X178.iaload hx (j := (1 : Int32)) (v := (.int x1)) (by rw [e178]; exact Ar185.1) (State.isArrayOf_alike hZ.alike Ar185.2.1) Ar185.2.2 hin185 hat185 (g := (mkF m 31 (lo7_4_6 a1 a2 z184 x0) [(.int (1 : Int32)), (.ref a2)])) rfl rfl (hb hby d7_31) _ ?_
    show Steps p.tables e below (T178.setTop (mkF m 32 (lo7_4_6 a1 a2 z184 x0) [(.int x1)])) _
    refine y_istore X178.here hx (hb hby d7_32) (l' := (lo7_4_7 a1 a2 z184 x1)) rfl ?_
    refine y_iloadN X178.here hx (hb hby d7_34) rfl ?_
    refine y_iload X178.here hx (hb hby d7_35) rfl ?_
    refine y_ixor X178.here hx (hb hby d7_37) ?_
    refine X178.ldcInt hx hown (mvT hZ (ww hw 49 rfl)) (g := (mkF m 38 (lo7_4_7 a1 a2 z184 x1) [(.int (z184 ^^^ x1))])) rfl (hb hby d7_38) _ ?_
    show Steps p.tables e below (T178.setTop (mkF m 40 (lo7_4_7 a1 a2 z184 x1) [(.int (-1640531535 : Int32)), (.int (z184 ^^^ x1))])) _
    refine y_imul X178.here hx (hb hby d7_40) ?_
    refine y_istoreN X178.here hx (hb hby d7_41) (l' := (lo7_4_8 a1 a2 z184 x1)) rfl ?_
    refine y_iloadN X178.here hx (hb hby d7_42) rfl ?_
    refine y_iloadN X178.here hx (hb hby d7_43) rfl ?_
    refine y_bipush X178.here hx (v := (15 : Int32)) (hb hby d7_44) rfl ?_
    refine y_iushr X178.here hx (hb hby d7_46) ?_
    refine y_ixor X178.here hx (hb hby d7_47) ?_
    refine y_istoreN X178.here hx (hb hby d7_48) (l' := (lo7_4_9 a1 a2 z184 x1)) rfl ?_
    refine y_iinc X178.here hx (hb hby d7_49) rfl (l' := (lo7_4_10 a1 a2 z184 x1)) rfl ?_
    refine y_goto X178.here hx (pc' := 21) (hb hby d7_52) (by decide) (by decide) ?_
    exact k
  obtain ⟨z187, hz187⟩ : ∃ z, z = (((z184 ^^^ x1) * (-1640531535 : Int32)) ^^^ ((((z184 ^^^ x1) * (-1640531535 : Int32)).toUInt32 >>> ((15 : Int32) &&& 31).toUInt32).toInt32)) := ⟨_, rfl⟩
  rw [← hz187] at pre186
  obtain ⟨cl188, Ar188, q188, Sz188, Nn188, Hh188, Gg188⟩ := id V_a2
  have hin188 : ¬ ((2 : Int32) < 0 ∨ cl188.slots.size ≤ ((2 : Int32)).toNatClampNeg) := inb_of Sz188 ⟨by decide, by decide⟩
  have hat188 : cl188.slots[((2 : Int32)).toNatClampNeg]? = some (.int x2) := Hh188.at hin188 rfl
  have pre189 : ∀ t, Steps p.tables e below (T178.setTop (mkF m 21 #[.val (.ref a1), .val (.ref a2), .val (.int (((z187 ^^^ x2) * (-1640531535 : Int32)) ^^^ ((((z187 ^^^ x2) * (-1640531535 : Int32)).toUInt32 >>> ((15 : Int32) &&& 31).toUInt32).toInt32))), .val (.ref a2), .val (.int (4 : Int32)), .val (.int (3 : Int32)), .val (.int x2)] [])) t → Steps p.tables e below (s₁.setTop (entryFrame m #[(.ref a1), (.ref a2)] 7)) t := fun t k => by
    refine pre186 _ ?_
    refine y_iload X178.here hx (hb hby d7_21) rfl ?_
    refine y_iload X178.here hx (hb hby d7_23) rfl ?_
    refine y_icmpNo X178.here hx (hb hby d7_25) (tlt (by decide)).2.1 ?_
    refine y_aloadN X178.here hx (hb hby d7_28) rfl rfl ?_
    refine y_iload X178.here hx (hb hby d7_29) rfl ?_
    refine X178.iaload hx (j := (2 : Int32)) (v := (.int x2)) (by rw [e178]; exact Ar188.1) (State.isArrayOf_alike hZ.alike Ar188.2.1) Ar188.2.2 hin188 hat188 (g := (mkF m 31 (lo7_4_11 a1 a2 z187 x1) [(.int (2 : Int32)), (.ref a2)])) rfl rfl (hb hby d7_31) _ ?_
    show Steps p.tables e below (T178.setTop (mkF m 32 (lo7_4_11 a1 a2 z187 x1) [(.int x2)])) _
    refine y_istore X178.here hx (hb hby d7_32) (l' := (lo7_4_12 a1 a2 z187 x2)) rfl ?_
    refine y_iloadN X178.here hx (hb hby d7_34) rfl ?_
    refine y_iload X178.here hx (hb hby d7_35) rfl ?_
    refine y_ixor X178.here hx (hb hby d7_37) ?_
    refine X178.ldcInt hx hown (mvT hZ (ww hw 49 rfl)) (g := (mkF m 38 (lo7_4_12 a1 a2 z187 x2) [(.int (z187 ^^^ x2))])) rfl (hb hby d7_38) _ ?_
    show Steps p.tables e below (T178.setTop (mkF m 40 (lo7_4_12 a1 a2 z187 x2) [(.int (-1640531535 : Int32)), (.int (z187 ^^^ x2))])) _
    refine y_imul X178.here hx (hb hby d7_40) ?_
    refine y_istoreN X178.here hx (hb hby d7_41) (l' := (lo7_4_13 a1 a2 z187 x2)) rfl ?_
    refine y_iloadN X178.here hx (hb hby d7_42) rfl ?_
    refine y_iloadN X178.here hx (hb hby d7_43) rfl ?_
    refine y_bipush X178.here hx (v := (15 : Int32)) (hb hby d7_44) rfl ?_
    refine y_iushr X178.here hx (hb hby d7_46) ?_
    refine y_ixor X178.here hx (hb hby d7_47) ?_
    refine y_istoreN X178.here hx (hb hby d7_48) (l' := (lo7_4_14 a1 a2 z187 x2)) rfl ?_
    refine y_iinc X178.here hx (hb hby d7_49) rfl (l' := (lo7_4_15 a1 a2 z187 x2)) rfl ?_
    refine y_goto X178.here hx (pc' := 21) (hb hby d7_52) (by decide) (by decide) ?_
    exact k
  obtain ⟨z190, hz190⟩ : ∃ z, z = (((z187 ^^^ x2) * (-1640531535 : Int32)) ^^^ ((((z187 ^^^ x2) * (-1640531535 : Int32)).toUInt32 >>> ((15 : Int32) &&& 31).toUInt32).toInt32)) := ⟨_, rfl⟩
  rw [← hz190] at pre189
  obtain ⟨cl191, Ar191, q191, Sz191, Nn191, Hh191, Gg191⟩ := id V_a2
  have hin191 : ¬ ((3 : Int32) < 0 ∨ cl191.slots.size ≤ ((3 : Int32)).toNatClampNeg) := inb_of Sz191 ⟨by decide, by decide⟩
  have hat191 : cl191.slots[((3 : Int32)).toNatClampNeg]? = some (.int x3) := Hh191.at hin191 rfl
  have pre192 : ∀ t, Steps p.tables e below (T178.setTop (mkF m 21 #[.val (.ref a1), .val (.ref a2), .val (.int (((z190 ^^^ x3) * (-1640531535 : Int32)) ^^^ ((((z190 ^^^ x3) * (-1640531535 : Int32)).toUInt32 >>> ((15 : Int32) &&& 31).toUInt32).toInt32))), .val (.ref a2), .val (.int (4 : Int32)), .val (.int (4 : Int32)), .val (.int x3)] [])) t → Steps p.tables e below (s₁.setTop (entryFrame m #[(.ref a1), (.ref a2)] 7)) t := fun t k => by
    refine pre189 _ ?_
    refine y_iload X178.here hx (hb hby d7_21) rfl ?_
    refine y_iload X178.here hx (hb hby d7_23) rfl ?_
    refine y_icmpNo X178.here hx (hb hby d7_25) (tlt (by decide)).2.1 ?_
    refine y_aloadN X178.here hx (hb hby d7_28) rfl rfl ?_
    refine y_iload X178.here hx (hb hby d7_29) rfl ?_
    refine X178.iaload hx (j := (3 : Int32)) (v := (.int x3)) (by rw [e178]; exact Ar191.1) (State.isArrayOf_alike hZ.alike Ar191.2.1) Ar191.2.2 hin191 hat191 (g := (mkF m 31 (lo7_4_16 a1 a2 z190 x2) [(.int (3 : Int32)), (.ref a2)])) rfl rfl (hb hby d7_31) _ ?_
    show Steps p.tables e below (T178.setTop (mkF m 32 (lo7_4_16 a1 a2 z190 x2) [(.int x3)])) _
    refine y_istore X178.here hx (hb hby d7_32) (l' := (lo7_4_17 a1 a2 z190 x3)) rfl ?_
    refine y_iloadN X178.here hx (hb hby d7_34) rfl ?_
    refine y_iload X178.here hx (hb hby d7_35) rfl ?_
    refine y_ixor X178.here hx (hb hby d7_37) ?_
    refine X178.ldcInt hx hown (mvT hZ (ww hw 49 rfl)) (g := (mkF m 38 (lo7_4_17 a1 a2 z190 x3) [(.int (z190 ^^^ x3))])) rfl (hb hby d7_38) _ ?_
    show Steps p.tables e below (T178.setTop (mkF m 40 (lo7_4_17 a1 a2 z190 x3) [(.int (-1640531535 : Int32)), (.int (z190 ^^^ x3))])) _
    refine y_imul X178.here hx (hb hby d7_40) ?_
    refine y_istoreN X178.here hx (hb hby d7_41) (l' := (lo7_4_18 a1 a2 z190 x3)) rfl ?_
    refine y_iloadN X178.here hx (hb hby d7_42) rfl ?_
    refine y_iloadN X178.here hx (hb hby d7_43) rfl ?_
    refine y_bipush X178.here hx (v := (15 : Int32)) (hb hby d7_44) rfl ?_
    refine y_iushr X178.here hx (hb hby d7_46) ?_
    refine y_ixor X178.here hx (hb hby d7_47) ?_
    refine y_istoreN X178.here hx (hb hby d7_48) (l' := (lo7_4_19 a1 a2 z190 x3)) rfl ?_
    refine y_iinc X178.here hx (hb hby d7_49) rfl (l' := (lo7_4_20 a1 a2 z190 x3)) rfl ?_
    refine y_goto X178.here hx (pc' := 21) (hb hby d7_52) (by decide) (by decide) ?_
    exact k
  obtain ⟨z193, hz193⟩ : ∃ z, z = (((z190 ^^^ x3) * (-1640531535 : Int32)) ^^^ ((((z190 ^^^ x3) * (-1640531535 : Int32)).toUInt32 >>> ((15 : Int32) &&& 31).toUInt32).toInt32)) := ⟨_, rfl⟩
  rw [← hz193] at pre192
  obtain ⟨T194, h194, X194, e194, W194, st194⟩ := putF X178 hx hZ hown (host := "") (Or.inl (ww hw 50 rfl)) Via.refl e178 F_hash_a1 E_a1 (Or.inr ⟨(ww hw 51 rfl), rfl, hnm⟩) (ww hw 32 rfl) (ty := .int) (by decide) rfl rfl (g := (mkF m 57 (lo7_4_21 a1 a2 z193 x3) [(.int z193), (.ref a1)])) rfl rfl (hb hby d7_57)
  replace E_a1 := E_a1.wr W194
  replace F_numbers_a1 := F_numbers_a1.other W194 (Or.inr (slot_ne (Or.inr (ww hw 48 rfl)) (Or.inr (ww hw 51 rfl)) (by decide) (t := (.array .int)) (t' := .int) (by decide) (by decide)))
  replace F_hash_a1 := F_hash_a1.same W194
  replace V_a2 := V_a2.other W194 (Ne.symm ne_a1_a2)
  replace Z0 := Nat.le_trans Z0 (Keep.of_wr W194).1
  replace KK := KK.wr W194 (Or.inl (List.mem_of_getElem? (i := 0) rfl))
  have N194 := Fr.snoc X194 N178 g_a1
  obtain ⟨fs, hr, hrun, hended, hW, hsame⟩ := X194.leave (v := none) (fun _ => rfl)
  refine ⟨_, _, pre192 _ ?_, hrun, hended, _, _, rfl, ?_, ⟨_, rfl⟩, hW, hsame.mono (by decide) (by decide)⟩
  · refine y_iload X178.here hx (hb hby d7_21) rfl ?_
    refine y_iload X178.here hx (hb hby d7_23) rfl ?_
    refine y_icmpYes X178.here hx (pc' := 55) (hb hby d7_25) (flt (by decide)).2.1 (by decide) (by decide) ?_
    refine y_aloadN X178.here hx (hb hby d7_55) rfl rfl ?_
    refine y_iloadN X178.here hx (hb hby d7_56) rfl ?_
    refine st194 _ ?_
    show Steps p.tables e below (T194.setTop (mkF m 60 (lo7_4_21 a1 a2 z193 x3) [])) _
    exact X194.returnOut hx Bd.returns (hb hby d7_60) hr
  · show QI Z a1 a2 h0 n0 _ T194.heap _
    rw [e194]
    exact ⟨rfl, N194, KK, F_numbers_a1⟩
set_option maxRecDepth 65536 in
set_option maxHeartbeats 40000000 in
theorem rm5_4 (l : Launch) (Z : State) (a0 : Array Value) (hw : ∀ d ∈ tables_1, d.before a0 Z = true) (ws : List Jvm.Cond) (a1 : Addr) (aA : Addr) (kA : ClassId) (x0 : Int32) (x1 : Int32) (x2 : Int32) (x3 : Int32) (h0 : Heap) (n0 : Nat) (Z0 : n0 ≤ h0.size) (E_a1 : Exa Z h0 a1 "com/example/hard_delay_bounds/harddelaybounds/analysis/FlowSet$Builder") (F_numbers_a1 : Fld Z h0 a1 "com/example/hard_delay_bounds/harddelaybounds/analysis/FlowSet$Builder" "numbers" "[I" (.ref aA)) (F_size_a1 : Fld Z h0 a1 "com/example/hard_delay_bounds/harddelaybounds/analysis/FlowSet$Builder" "size" "I" (.int (4 : Int32))) (E_aA : Exa Z h0 aA "[I") (V_aA : Arv Z h0 aA kA .int (4 : Int32) [(.int x0), (.int x1), (.int x2), (.int x3)] (.int (0 : Int32))) (ne_a1_aA : a1 ≠ aA) :
    MetFree l mn5 (head1 (Jvm.Cond.code mn5 prog_19_method_3_code 1 (some (.object "com/example/hard_delay_bounds/harddelaybounds/analysis/FlowSet")) :: ws) ({ frames := 2, cells := 2, slots := 6, locals := 31 } : Room)) (fun a U => a = #[(.ref a1)] ∧ Z.Warmed39 U.vm ∧ U.heap = h0) (fun _ _ _ _ _ => True) (fun _ U o U' => ∃ v L, o = .returned v ∧ QS Z (4 : Int32) [(.int x0), (.int x1), (.int x2), (.int x3)] h0 n0 v U'.heap L ∧ FrameEnd U o U' L ({ frames := 2, cells := 2, slots := 6, locals := 31 } : Room).cells ({ frames := 2, cells := 2, slots := 6, locals := 31 } : Room).slots) := by
  refine MetFree.of_bodySF (plainFor_of_name pn_2) hisR ?_
  intro p e s m args below meth c s₁ Bd hml0 hP hK
  obtain ⟨rfl, hZ, hh⟩ := hP
  have hx := Bd.exec
  have hby := Bd.bytes
  have hml : c.maxLocals = 1 := hml0
  have hown : s.vm.findClass "com/example/hard_delay_bounds/harddelaybounds/analysis/FlowSet$Builder" = some m.cls := findClass_of_methodNamed Bd.named
  have hnm := (name_of_methodNamed Bd.named Bd.method).1
  have X0 : Stand p l e ({ frames := 2, cells := 2, slots := 6, locals := 31 } : Room) s m #[(.ref a1)] below meth c s₁ [] 0 0 := Stand.of_body Bd
  have e0 : s₁.heap = h0 := by rw [← hh, Bd.state]; rfl
  have N0 := Fr.nil n0
  have pre0 : ∀ t, Steps p.tables e below (s₁.setTop (mkF m 0 #[.val (.ref a1)] [])) t → Steps p.tables e below (s₁.setTop (entryFrame m #[(.ref a1)] 1)) t := fun t k => castTop (ef_5 m a1) k
  have KK := Keep.refl h0 []
  obtain ⟨T195, h195, X195, e195, E195, A195, D195, -, st195⟩ := newO X0 hx hZ hown (ww hw 31 rfl) (ww hw 32 rfl) (ww hw 33 rfl) e0 (g := (mkF m 0 #[.val (.ref a1)] [])) rfl (hb hby d5_0) (by decide) (by decide)
  obtain ⟨b195, g195⟩ : ∃ z, z = h0.size := ⟨_, rfl⟩
  rw [← g195] at A195 D195 st195
  have g_b195 : n0 ≤ b195 := Nat.le_trans Z0 (Nat.le_of_eq g195.symm)
  have sz_b195 : h0.size ≤ b195 := Nat.le_trans KK.1 (Nat.le_of_eq g195.symm)
  have ne_a1_b195 : a1 ≠ b195 := Nat.ne_of_lt (Nat.lt_of_lt_of_le E_a1.lt (Nat.le_of_eq g195.symm))
  have ne_aA_b195 : aA ≠ b195 := Nat.ne_of_lt (Nat.lt_of_lt_of_le E_aA.lt (Nat.le_of_eq g195.symm))
  replace E_a1 := E_a1.ext E195
  replace F_numbers_a1 := F_numbers_a1.ext E195
  replace F_size_a1 := F_size_a1.ext E195
  replace E_aA := E_aA.ext E195
  replace V_aA := V_aA.ext E195
  replace Z0 := Nat.le_trans Z0 E195.1
  replace KK := KK.ext E195
  have E_b195 := A195
  have F_numbers_b195 : Fld Z h195 b195 "com/example/hard_delay_bounds/harddelaybounds/analysis/FlowSet" "numbers" "[I" .null := D195 (Or.inr (ww hw 48 rfl)) (ty := (.array .int)) (by decide)
  have F_hash_b195 : Fld Z h195 b195 "com/example/hard_delay_bounds/harddelaybounds/analysis/FlowSet" "hash" "I" (.int (0 : Int32)) := D195 (Or.inr (ww hw 51 rfl)) (ty := .int) (by decide)
  obtain ⟨T196, X196, e196, st196⟩ := getF X195 hx hZ hown (host := "") (Or.inl (ww hw 17 rfl)) Via.refl e195 F_numbers_a1 (g := (mkF m 5 #[.val (.ref a1)] [(.ref a1), (.ref b195), (.ref b195)])) rfl rfl (hb hby d5_5)
  obtain ⟨T197, X197, e197, st197⟩ := getF X196 hx hZ hown (host := "") (Or.inl (ww hw 24 rfl)) Via.refl e196 F_size_a1 (g := (mkF m 9 #[.val (.ref a1)] [(.ref a1), (.ref aA), (.ref b195), (.ref b195)])) rfl rfl (hb hby d5_9)
  obtain ⟨_, _, ⟨T198, L198, k198, n198⟩, -, X198, ⟨Lc198, hQ198, l198, y198, z198⟩, st198⟩ := Jvm.LawKit.callS X197 hx (y := mn3) hown (mvT hZ (ww hw 34 rfl)) (mvT hZ (ww hw 35 rfl)) (mvT hZ (ww hw 36 rfl)) (mvT hZ (ww hw 37 rfl)) (by decide) (backOf (W := 2) (rm6_4_4_4 l Z a0 hw [] aA kA x0 x1 x2 x3 h195 n0 Z0 E_aA V_aA) hZ (ww hw 37 rfl) (ww hw 36 rfl) (by decide) (by decide)) (g := (mkF m 12 #[.val (.ref a1)] [(.int (4 : Int32)), (.ref aA), (.ref b195), (.ref b195)])) rfl (by rw [hml]; rfl) (argsL := [(.ref aA), (.int (4 : Int32))]) (rest := [(.ref b195), (.ref b195)]) (lenOf pd_1 rfl) rfl (by show 2 * 0 + _ ≤ _; exact Nat.le_of_eq rfl) (hb hby d5_12) (fun _ _ => ⟨rfl, e197, (by decide : 1 + 1 ≤ _), (by decide : 2 + 4 ≤ _)⟩)
  dsimp only [Pt.U, Pt.locs, Pt.cells, Pt.slots] at X198 l198 y198 z198 st198 hQ198
  subst l198 y198 z198
  obtain ⟨h198, e198⟩ : ∃ z, T198.heap = z := ⟨_, rfl⟩
  rw [e198] at hQ198
  obtain ⟨b198, k198, rfl, N198q, K198, s198, Vn198, En198⟩ := hQ198
  have g_b198 : n0 ≤ b198 := Nat.le_trans Z0 s198
  have sz_b198 : h0.size ≤ b198 := Nat.le_trans KK.1 s198
  have ne_a1_b198 : a1 ≠ b198 := Nat.ne_of_lt (Nat.lt_of_lt_of_le E_a1.lt s198)
  have ne_aA_b198 : aA ≠ b198 := Nat.ne_of_lt (Nat.lt_of_lt_of_le E_aA.lt s198)
  have ne_b195_b198 : b195 ≠ b198 := Nat.ne_of_lt (Nat.lt_of_lt_of_le E_b195.lt s198)
  replace E_a1 := E_a1.keep K198
  replace F_numbers_a1 := F_numbers_a1.keep K198 nin0
  replace F_size_a1 := F_size_a1.keep K198 nin0
  replace E_aA := E_aA.keep K198
  replace V_aA := V_aA.keep K198 nin0
  replace E_b195 := E_b195.keep K198
  replace F_numbers_b195 := F_numbers_b195.keep K198 nin0
  replace F_hash_b195 := F_hash_b195.keep K198 nin0
  replace Z0 := Nat.le_trans Z0 K198.1
  replace KK := KK.trans K198 all0
  have V_b198 : Arv Z h198 b198 k198 .int (4 : Int32) [(.int x0), (.int x1), (.int x2), (.int x3)] (.int (0 : Int32)) := Vn198
  have E_b198 := En198
  have N198 := Fr.app N0 N198q
  obtain ⟨_, _, ⟨T199, L199, k199, n199⟩, -, X199, ⟨Lc199, hQ199, l199, y199, z199⟩, st199⟩ := X198.specialBackNest hx (y := mn4) rfl hown (own_mvMN hZ (ww hw 43 rfl)) (mvT hZ (ww hw 44 rfl)) (mvT hZ (ww hw 45 rfl)) (by decide) (backOf (W := 1) (rm7_4 l Z a0 hw [] b195 b198 k198 x0 x1 x2 x3 h198 n0 Z0 E_b195 F_numbers_b195 F_hash_b195 V_b198 g_b195 ne_b195_b198) hZ (ww hw 45 rfl) (ww hw 33 rfl) (by decide) (by decide)) (g := (mkF m 15 #[.val (.ref a1)] [(.ref b198), (.ref b195), (.ref b195)])) rfl (by rw [hml]; rfl) (Steps.refl _) (a := b195) (argsL := [(.ref b198)]) (rest := [(.ref b195)]) (lenOf pd_2 rfl) rfl (by show 2 * 0 + _ ≤ _; exact Nat.le_of_eq rfl) (hb hby d5_15) (fun _ _ => ⟨rfl, e198, (by decide : 2 + 0 ≤ _), (by decide : 6 + 0 ≤ _)⟩)
  dsimp only [Pt.U, Pt.locs, Pt.cells, Pt.slots] at X199 l199 y199 z199 st199 hQ199
  subst l199 y199 z199
  obtain ⟨h199, e199⟩ : ∃ z, T199.heap = z := ⟨_, rfl⟩
  rw [e199] at hQ199
  obtain ⟨rfl, N199q, K199, Fn199⟩ := hQ199
  replace E_a1 := E_a1.keep K199
  replace F_numbers_a1 := F_numbers_a1.keep K199 (ninS ne_a1_b195 nin0)
  replace F_size_a1 := F_size_a1.keep K199 (ninS ne_a1_b195 nin0)
  replace E_aA := E_aA.keep K199
  replace V_aA := V_aA.keep K199 (ninS ne_aA_b195 nin0)
  replace E_b195 := E_b195.keep K199
  replace V_b198 := V_b198.keep K199 (ninS (Ne.symm ne_b195_b198) nin0)
  replace E_b198 := E_b198.keep K199
  replace Z0 := Nat.le_trans Z0 K199.1
  replace KK := KK.trans K199 (allS (Or.inr sz_b195) all0)
  have F_numbers_b195 := Fn199
  have N199 := Fr.app N198 N199q
  obtain ⟨fs, hr, hrun, hended, hW, hsame⟩ := X199.leave (v := some (.ref b195)) (fun h => by rw [Bd.returns] at h; cases h)
  refine ⟨_, _, pre0 _ ?_, hrun, hended, _, _, rfl, ?_, ⟨_, rfl⟩, hW, hsame.mono (by decide) (by decide)⟩
  · refine st195 _ ?_
    show Steps p.tables e below (T195.setTop (mkF m 3 #[.val (.ref a1)] [(.ref b195)])) _
    refine y_dup X195.here hx (hb hby d5_3) rfl ?_
    refine y_aloadN X195.here hx (hb hby d5_4) rfl rfl ?_
    refine st196 _ ?_
    show Steps p.tables e below (T196.setTop (mkF m 8 #[.val (.ref a1)] [(.ref aA), (.ref b195), (.ref b195)])) _
    refine y_aloadN X196.here hx (hb hby d5_8) rfl rfl ?_
    refine st197 _ ?_
    show Steps p.tables e below (T197.setTop (mkF m 12 #[.val (.ref a1)] [(.int (4 : Int32)), (.ref aA), (.ref b195), (.ref b195)])) _
    refine st198 _ ?_
    show Steps p.tables e below (T198.setTop (mkF m 15 #[.val (.ref a1)] [(.ref b198), (.ref b195), (.ref b195)])) _
    refine st199.trans ?_
    show Steps p.tables e below (T199.setTop (mkF m 18 #[.val (.ref a1)] [(.ref b195)])) _
    jvm_step X199.here [X199.here.top, hx, (hb hby d5_18), X199.method', Bd.returns, Value.isRef, FieldType.isReference]
    first | (intro acts; rw [hr _ acts rfl rfl rfl]) | rw [hr _ _ rfl rfl rfl]
    exact Steps.refl _
  · show QS Z (4 : Int32) [(.int x0), (.int x1), (.int x2), (.int x3)] h0 n0 _ T199.heap _
    rw [e199]
    exact ⟨b195, b198, _, rfl, N199, KK, sz_b195, sz_b198, E_b195, F_numbers_b195, V_b198⟩
set_option maxRecDepth 65536 in
set_option maxHeartbeats 40000000 in
theorem rm8_4 (l : Launch) (Z : State) (a0 : Array Value) (hw : ∀ d ∈ tables_1, d.before a0 Z = true) (ws : List Jvm.Cond) (a1 : Addr) (aB : Addr) (kB : ClassId) (x0 : Int32) (x1 : Int32) (x2 : Int32) (x3 : Int32) (h0 : Heap) (n0 : Nat) (Z0 : n0 ≤ h0.size) (F_numbers_a1 : Fld Z h0 a1 "com/example/hard_delay_bounds/harddelaybounds/analysis/FlowSet" "numbers" "[I" (.ref aB)) (V_aB : Arv Z h0 aB kB .int (4 : Int32) [(.int x0), (.int x1), (.int x2), (.int x3)] (.int (0 : Int32))) :
    MetFree l mn6 (head1 (Jvm.Cond.code mn6 prog_18_method_2_code 1 (some .int) :: ws) ({ frames := 0, cells := 0, slots := 0, locals := 0 } : Room)) (fun a U => a = #[(.ref a1)] ∧ Z.Warmed39 U.vm ∧ U.heap = h0) (fun _ _ _ _ _ => True) (fun _ U o U' => ∃ v L, o = .returned v ∧ QP (some (.int (4 : Int32))) h0 n0 v U'.heap L ∧ FrameEnd U o U' L ({ frames := 0, cells := 0, slots := 0, locals := 0 } : Room).cells ({ frames := 0, cells := 0, slots := 0, locals := 0 } : Room).slots) := by
  refine MetFree.of_bodySF (plainFor_of_name pn_7) hisR ?_
  intro p e s m args below meth c s₁ Bd hml0 hP hK
  obtain ⟨rfl, hZ, hh⟩ := hP
  have hx := Bd.exec
  have hby := Bd.bytes
  have hml : c.maxLocals = 1 := hml0
  have hown : s.vm.findClass "com/example/hard_delay_bounds/harddelaybounds/analysis/FlowSet" = some m.cls := findClass_of_methodNamed Bd.named
  have hnm := (name_of_methodNamed Bd.named Bd.method).1
  have X0 : Stand p l e ({ frames := 0, cells := 0, slots := 0, locals := 0 } : Room) s m #[(.ref a1)] below meth c s₁ [] 0 0 := Stand.of_body Bd
  have e0 : s₁.heap = h0 := by rw [← hh, Bd.state]; rfl
  have N0 := Fr.nil n0
  have pre0 : ∀ t, Steps p.tables e below (s₁.setTop (mkF m 0 #[.val (.ref a1)] [])) t → Steps p.tables e below (s₁.setTop (entryFrame m #[(.ref a1)] 1)) t := fun t k => castTop (ef_8 m a1) k
  obtain ⟨T200, X200, e200, st200⟩ := getF X0 hx hZ hown (host := "") (Or.inl (ww hw 47 rfl)) Via.refl e0 F_numbers_a1 (g := (mkF m 1 #[.val (.ref a1)] [(.ref a1)])) rfl rfl (hb hby d8_1)
  obtain ⟨cl201, Ar201, q201, Sz201, Nn201, Hh201, Gg201⟩ := id V_aB
  obtain ⟨fs, hr, hrun, hended, hW, hsame⟩ := X200.leave (v := some (.int (4 : Int32))) (fun h => by rw [Bd.returns] at h; cases h)
  refine ⟨_, _, pre0 _ ?_, hrun, hended, _, _, rfl, ?_, ⟨_, rfl⟩, hW, hsame.mono (by decide) (by decide)⟩
  · refine y_aloadN X0.here hx (hb hby d8_0) rfl rfl ?_
    refine st200 _ ?_
    show Steps p.tables e below (T200.setTop (mkF m 4 #[.val (.ref a1)] [(.ref aB)])) _
    refine X200.arraylength hx (by rw [e200]; exact Ar201.1) (State.isArrayOf_alike hZ.alike Ar201.2.1) (g := (mkF m 4 #[.val (.ref a1)] [(.ref aB)])) rfl rfl (hb hby d8_4) _ ?_
    rw [len_of Sz201 Nn201]
    show Steps p.tables e below (T200.setTop (mkF m 5 #[.val (.ref a1)] [(.int (4 : Int32))])) _
    exact retI X200 hx Bd.returns (hb hby d8_5) hr
  · show QP _ h0 n0 _ T200.heap _
    rw [e200]
    exact ⟨rfl, N0, rfl⟩
set_option maxRecDepth 65536 in
set_option maxHeartbeats 40000000 in
theorem rm9_4_0 (l : Launch) (Z : State) (a0 : Array Value) (hw : ∀ d ∈ tables_1, d.before a0 Z = true) (ws : List Jvm.Cond) (a1 : Addr) (aB : Addr) (kB : ClassId) (x0 : Int32) (x1 : Int32) (x2 : Int32) (x3 : Int32) (h0 : Heap) (n0 : Nat) (Z0 : n0 ≤ h0.size) (F_numbers_a1 : Fld Z h0 a1 "com/example/hard_delay_bounds/harddelaybounds/analysis/FlowSet" "numbers" "[I" (.ref aB)) (V_aB : Arv Z h0 aB kB .int (4 : Int32) [(.int x0), (.int x1), (.int x2), (.int x3)] (.int (0 : Int32))) :
    MetFree l mn7 (head1 (Jvm.Cond.code mn7 prog_18_method_3_code 2 (some .int) :: ws) ({ frames := 0, cells := 0, slots := 0, locals := 0 } : Room)) (fun a U => a = #[(.ref a1), (.int (0 : Int32))] ∧ Z.Warmed39 U.vm ∧ U.heap = h0) (fun _ _ _ _ _ => True) (fun _ U o U' => ∃ v L, o = .returned v ∧ QP (some (.int x0)) h0 n0 v U'.heap L ∧ FrameEnd U o U' L ({ frames := 0, cells := 0, slots := 0, locals := 0 } : Room).cells ({ frames := 0, cells := 0, slots := 0, locals := 0 } : Room).slots) := by
  refine MetFree.of_bodySF (plainFor_of_name pn_7) hisR ?_
  intro p e s m args below meth c s₁ Bd hml0 hP hK
  obtain ⟨rfl, hZ, hh⟩ := hP
  have hx := Bd.exec
  have hby := Bd.bytes
  have hml : c.maxLocals = 2 := hml0
  have hown : s.vm.findClass "com/example/hard_delay_bounds/harddelaybounds/analysis/FlowSet" = some m.cls := findClass_of_methodNamed Bd.named
  have hnm := (name_of_methodNamed Bd.named Bd.method).1
  have X0 : Stand p l e ({ frames := 0, cells := 0, slots := 0, locals := 0 } : Room) s m #[(.ref a1), (.int (0 : Int32))] below meth c s₁ [] 0 0 := Stand.of_body Bd
  have e0 : s₁.heap = h0 := by rw [← hh, Bd.state]; rfl
  have N0 := Fr.nil n0
  have pre0 : ∀ t, Steps p.tables e below (s₁.setTop (mkF m 0 #[.val (.ref a1), .val (.int (0 : Int32))] [])) t → Steps p.tables e below (s₁.setTop (entryFrame m #[(.ref a1), (.int (0 : Int32))] 2)) t := fun t k => castTop (ef_9 m a1 (0 : Int32)) k
  obtain ⟨T202, X202, e202, st202⟩ := getF X0 hx hZ hown (host := "") (Or.inl (ww hw 47 rfl)) Via.refl e0 F_numbers_a1 (g := (mkF m 1 #[.val (.ref a1), .val (.int (0 : Int32))] [(.ref a1)])) rfl rfl (hb hby d9_1)
  obtain ⟨cl203, Ar203, q203, Sz203, Nn203, Hh203, Gg203⟩ := id V_aB
  have hin203 : ¬ ((0 : Int32) < 0 ∨ cl203.slots.size ≤ ((0 : Int32)).toNatClampNeg) := inb_of Sz203 ⟨by decide, by decide⟩
  have hat203 : cl203.slots[((0 : Int32)).toNatClampNeg]? = some (.int x0) := Hh203.at hin203 rfl
  obtain ⟨fs, hr, hrun, hended, hW, hsame⟩ := X202.leave (v := some (.int x0)) (fun h => by rw [Bd.returns] at h; cases h)
  refine ⟨_, _, pre0 _ ?_, hrun, hended, _, _, rfl, ?_, ⟨_, rfl⟩, hW, hsame.mono (by decide) (by decide)⟩
  · refine y_aloadN X0.here hx (hb hby d9_0) rfl rfl ?_
    refine st202 _ ?_
    show Steps p.tables e below (T202.setTop (mkF m 4 #[.val (.ref a1), .val (.int (0 : Int32))] [(.ref aB)])) _
    refine y_iloadN X202.here hx (hb hby d9_4) rfl ?_
    refine X202.iaload hx (j := (0 : Int32)) (v := (.int x0)) (by rw [e202]; exact Ar203.1) (State.isArrayOf_alike hZ.alike Ar203.2.1) Ar203.2.2 hin203 hat203 (g := (mkF m 5 #[.val (.ref a1), .val (.int (0 : Int32))] [(.int (0 : Int32)), (.ref aB)])) rfl rfl (hb hby d9_5) _ ?_
    show Steps p.tables e below (T202.setTop (mkF m 6 #[.val (.ref a1), .val (.int (0 : Int32))] [(.int x0)])) _
    exact retI X202 hx Bd.returns (hb hby d9_6) hr
  · show QP _ h0 n0 _ T202.heap _
    rw [e202]
    exact ⟨rfl, N0, rfl⟩
set_option maxRecDepth 65536 in
set_option maxHeartbeats 40000000 in
theorem rm9_4_1 (l : Launch) (Z : State) (a0 : Array Value) (hw : ∀ d ∈ tables_1, d.before a0 Z = true) (ws : List Jvm.Cond) (a1 : Addr) (aB : Addr) (kB : ClassId) (x0 : Int32) (x1 : Int32) (x2 : Int32) (x3 : Int32) (h0 : Heap) (n0 : Nat) (Z0 : n0 ≤ h0.size) (F_numbers_a1 : Fld Z h0 a1 "com/example/hard_delay_bounds/harddelaybounds/analysis/FlowSet" "numbers" "[I" (.ref aB)) (V_aB : Arv Z h0 aB kB .int (4 : Int32) [(.int x0), (.int x1), (.int x2), (.int x3)] (.int (0 : Int32))) :
    MetFree l mn7 (head1 (Jvm.Cond.code mn7 prog_18_method_3_code 2 (some .int) :: ws) ({ frames := 0, cells := 0, slots := 0, locals := 0 } : Room)) (fun a U => a = #[(.ref a1), (.int (1 : Int32))] ∧ Z.Warmed39 U.vm ∧ U.heap = h0) (fun _ _ _ _ _ => True) (fun _ U o U' => ∃ v L, o = .returned v ∧ QP (some (.int x1)) h0 n0 v U'.heap L ∧ FrameEnd U o U' L ({ frames := 0, cells := 0, slots := 0, locals := 0 } : Room).cells ({ frames := 0, cells := 0, slots := 0, locals := 0 } : Room).slots) := by
  refine MetFree.of_bodySF (plainFor_of_name pn_7) hisR ?_
  intro p e s m args below meth c s₁ Bd hml0 hP hK
  obtain ⟨rfl, hZ, hh⟩ := hP
  have hx := Bd.exec
  have hby := Bd.bytes
  have hml : c.maxLocals = 2 := hml0
  have hown : s.vm.findClass "com/example/hard_delay_bounds/harddelaybounds/analysis/FlowSet" = some m.cls := findClass_of_methodNamed Bd.named
  have hnm := (name_of_methodNamed Bd.named Bd.method).1
  have X0 : Stand p l e ({ frames := 0, cells := 0, slots := 0, locals := 0 } : Room) s m #[(.ref a1), (.int (1 : Int32))] below meth c s₁ [] 0 0 := Stand.of_body Bd
  have e0 : s₁.heap = h0 := by rw [← hh, Bd.state]; rfl
  have N0 := Fr.nil n0
  have pre0 : ∀ t, Steps p.tables e below (s₁.setTop (mkF m 0 #[.val (.ref a1), .val (.int (1 : Int32))] [])) t → Steps p.tables e below (s₁.setTop (entryFrame m #[(.ref a1), (.int (1 : Int32))] 2)) t := fun t k => castTop (ef_9 m a1 (1 : Int32)) k
  obtain ⟨T204, X204, e204, st204⟩ := getF X0 hx hZ hown (host := "") (Or.inl (ww hw 47 rfl)) Via.refl e0 F_numbers_a1 (g := (mkF m 1 #[.val (.ref a1), .val (.int (1 : Int32))] [(.ref a1)])) rfl rfl (hb hby d9_1)
  obtain ⟨cl205, Ar205, q205, Sz205, Nn205, Hh205, Gg205⟩ := id V_aB
  have hin205 : ¬ ((1 : Int32) < 0 ∨ cl205.slots.size ≤ ((1 : Int32)).toNatClampNeg) := inb_of Sz205 ⟨by decide, by decide⟩
  have hat205 : cl205.slots[((1 : Int32)).toNatClampNeg]? = some (.int x1) := Hh205.at hin205 rfl
  obtain ⟨fs, hr, hrun, hended, hW, hsame⟩ := X204.leave (v := some (.int x1)) (fun h => by rw [Bd.returns] at h; cases h)
  refine ⟨_, _, pre0 _ ?_, hrun, hended, _, _, rfl, ?_, ⟨_, rfl⟩, hW, hsame.mono (by decide) (by decide)⟩
  · refine y_aloadN X0.here hx (hb hby d9_0) rfl rfl ?_
    refine st204 _ ?_
    show Steps p.tables e below (T204.setTop (mkF m 4 #[.val (.ref a1), .val (.int (1 : Int32))] [(.ref aB)])) _
    refine y_iloadN X204.here hx (hb hby d9_4) rfl ?_
    refine X204.iaload hx (j := (1 : Int32)) (v := (.int x1)) (by rw [e204]; exact Ar205.1) (State.isArrayOf_alike hZ.alike Ar205.2.1) Ar205.2.2 hin205 hat205 (g := (mkF m 5 #[.val (.ref a1), .val (.int (1 : Int32))] [(.int (1 : Int32)), (.ref aB)])) rfl rfl (hb hby d9_5) _ ?_
    show Steps p.tables e below (T204.setTop (mkF m 6 #[.val (.ref a1), .val (.int (1 : Int32))] [(.int x1)])) _
    exact retI X204 hx Bd.returns (hb hby d9_6) hr
  · show QP _ h0 n0 _ T204.heap _
    rw [e204]
    exact ⟨rfl, N0, rfl⟩
set_option maxRecDepth 65536 in
set_option maxHeartbeats 40000000 in
theorem rm9_4_2 (l : Launch) (Z : State) (a0 : Array Value) (hw : ∀ d ∈ tables_1, d.before a0 Z = true) (ws : List Jvm.Cond) (a1 : Addr) (aB : Addr) (kB : ClassId) (x0 : Int32) (x1 : Int32) (x2 : Int32) (x3 : Int32) (h0 : Heap) (n0 : Nat) (Z0 : n0 ≤ h0.size) (F_numbers_a1 : Fld Z h0 a1 "com/example/hard_delay_bounds/harddelaybounds/analysis/FlowSet" "numbers" "[I" (.ref aB)) (V_aB : Arv Z h0 aB kB .int (4 : Int32) [(.int x0), (.int x1), (.int x2), (.int x3)] (.int (0 : Int32))) :
    MetFree l mn7 (head1 (Jvm.Cond.code mn7 prog_18_method_3_code 2 (some .int) :: ws) ({ frames := 0, cells := 0, slots := 0, locals := 0 } : Room)) (fun a U => a = #[(.ref a1), (.int (2 : Int32))] ∧ Z.Warmed39 U.vm ∧ U.heap = h0) (fun _ _ _ _ _ => True) (fun _ U o U' => ∃ v L, o = .returned v ∧ QP (some (.int x2)) h0 n0 v U'.heap L ∧ FrameEnd U o U' L ({ frames := 0, cells := 0, slots := 0, locals := 0 } : Room).cells ({ frames := 0, cells := 0, slots := 0, locals := 0 } : Room).slots) := by
  refine MetFree.of_bodySF (plainFor_of_name pn_7) hisR ?_
  intro p e s m args below meth c s₁ Bd hml0 hP hK
  obtain ⟨rfl, hZ, hh⟩ := hP
  have hx := Bd.exec
  have hby := Bd.bytes
  have hml : c.maxLocals = 2 := hml0
  have hown : s.vm.findClass "com/example/hard_delay_bounds/harddelaybounds/analysis/FlowSet" = some m.cls := findClass_of_methodNamed Bd.named
  have hnm := (name_of_methodNamed Bd.named Bd.method).1
  have X0 : Stand p l e ({ frames := 0, cells := 0, slots := 0, locals := 0 } : Room) s m #[(.ref a1), (.int (2 : Int32))] below meth c s₁ [] 0 0 := Stand.of_body Bd
  have e0 : s₁.heap = h0 := by rw [← hh, Bd.state]; rfl
  have N0 := Fr.nil n0
  have pre0 : ∀ t, Steps p.tables e below (s₁.setTop (mkF m 0 #[.val (.ref a1), .val (.int (2 : Int32))] [])) t → Steps p.tables e below (s₁.setTop (entryFrame m #[(.ref a1), (.int (2 : Int32))] 2)) t := fun t k => castTop (ef_9 m a1 (2 : Int32)) k
  obtain ⟨T206, X206, e206, st206⟩ := getF X0 hx hZ hown (host := "") (Or.inl (ww hw 47 rfl)) Via.refl e0 F_numbers_a1 (g := (mkF m 1 #[.val (.ref a1), .val (.int (2 : Int32))] [(.ref a1)])) rfl rfl (hb hby d9_1)
  obtain ⟨cl207, Ar207, q207, Sz207, Nn207, Hh207, Gg207⟩ := id V_aB
  have hin207 : ¬ ((2 : Int32) < 0 ∨ cl207.slots.size ≤ ((2 : Int32)).toNatClampNeg) := inb_of Sz207 ⟨by decide, by decide⟩
  have hat207 : cl207.slots[((2 : Int32)).toNatClampNeg]? = some (.int x2) := Hh207.at hin207 rfl
  obtain ⟨fs, hr, hrun, hended, hW, hsame⟩ := X206.leave (v := some (.int x2)) (fun h => by rw [Bd.returns] at h; cases h)
  refine ⟨_, _, pre0 _ ?_, hrun, hended, _, _, rfl, ?_, ⟨_, rfl⟩, hW, hsame.mono (by decide) (by decide)⟩
  · refine y_aloadN X0.here hx (hb hby d9_0) rfl rfl ?_
    refine st206 _ ?_
    show Steps p.tables e below (T206.setTop (mkF m 4 #[.val (.ref a1), .val (.int (2 : Int32))] [(.ref aB)])) _
    refine y_iloadN X206.here hx (hb hby d9_4) rfl ?_
    refine X206.iaload hx (j := (2 : Int32)) (v := (.int x2)) (by rw [e206]; exact Ar207.1) (State.isArrayOf_alike hZ.alike Ar207.2.1) Ar207.2.2 hin207 hat207 (g := (mkF m 5 #[.val (.ref a1), .val (.int (2 : Int32))] [(.int (2 : Int32)), (.ref aB)])) rfl rfl (hb hby d9_5) _ ?_
    show Steps p.tables e below (T206.setTop (mkF m 6 #[.val (.ref a1), .val (.int (2 : Int32))] [(.int x2)])) _
    exact retI X206 hx Bd.returns (hb hby d9_6) hr
  · show QP _ h0 n0 _ T206.heap _
    rw [e206]
    exact ⟨rfl, N0, rfl⟩
set_option maxRecDepth 65536 in
set_option maxHeartbeats 40000000 in
theorem rm9_4_3 (l : Launch) (Z : State) (a0 : Array Value) (hw : ∀ d ∈ tables_1, d.before a0 Z = true) (ws : List Jvm.Cond) (a1 : Addr) (aB : Addr) (kB : ClassId) (x0 : Int32) (x1 : Int32) (x2 : Int32) (x3 : Int32) (h0 : Heap) (n0 : Nat) (Z0 : n0 ≤ h0.size) (F_numbers_a1 : Fld Z h0 a1 "com/example/hard_delay_bounds/harddelaybounds/analysis/FlowSet" "numbers" "[I" (.ref aB)) (V_aB : Arv Z h0 aB kB .int (4 : Int32) [(.int x0), (.int x1), (.int x2), (.int x3)] (.int (0 : Int32))) :
    MetFree l mn7 (head1 (Jvm.Cond.code mn7 prog_18_method_3_code 2 (some .int) :: ws) ({ frames := 0, cells := 0, slots := 0, locals := 0 } : Room)) (fun a U => a = #[(.ref a1), (.int (3 : Int32))] ∧ Z.Warmed39 U.vm ∧ U.heap = h0) (fun _ _ _ _ _ => True) (fun _ U o U' => ∃ v L, o = .returned v ∧ QP (some (.int x3)) h0 n0 v U'.heap L ∧ FrameEnd U o U' L ({ frames := 0, cells := 0, slots := 0, locals := 0 } : Room).cells ({ frames := 0, cells := 0, slots := 0, locals := 0 } : Room).slots) := by
  refine MetFree.of_bodySF (plainFor_of_name pn_7) hisR ?_
  intro p e s m args below meth c s₁ Bd hml0 hP hK
  obtain ⟨rfl, hZ, hh⟩ := hP
  have hx := Bd.exec
  have hby := Bd.bytes
  have hml : c.maxLocals = 2 := hml0
  have hown : s.vm.findClass "com/example/hard_delay_bounds/harddelaybounds/analysis/FlowSet" = some m.cls := findClass_of_methodNamed Bd.named
  have hnm := (name_of_methodNamed Bd.named Bd.method).1
  have X0 : Stand p l e ({ frames := 0, cells := 0, slots := 0, locals := 0 } : Room) s m #[(.ref a1), (.int (3 : Int32))] below meth c s₁ [] 0 0 := Stand.of_body Bd
  have e0 : s₁.heap = h0 := by rw [← hh, Bd.state]; rfl
  have N0 := Fr.nil n0
  have pre0 : ∀ t, Steps p.tables e below (s₁.setTop (mkF m 0 #[.val (.ref a1), .val (.int (3 : Int32))] [])) t → Steps p.tables e below (s₁.setTop (entryFrame m #[(.ref a1), (.int (3 : Int32))] 2)) t := fun t k => castTop (ef_9 m a1 (3 : Int32)) k
  obtain ⟨T208, X208, e208, st208⟩ := getF X0 hx hZ hown (host := "") (Or.inl (ww hw 47 rfl)) Via.refl e0 F_numbers_a1 (g := (mkF m 1 #[.val (.ref a1), .val (.int (3 : Int32))] [(.ref a1)])) rfl rfl (hb hby d9_1)
  obtain ⟨cl209, Ar209, q209, Sz209, Nn209, Hh209, Gg209⟩ := id V_aB
  have hin209 : ¬ ((3 : Int32) < 0 ∨ cl209.slots.size ≤ ((3 : Int32)).toNatClampNeg) := inb_of Sz209 ⟨by decide, by decide⟩
  have hat209 : cl209.slots[((3 : Int32)).toNatClampNeg]? = some (.int x3) := Hh209.at hin209 rfl
  obtain ⟨fs, hr, hrun, hended, hW, hsame⟩ := X208.leave (v := some (.int x3)) (fun h => by rw [Bd.returns] at h; cases h)
  refine ⟨_, _, pre0 _ ?_, hrun, hended, _, _, rfl, ?_, ⟨_, rfl⟩, hW, hsame.mono (by decide) (by decide)⟩
  · refine y_aloadN X0.here hx (hb hby d9_0) rfl rfl ?_
    refine st208 _ ?_
    show Steps p.tables e below (T208.setTop (mkF m 4 #[.val (.ref a1), .val (.int (3 : Int32))] [(.ref aB)])) _
    refine y_iloadN X208.here hx (hb hby d9_4) rfl ?_
    refine X208.iaload hx (j := (3 : Int32)) (v := (.int x3)) (by rw [e208]; exact Ar209.1) (State.isArrayOf_alike hZ.alike Ar209.2.1) Ar209.2.2 hin209 hat209 (g := (mkF m 5 #[.val (.ref a1), .val (.int (3 : Int32))] [(.int (3 : Int32)), (.ref aB)])) rfl rfl (hb hby d9_5) _ ?_
    show Steps p.tables e below (T208.setTop (mkF m 6 #[.val (.ref a1), .val (.int (3 : Int32))] [(.int x3)])) _
    exact retI X208 hx Bd.returns (hb hby d9_6) hr
  · show QP _ h0 n0 _ T208.heap _
    rw [e208]
    exact ⟨rfl, N0, rfl⟩
set_option maxRecDepth 65536 in
set_option maxHeartbeats 40000000 in
theorem rm6_8_5_5 (l : Launch) (Z : State) (a0 : Array Value) (hw : ∀ d ∈ tables_1, d.before a0 Z = true) (ws : List Jvm.Cond) (a1 : Addr) (k1 : ClassId) (x0 : Int32) (x1 : Int32) (x2 : Int32) (x3 : Int32) (x4 : Int32) (h0 : Heap) (n0 : Nat) (Z0 : n0 ≤ h0.size) (E_a1 : Exa Z h0 a1 "[I") (V_a1 : Arv Z h0 a1 k1 .int (8 : Int32) [(.int x0), (.int x1), (.int x2), (.int x3), (.int x4), (.int (0 : Int32)), (.int (0 : Int32)), (.int (0 : Int32))] (.int (0 : Int32))) :
    MetFree l mn3 (head1 (Jvm.Cond.code mn3 jdk_65_method_123_code 3 (some (.array .int)) :: ws) ({ frames := 1, cells := 1, slots := 5, locals := 18 } : Room)) (fun a U => a = #[(.ref a1), (.int (5 : Int32))] ∧ Z.Warmed39 U.vm ∧ U.heap = h0) (fun _ _ _ _ _ => True) (fun _ U o U' => ∃ v L, o = .returned v ∧ QC Z (5 : Int32) [(.int x0), (.int x1), (.int x2), (.int x3), (.int x4)] h0 n0 v U'.heap L ∧ FrameEnd U o U' L ({ frames := 1, cells := 1, slots := 5, locals := 18 } : Room).cells ({ frames := 1, cells := 1, slots := 5, locals := 18 } : Room).slots) := by
  refine MetFree.of_bodySF (plainFor_of_name pn_6) hisR ?_
  intro p e s m args below meth c s₁ Bd hml0 hP hK
  obtain ⟨rfl, hZ, hh⟩ := hP
  have hx := Bd.exec
  have hby := Bd.bytes
  have hml : c.maxLocals = 3 := hml0
  have hown : s.vm.findClass "java/util/Arrays" = some m.cls := findClass_of_methodNamed Bd.named
  have hnm := (name_of_methodNamed Bd.named Bd.method).1
  have X0 : Stand p l e ({ frames := 1, cells := 1, slots := 5, locals := 18 } : Room) s m #[(.ref a1), (.int (5 : Int32))] below meth c s₁ [] 0 0 := Stand.of_body Bd
  have e0 : s₁.heap = h0 := by rw [← hh, Bd.state]; rfl
  have N0 := Fr.nil n0
  have pre0 : ∀ t, Steps p.tables e below (s₁.setTop (mkF m 0 #[.val (.ref a1), .val (.int (5 : Int32)), .unset] [])) t → Steps p.tables e below (s₁.setTop (entryFrame m #[(.ref a1), (.int (5 : Int32))] 3)) t := fun t k => castTop (ef_6 m a1 (5 : Int32)) k
  have KK := Keep.refl h0 []
  obtain ⟨cl210, Ar210, q210, Sz210, Nn210, Hh210, Gg210⟩ := id V_a1
  obtain ⟨T211, h211, k211, X211, e211, E211, A211, Ex211, st211⟩ := newPE X0 hx hZ (ww hw 16 rfl) e0 (g := (mkF m 15 #[.val (.ref a1), .val (.int (5 : Int32)), .unset] [(.int (5 : Int32))])) rfl (hb hby d6_15) rfl (by decide) (cap := 5) (by decide) (by decide) (by decide) (by decide) (ad := "[I") (by first | rfl | decide)
  obtain ⟨b211, g211⟩ : ∃ z, z = h0.size := ⟨_, rfl⟩
  rw [← g211] at A211 Ex211 st211
  have g_b211 : n0 ≤ b211 := Nat.le_trans Z0 (Nat.le_of_eq g211.symm)
  have sz_b211 : h0.size ≤ b211 := Nat.le_trans KK.1 (Nat.le_of_eq g211.symm)
  have ne_a1_b211 : a1 ≠ b211 := Nat.ne_of_lt (Nat.lt_of_lt_of_le E_a1.lt (Nat.le_of_eq g211.symm))
  replace E_a1 := E_a1.ext E211
  replace V_a1 := V_a1.ext E211
  replace Z0 := Nat.le_trans Z0 E211.1
  replace KK := KK.ext E211
  have V_b211 : Arv Z h211 b211 k211 .int (5 : Int32) [(.int (0 : Int32)), (.int (0 : Int32)), (.int (0 : Int32)), (.int (0 : Int32)), (.int (0 : Int32))] (.int (0 : Int32)) := (Arv.new A211 (by decide)).pad (pad_rep [] (.int (0 : Int32)) 5)
  have E_b211 : Exa Z h211 b211 "[I" := Ex211
  obtain ⟨cl212, Ar212, q212, Sz212, Nn212, Hh212, Gg212⟩ := id V_a1
  obtain ⟨_, _, ⟨T213, L213, k213, n213⟩, -, X213, ⟨Lc213, hQ213, l213, y213, z213⟩, st213⟩ := Jvm.LawKit.callS X211 hx (y := mn0) hown (mvT hZ (ww hw 38 rfl)) (mvT hZ (ww hw 3 rfl)) (mvT hZ (ww hw 4 rfl)) (mvT hZ (ww hw 5 rfl)) (by decide) (backOf (W := 4) (rm1 l Z a0 hw [] (8 : Int32) (5 : Int32) h211 n0 Z0) hZ (ww hw 5 rfl) (ww hw 4 rfl) (by decide) (by decide)) (g := (mkF m 25 #[.val (.ref a1), .val (.int (5 : Int32)), .val (.ref b211)] [(.int (5 : Int32)), (.int (8 : Int32)), (.int (0 : Int32)), (.ref b211), (.int (0 : Int32)), (.ref a1)])) rfl (by rw [hml]; rfl) (argsL := [(.int (8 : Int32)), (.int (5 : Int32))]) (rest := [(.int (0 : Int32)), (.ref b211), (.int (0 : Int32)), (.ref a1)]) (lenOf pd_0 rfl) rfl (by show 2 * 0 + _ ≤ _; exact Nat.le_of_eq rfl) (hb hby d6_25) (fun _ _ => ⟨rfl, e211, (by decide : 1 + 0 ≤ _), (by decide : 5 + 0 ≤ _)⟩)
  dsimp only [Pt.U, Pt.locs, Pt.cells, Pt.slots] at X213 l213 y213 z213 st213 hQ213
  subst l213 y213 z213
  obtain ⟨rfl, N213q, e213⟩ := hQ213
  rw [show f1 (8 : Int32) (5 : Int32) = (5 : Int32) from by decide] at st213
  have N213 := Fr.app N0 N213q
  obtain ⟨T214, h214, L214, X214, e214, N214, K214, Vn214, st214⟩ := cpA X213 hx hZ hown (ww hw 39 rfl) (ww hw 42 rfl) (ww hw 40 rfl) (ww hw 41 rfl) e213 (us := [(.int x0), (.int x1), (.int x2), (.int x3), (.int x4)]) V_a1 V_b211 (Or.inl ⟨rfl, rfl⟩) (by decide) (by decide) (by decide) (by decide) (by decide) rfl (by decide) N213 g_b211 (g := (mkF m 28 #[.val (.ref a1), .val (.int (5 : Int32)), .val (.ref b211)] [(.int (5 : Int32)), (.int (0 : Int32)), (.ref b211), (.int (0 : Int32)), (.ref a1)])) rfl (by rw [hml]; rfl) rfl (hb hby d6_28) (by decide) (W := 0) (by show 2 * 0 + _ ≤ _; exact Nat.le_of_eq rfl) (by decide)
  replace E_a1 := E_a1.keep K214
  replace V_a1 := V_a1.keep K214 (ninS ne_a1_b211 nin0)
  replace E_b211 := E_b211.keep K214
  replace Z0 := Nat.le_trans Z0 K214.1
  replace KK := KK.trans K214 (allS (Or.inr sz_b211) all0)
  have V_b211 : Arv Z h214 b211 k211 .int (5 : Int32) [(.int x0), (.int x1), (.int x2), (.int x3), (.int x4)] (.int (0 : Int32)) := Vn214
  obtain ⟨fs, hr, hrun, hended, hW, hsame⟩ := X214.leave (v := some (.ref b211)) (fun h => by rw [Bd.returns] at h; cases h)
  refine ⟨_, _, pre0 _ ?_, hrun, hended, _, _, rfl, ?_, ⟨_, rfl⟩, hW, hsame.mono (by decide) (by decide)⟩
  · refine y_iloadN X0.here hx (hb hby d6_0) rfl ?_
    refine y_aloadN X0.here hx (hb hby d6_1) rfl rfl ?_
    refine X0.arraylength hx (by rw [e0]; exact Ar210.1) (State.isArrayOf_alike hZ.alike Ar210.2.1) (g := (mkF m 2 #[.val (.ref a1), .val (.int (5 : Int32)), .unset] [(.ref a1), (.int (5 : Int32))])) rfl rfl (hb hby d6_2) _ ?_
    rw [len_of Sz210 Nn210]
    show Steps p.tables e below (s₁.setTop (mkF m 3 #[.val (.ref a1), .val (.int (5 : Int32)), .unset] [(.int (8 : Int32)), (.int (5 : Int32))])) _
    refine y_icmpYes X0.here hx (pc' := 14) (hb hby d6_3) (feq (by decide)).2 (by decide) (by decide) ?_
    refine y_iloadN X0.here hx (hb hby d6_14) rfl ?_
    refine st211 _ ?_
    show Steps p.tables e below (T211.setTop (mkF m 17 #[.val (.ref a1), .val (.int (5 : Int32)), .unset] [(.ref b211)])) _
    refine y_astoreN X211.here hx (hb hby d6_17) rfl (l' := #[.val (.ref a1), .val (.int (5 : Int32)), .val (.ref b211)]) rfl ?_
    refine y_aloadN X211.here hx (hb hby d6_18) rfl rfl ?_
    refine y_iconst X211.here hx (v := (0 : Int32)) (hb hby d6_19) rfl ?_
    refine y_aloadN X211.here hx (hb hby d6_20) rfl rfl ?_
    refine y_iconst X211.here hx (v := (0 : Int32)) (hb hby d6_21) rfl ?_
    refine y_aloadN X211.here hx (hb hby d6_22) rfl rfl ?_
    refine X211.arraylength hx (by rw [e211]; exact Ar212.1) (State.isArrayOf_alike hZ.alike Ar212.2.1) (g := (mkF m 23 #[.val (.ref a1), .val (.int (5 : Int32)), .val (.ref b211)] [(.ref a1), (.int (0 : Int32)), (.ref b211), (.int (0 : Int32)), (.ref a1)])) rfl rfl (hb hby d6_23) _ ?_
    rw [len_of Sz212 Nn212]
    show Steps p.tables e below (T211.setTop (mkF m 24 #[.val (.ref a1), .val (.int (5 : Int32)), .val (.ref b211)] [(.int (8 : Int32)), (.int (0 : Int32)), (.ref b211), (.int (0 : Int32)), (.ref a1)])) _
    refine y_iloadN X211.here hx (hb hby d6_24) rfl ?_
    refine st213 _ ?_
    show Steps p.tables e below (T213.setTop (mkF m 28 #[.val (.ref a1), .val (.int (5 : Int32)), .val (.ref b211)] [(.int (5 : Int32)), (.int (0 : Int32)), (.ref b211), (.int (0 : Int32)), (.ref a1)])) _
    refine st214 _ ?_
    show Steps p.tables e below (T214.setTop (mkF m 31 #[.val (.ref a1), .val (.int (5 : Int32)), .val (.ref b211)] [])) _
    refine y_aloadN X214.here hx (hb hby d6_31) rfl rfl ?_
    show Steps p.tables e below (T214.setTop (mkF m 32 #[.val (.ref a1), .val (.int (5 : Int32)), .val (.ref b211)] [(.ref b211)])) _
    jvm_step X214.here [X214.here.top, hx, (hb hby d6_32), X214.method', Bd.returns, Value.isRef, FieldType.isReference]
    first | (intro acts; rw [hr _ acts rfl rfl rfl]) | rw [hr _ _ rfl rfl rfl]
    exact Steps.refl _
  · show QC Z (5 : Int32) [(.int x0), (.int x1), (.int x2), (.int x3), (.int x4)] h0 n0 _ T214.heap _
    rw [e214]
    exact ⟨b211, _, rfl, N214, KK, sz_b211, V_b211, E_b211⟩
abbrev lo7_5_0 (a1 : Addr) (a2 : Addr) : Array Slot := #[.val (.ref a1), .val (.ref a2), .val (.int (5 : Int32)), .val (.ref a2), .val (.int (5 : Int32)), .unset, .unset]
abbrev lo7_5_1 (a1 : Addr) (a2 : Addr) : Array Slot := #[.val (.ref a1), .val (.ref a2), .val (.int (5 : Int32)), .val (.ref a2), .val (.int (5 : Int32)), .val (.int (0 : Int32)), .unset]
abbrev lo7_5_2 (a1 : Addr) (a2 : Addr) (x0 : Int32) : Array Slot := #[.val (.ref a1), .val (.ref a2), .val (.int (5 : Int32)), .val (.ref a2), .val (.int (5 : Int32)), .val (.int (0 : Int32)), .val (.int x0)]
abbrev lo7_5_3 (a1 : Addr) (a2 : Addr) (x0 : Int32) : Array Slot := #[.val (.ref a1), .val (.ref a2), .val (.int (((5 : Int32) ^^^ x0) * (-1640531535 : Int32))), .val (.ref a2), .val (.int (5 : Int32)), .val (.int (0 : Int32)), .val (.int x0)]
abbrev lo7_5_4 (a1 : Addr) (a2 : Addr) (x0 : Int32) : Array Slot := #[.val (.ref a1), .val (.ref a2), .val (.int ((((5 : Int32) ^^^ x0) * (-1640531535 : Int32)) ^^^ (((((5 : Int32) ^^^ x0) * (-1640531535 : Int32)).toUInt32 >>> ((15 : Int32) &&& 31).toUInt32).toInt32))), .val (.ref a2), .val (.int (5 : Int32)), .val (.int (0 : Int32)), .val (.int x0)]
abbrev lo7_5_5 (a1 : Addr) (a2 : Addr) (x0 : Int32) : Array Slot := #[.val (.ref a1), .val (.ref a2), .val (.int ((((5 : Int32) ^^^ x0) * (-1640531535 : Int32)) ^^^ (((((5 : Int32) ^^^ x0) * (-1640531535 : Int32)).toUInt32 >>> ((15 : Int32) &&& 31).toUInt32).toInt32))), .val (.ref a2), .val (.int (5 : Int32)), .val (.int (1 : Int32)), .val (.int x0)]
abbrev lo7_5_6 (a1 : Addr) (a2 : Addr) (z222 : Int32) (x0 : Int32) : Array Slot := #[.val (.ref a1), .val (.ref a2), .val (.int z222), .val (.ref a2), .val (.int (5 : Int32)), .val (.int (1 : Int32)), .val (.int x0)]
abbrev lo7_5_7 (a1 : Addr) (a2 : Addr) (z222 : Int32) (x1 : Int32) : Array Slot := #[.val (.ref a1), .val (.ref a2), .val (.int z222), .val (.ref a2), .val (.int (5 : Int32)), .val (.int (1 : Int32)), .val (.int x1)]
abbrev lo7_5_8 (a1 : Addr) (a2 : Addr) (z222 : Int32) (x1 : Int32) : Array Slot := #[.val (.ref a1), .val (.ref a2), .val (.int ((z222 ^^^ x1) * (-1640531535 : Int32))), .val (.ref a2), .val (.int (5 : Int32)), .val (.int (1 : Int32)), .val (.int x1)]
abbrev lo7_5_9 (a1 : Addr) (a2 : Addr) (z222 : Int32) (x1 : Int32) : Array Slot := #[.val (.ref a1), .val (.ref a2), .val (.int (((z222 ^^^ x1) * (-1640531535 : Int32)) ^^^ ((((z222 ^^^ x1) * (-1640531535 : Int32)).toUInt32 >>> ((15 : Int32) &&& 31).toUInt32).toInt32))), .val (.ref a2), .val (.int (5 : Int32)), .val (.int (1 : Int32)), .val (.int x1)]
abbrev lo7_5_10 (a1 : Addr) (a2 : Addr) (z222 : Int32) (x1 : Int32) : Array Slot := #[.val (.ref a1), .val (.ref a2), .val (.int (((z222 ^^^ x1) * (-1640531535 : Int32)) ^^^ ((((z222 ^^^ x1) * (-1640531535 : Int32)).toUInt32 >>> ((15 : Int32) &&& 31).toUInt32).toInt32))), .val (.ref a2), .val (.int (5 : Int32)), .val (.int (2 : Int32)), .val (.int x1)]
abbrev lo7_5_11 (a1 : Addr) (a2 : Addr) (z225 : Int32) (x1 : Int32) : Array Slot := #[.val (.ref a1), .val (.ref a2), .val (.int z225), .val (.ref a2), .val (.int (5 : Int32)), .val (.int (2 : Int32)), .val (.int x1)]
abbrev lo7_5_12 (a1 : Addr) (a2 : Addr) (z225 : Int32) (x2 : Int32) : Array Slot := #[.val (.ref a1), .val (.ref a2), .val (.int z225), .val (.ref a2), .val (.int (5 : Int32)), .val (.int (2 : Int32)), .val (.int x2)]
abbrev lo7_5_13 (a1 : Addr) (a2 : Addr) (z225 : Int32) (x2 : Int32) : Array Slot := #[.val (.ref a1), .val (.ref a2), .val (.int ((z225 ^^^ x2) * (-1640531535 : Int32))), .val (.ref a2), .val (.int (5 : Int32)), .val (.int (2 : Int32)), .val (.int x2)]
abbrev lo7_5_14 (a1 : Addr) (a2 : Addr) (z225 : Int32) (x2 : Int32) : Array Slot := #[.val (.ref a1), .val (.ref a2), .val (.int (((z225 ^^^ x2) * (-1640531535 : Int32)) ^^^ ((((z225 ^^^ x2) * (-1640531535 : Int32)).toUInt32 >>> ((15 : Int32) &&& 31).toUInt32).toInt32))), .val (.ref a2), .val (.int (5 : Int32)), .val (.int (2 : Int32)), .val (.int x2)]
abbrev lo7_5_15 (a1 : Addr) (a2 : Addr) (z225 : Int32) (x2 : Int32) : Array Slot := #[.val (.ref a1), .val (.ref a2), .val (.int (((z225 ^^^ x2) * (-1640531535 : Int32)) ^^^ ((((z225 ^^^ x2) * (-1640531535 : Int32)).toUInt32 >>> ((15 : Int32) &&& 31).toUInt32).toInt32))), .val (.ref a2), .val (.int (5 : Int32)), .val (.int (3 : Int32)), .val (.int x2)]
abbrev lo7_5_16 (a1 : Addr) (a2 : Addr) (z228 : Int32) (x2 : Int32) : Array Slot := #[.val (.ref a1), .val (.ref a2), .val (.int z228), .val (.ref a2), .val (.int (5 : Int32)), .val (.int (3 : Int32)), .val (.int x2)]
abbrev lo7_5_17 (a1 : Addr) (a2 : Addr) (z228 : Int32) (x3 : Int32) : Array Slot := #[.val (.ref a1), .val (.ref a2), .val (.int z228), .val (.ref a2), .val (.int (5 : Int32)), .val (.int (3 : Int32)), .val (.int x3)]
abbrev lo7_5_18 (a1 : Addr) (a2 : Addr) (z228 : Int32) (x3 : Int32) : Array Slot := #[.val (.ref a1), .val (.ref a2), .val (.int ((z228 ^^^ x3) * (-1640531535 : Int32))), .val (.ref a2), .val (.int (5 : Int32)), .val (.int (3 : Int32)), .val (.int x3)]
abbrev lo7_5_19 (a1 : Addr) (a2 : Addr) (z228 : Int32) (x3 : Int32) : Array Slot := #[.val (.ref a1), .val (.ref a2), .val (.int (((z228 ^^^ x3) * (-1640531535 : Int32)) ^^^ ((((z228 ^^^ x3) * (-1640531535 : Int32)).toUInt32 >>> ((15 : Int32) &&& 31).toUInt32).toInt32))), .val (.ref a2), .val (.int (5 : Int32)), .val (.int (3 : Int32)), .val (.int x3)]
abbrev lo7_5_20 (a1 : Addr) (a2 : Addr) (z228 : Int32) (x3 : Int32) : Array Slot := #[.val (.ref a1), .val (.ref a2), .val (.int (((z228 ^^^ x3) * (-1640531535 : Int32)) ^^^ ((((z228 ^^^ x3) * (-1640531535 : Int32)).toUInt32 >>> ((15 : Int32) &&& 31).toUInt32).toInt32))), .val (.ref a2), .val (.int (5 : Int32)), .val (.int (4 : Int32)), .val (.int x3)]
abbrev lo7_5_21 (a1 : Addr) (a2 : Addr) (z231 : Int32) (x3 : Int32) : Array Slot := #[.val (.ref a1), .val (.ref a2), .val (.int z231), .val (.ref a2), .val (.int (5 : Int32)), .val (.int (4 : Int32)), .val (.int x3)]
abbrev lo7_5_22 (a1 : Addr) (a2 : Addr) (z231 : Int32) (x4 : Int32) : Array Slot := #[.val (.ref a1), .val (.ref a2), .val (.int z231), .val (.ref a2), .val (.int (5 : Int32)), .val (.int (4 : Int32)), .val (.int x4)]
abbrev lo7_5_23 (a1 : Addr) (a2 : Addr) (z231 : Int32) (x4 : Int32) : Array Slot := #[.val (.ref a1), .val (.ref a2), .val (.int ((z231 ^^^ x4) * (-1640531535 : Int32))), .val (.ref a2), .val (.int (5 : Int32)), .val (.int (4 : Int32)), .val (.int x4)]
abbrev lo7_5_24 (a1 : Addr) (a2 : Addr) (z231 : Int32) (x4 : Int32) : Array Slot := #[.val (.ref a1), .val (.ref a2), .val (.int (((z231 ^^^ x4) * (-1640531535 : Int32)) ^^^ ((((z231 ^^^ x4) * (-1640531535 : Int32)).toUInt32 >>> ((15 : Int32) &&& 31).toUInt32).toInt32))), .val (.ref a2), .val (.int (5 : Int32)), .val (.int (4 : Int32)), .val (.int x4)]
abbrev lo7_5_25 (a1 : Addr) (a2 : Addr) (z231 : Int32) (x4 : Int32) : Array Slot := #[.val (.ref a1), .val (.ref a2), .val (.int (((z231 ^^^ x4) * (-1640531535 : Int32)) ^^^ ((((z231 ^^^ x4) * (-1640531535 : Int32)).toUInt32 >>> ((15 : Int32) &&& 31).toUInt32).toInt32))), .val (.ref a2), .val (.int (5 : Int32)), .val (.int (5 : Int32)), .val (.int x4)]
abbrev lo7_5_26 (a1 : Addr) (a2 : Addr) (z234 : Int32) (x4 : Int32) : Array Slot := #[.val (.ref a1), .val (.ref a2), .val (.int z234), .val (.ref a2), .val (.int (5 : Int32)), .val (.int (5 : Int32)), .val (.int x4)]
set_option maxRecDepth 65536 in
set_option maxHeartbeats 40000000 in
theorem rm7_5 (l : Launch) (Z : State) (a0 : Array Value) (hw : ∀ d ∈ tables_1, d.before a0 Z = true) (ws : List Jvm.Cond) (a1 : Addr) (a2 : Addr) (k2 : ClassId) (x0 : Int32) (x1 : Int32) (x2 : Int32) (x3 : Int32) (x4 : Int32) (h0 : Heap) (n0 : Nat) (Z0 : n0 ≤ h0.size) (E_a1 : Exa Z h0 a1 "com/example/hard_delay_bounds/harddelaybounds/analysis/FlowSet") (F_numbers_a1 : Fld Z h0 a1 "com/example/hard_delay_bounds/harddelaybounds/analysis/FlowSet" "numbers" "[I" .null) (F_hash_a1 : Fld Z h0 a1 "com/example/hard_delay_bounds/harddelaybounds/analysis/FlowSet" "hash" "I" (.int (0 : Int32))) (V_a2 : Arv Z h0 a2 k2 .int (5 : Int32) [(.int x0), (.int x1), (.int x2), (.int x3), (.int x4)] (.int (0 : Int32))) (g_a1 : n0 ≤ a1) (ne_a1_a2 : a1 ≠ a2) :
    MetFree l mn4 (head1 (Jvm.Cond.code mn4 prog_18_method_1_code 7 none :: ws) ({ frames := 1, cells := 0, slots := 0, locals := 12 } : Room)) (fun a U => a = #[(.ref a1), (.ref a2)] ∧ Z.Warmed39 U.vm ∧ U.heap = h0) (fun _ _ _ _ _ => True) (fun _ U o U' => ∃ v L, o = .returned v ∧ QI Z a1 a2 h0 n0 v U'.heap L ∧ FrameEnd U o U' L ({ frames := 1, cells := 0, slots := 0, locals := 12 } : Room).cells ({ frames := 1, cells := 0, slots := 0, locals := 12 } : Room).slots) := by
  refine MetFree.of_bodySF (plainFor_of_name pn_7) hisR ?_
  intro p e s m args below meth c s₁ Bd hml0 hP hK
  obtain ⟨rfl, hZ, hh⟩ := hP
  have hx := Bd.exec
  have hby := Bd.bytes
  have hml : c.maxLocals = 7 := hml0
  have hown : s.vm.findClass "com/example/hard_delay_bounds/harddelaybounds/analysis/FlowSet" = some m.cls := findClass_of_methodNamed Bd.named
  have hnm := (name_of_methodNamed Bd.named Bd.method).1
  have X0 : Stand p l e ({ frames := 1, cells := 0, slots := 0, locals := 12 } : Room) s m #[(.ref a1), (.ref a2)] below meth c s₁ [] 0 0 := Stand.of_body Bd
  have e0 : s₁.heap = h0 := by rw [← hh, Bd.state]; rfl
  have N0 := Fr.nil n0
  have pre0 : ∀ t, Steps p.tables e below (s₁.setTop (mkF m 0 #[.val (.ref a1), .val (.ref a2), .unset, .unset, .unset, .unset, .unset] [])) t → Steps p.tables e below (s₁.setTop (entryFrame m #[(.ref a1), (.ref a2)] 7)) t := fun t k => castTop (ef_7 m a1 a2) k
  have KK := Keep.refl h0 [a1]
  obtain ⟨T215, X215, e215, st215⟩ := initO X0 hx hZ hown (ww hw 46 rfl) (ww hw 14 rfl) (ww hw 15 rfl) e0 (g := (mkF m 1 #[.val (.ref a1), .val (.ref a2), .unset, .unset, .unset, .unset, .unset] [(.ref a1)])) rfl (by rw [hml]; rfl) rfl (hb hby d7_1) (by decide) (W := 0) (by show 2 * 0 + _ ≤ _; exact Nat.le_of_eq rfl) (by decide)
  obtain ⟨T216, h216, X216, e216, W216, st216⟩ := putF X215 hx hZ hown (host := "") (Or.inl (ww hw 47 rfl)) Via.refl e215 F_numbers_a1 E_a1 (Or.inr ⟨(ww hw 48 rfl), rfl, hnm⟩) (ww hw 32 rfl) (ty := (.array .int)) (by decide) rfl rfl (g := (mkF m 6 #[.val (.ref a1), .val (.ref a2), .unset, .unset, .unset, .unset, .unset] [(.ref a2), (.ref a1)])) rfl rfl (hb hby d7_6)
  replace E_a1 := E_a1.wr W216
  replace F_numbers_a1 := F_numbers_a1.same W216
  replace F_hash_a1 := F_hash_a1.other W216 (Or.inr (slot_ne (Or.inr (ww hw 51 rfl)) (Or.inr (ww hw 48 rfl)) (by decide) (t := .int) (t' := (.array .int)) (by decide) (by decide)))
  replace V_a2 := V_a2.other W216 (Ne.symm ne_a1_a2)
  replace Z0 := Nat.le_trans Z0 (Keep.of_wr W216).1
  replace KK := KK.wr W216 (Or.inl (List.mem_of_getElem? (i := 0) rfl))
  have N216 := Fr.snoc X216 N0 g_a1
  obtain ⟨cl217, Ar217, q217, Sz217, Nn217, Hh217, Gg217⟩ := id V_a2
  obtain ⟨cl218, Ar218, q218, Sz218, Nn218, Hh218, Gg218⟩ := id V_a2
  have pre219 : ∀ t, Steps p.tables e below (T216.setTop (mkF m 21 #[.val (.ref a1), .val (.ref a2), .val (.int (5 : Int32)), .val (.ref a2), .val (.int (5 : Int32)), .val (.int (0 : Int32)), .unset] [])) t → Steps p.tables e below (s₁.setTop (entryFrame m #[(.ref a1), (.ref a2)] 7)) t := fun t k => by
    refine pre0 _ ?_
    refine y_aloadN X0.here hx (hb hby d7_0) rfl rfl ?_
    refine st215 _ ?_
    show Steps p.tables e below (T215.setTop (mkF m 4 #[.val (.ref a1), .val (.ref a2), .unset, .unset, .unset, .unset, .unset] [])) _
    refine y_aloadN X215.here hx (hb hby d7_4) rfl rfl ?_
    refine y_aloadN X215.here hx (hb hby d7_5) rfl rfl ?_
    refine st216 _ ?_
    show Steps p.tables e below (T216.setTop (mkF m 9 #[.val (.ref a1), .val (.ref a2), .unset, .unset, .unset, .unset, .unset] [])) _
    refine y_aloadN X216.here hx (hb hby d7_9) rfl rfl ?_
    refine X216.arraylength hx (by rw [e216]; exact Ar217.1) (State.isArrayOf_alike hZ.alike Ar217.2.1) (g := (mkF m 10 #[.val (.ref a1), .val (.ref a2), .unset, .unset, .unset, .unset, .unset] [(.ref a2)])) rfl rfl (hb hby d7_10) _ ?_
    rw [len_of Sz217 Nn217]
    show Steps p.tables e below (T216.setTop (mkF m 11 #[.val (.ref a1), .val (.ref a2), .unset, .unset, .unset, .unset, .unset] [(.int (5 : Int32))])) _
    refine y_istoreN X216.here hx (hb hby d7_11) (l' := #[.val (.ref a1), .val (.ref a2), .val (.int (5 : Int32)), .unset, .unset, .unset, .unset]) rfl ?_
    refine y_aloadN X216.here hx (hb hby d7_12) rfl rfl ?_
    refine y_astoreN X216.here hx (hb hby d7_13) rfl (l' := #[.val (.ref a1), .val (.ref a2), .val (.int (5 : Int32)), .val (.ref a2), .unset, .unset, .unset]) rfl ?_
    refine y_aloadN X216.here hx (hb hby d7_14) rfl rfl ?_
    refine X216.arraylength hx (by rw [e216]; exact Ar218.1) (State.isArrayOf_alike hZ.alike Ar218.2.1) (g := (mkF m 15 #[.val (.ref a1), .val (.ref a2), .val (.int (5 : Int32)), .val (.ref a2), .unset, .unset, .unset] [(.ref a2)])) rfl rfl (hb hby d7_15) _ ?_
    rw [len_of Sz218 Nn218]
    show Steps p.tables e below (T216.setTop (mkF m 16 #[.val (.ref a1), .val (.ref a2), .val (.int (5 : Int32)), .val (.ref a2), .unset, .unset, .unset] [(.int (5 : Int32))])) _
    refine y_istore X216.here hx (hb hby d7_16) (l' := (lo7_5_0 a1 a2)) rfl ?_
    refine y_iconst X216.here hx (v := (0 : Int32)) (hb hby d7_18) rfl ?_
    refine y_istore X216.here hx (hb hby d7_19) (l' := (lo7_5_1 a1 a2)) rfl ?_
    exact k
  obtain ⟨cl220, Ar220, q220, Sz220, Nn220, Hh220, Gg220⟩ := id V_a2
  have hin220 : ¬ ((0 : Int32) < 0 ∨ cl220.slots.size ≤ ((0 : Int32)).toNatClampNeg) := inb_of Sz220 ⟨by decide, by decide⟩
  have hat220 : cl220.slots[((0 : Int32)).toNatClampNeg]? = some (.int x0) := Hh220.at hin220 rfl
  have pre221 : ∀ t, Steps p.tables e below (T216.setTop (mkF m 21 #[.val (.ref a1), .val (.ref a2), .val (.int ((((5 : Int32) ^^^ x0) * (-1640531535 : Int32)) ^^^ (((((5 : Int32) ^^^ x0) * (-1640531535 : Int32)).toUInt32 >>> ((15 : Int32) &&& 31).toUInt32).toInt32))), .val (.ref a2), .val (.int (5 : Int32)), .val (.int (1 : Int32)), .val (.int x0)] [])) t → Steps p.tables e below (s₁.setTop (entryFrame m #[(.ref a1), (.ref a2)] 7)) t := fun t k => by
    refine pre219 _ ?_
    refine y_iload X216.here hx (hb hby d7_21) rfl ?_
    refine y_iload X216.here hx (hb hby d7_23) rfl ?_
    refine y_icmpNo X216.here hx (hb hby d7_25) (tlt (by decide)).2.1 ?_
    refine y_aloadN X216.here hx (hb hby d7_28) rfl rfl ?_
    refine y_iload X216.here hx (hb hby d7_29) rfl ?_
    refine X216.iaload hx (j := (0 : Int32)) (v := (.int x0)) (by rw [e216]; exact Ar220.1) (State.isArrayOf_alike hZ.alike Ar220.2.1) Ar220.2.2 hin220 hat220 (g := (mkF m 31 (lo7_5_1 a1 a2) [(.int (0 : Int32)), (.ref a2)])) rfl rfl (hb hby d7_31) _ ?_
    show Steps p.tables e below (T216.setTop (mkF m 32 (lo7_5_1 a1 a2) [(.int x0)])) _
    refine y_istore X216.here hx (hb hby d7_32) (l' := (lo7_5_2 a1 a2 x0)) rfl ?_
    refine y_iloadN X216.here hx (hb hby d7_34) rfl ?_
    refine y_iload X216.here hx (hb hby d7_35) rfl ?_
    refine y_ixor X216.here hx (hb hby d7_37) ?_
    refine X216.ldcInt hx hown (mvT hZ (ww hw 49 rfl)) (g := (mkF m 38 (lo7_5_2 a1 a2 x0) [(.int ((5 : Int32) ^^^ x0))])) rfl (hb hby d7_38) _ ?_
    show Steps p.tables e below (T216.setTop (mkF m 40 (lo7_5_2 a1 a2 x0) [(.int (-1640531535 : Int32)), (.int ((5 : Int32) ^^^ x0))])) _
    refine y_imul X216.here hx (hb hby d7_40) ?_
    refine y_istoreN X216.here hx (hb hby d7_41) (l' := (lo7_5_3 a1 a2 x0)) rfl ?_
    refine y_iloadN X216.here hx (hb hby d7_42) rfl ?_
    refine y_iloadN X216.here hx (hb hby d7_43) rfl ?_
    refine y_bipush X216.here hx (v := (15 : Int32)) (hb hby d7_44) rfl ?_
    refine y_iushr X216.here hx (hb hby d7_46) ?_
    refine y_ixor X216.here hx (hb hby d7_47) ?_
    refine y_istoreN X216.here hx (hb hby d7_48) (l' := (lo7_5_4 a1 a2 x0)) rfl ?_
    refine y_iinc X216.here hx (hb hby d7_49) rfl (l' := (lo7_5_5 a1 a2 x0)) rfl ?_
    refine y_goto X216.here hx (pc' := 21) (hb hby d7_52) (by decide) (by decide) ?_
    exact k
  obtain ⟨z222, hz222⟩ : ∃ z, z = ((((5 : Int32) ^^^ x0) * (-1640531535 : Int32)) ^^^ (((((5 : Int32) ^^^ x0) * (-1640531535 : Int32)).toUInt32 >>> ((15 : Int32) &&& 31).toUInt32).toInt32)) := ⟨_, rfl⟩
  rw [← hz222] at pre221
  obtain ⟨cl223, Ar223, q223, Sz223, Nn223, Hh223, Gg223⟩ := id V_a2
  have hin223 : ¬ ((1 : Int32) < 0 ∨ cl223.slots.size ≤ ((1 : Int32)).toNatClampNeg) := inb_of Sz223 ⟨by decide, by decide⟩
  have hat223 : cl223.slots[((1 : Int32)).toNatClampNeg]? = some (.int x1) := Hh223.at hin223 rfl
  have pre224 : ∀ t, Steps p.tables e below (T216.setTop (mkF m 21 #[.val (.ref a1), .val (.ref a2), .val (.int (((z222 ^^^ x1) * (-1640531535 : Int32)) ^^^ ((((z222 ^^^ x1) * (-1640531535 : Int32)).toUInt32 >>> ((15 : Int32) &&& 31).toUInt32).toInt32))), .val (.ref a2), .val (.int (5 : Int32)), .val (.int (2 : Int32)), .val (.int x1)] [])) t → Steps p.tables e below (s₁.setTop (entryFrame m #[(.ref a1), (.ref a2)] 7)) t := fun t k => by
    refine pre221 _ ?_
    refine y_iload X216.here hx (hb hby d7_21) rfl ?_
    refine y_iload X216.here hx (hb hby d7_23) rfl ?_
    refine y_icmpNo X216.here hx (hb hby d7_25) (tlt (by decide)).2.1 ?_
    refine y_aloadN X216.here hx (hb hby d7_28) rfl rfl ?_
    refine y_iload X216.here hx (hb hby d7_29) rfl ?_
    refine X216.iaload hx (j := (1 : Int32)) (v := (.int x1)) (by rw [e216]; exact Ar223.1) (State.isArrayOf_alike hZ.alike Ar223.2.1) Ar223.2.2 hin223 hat223 (g := (mkF m 31 (lo7_5_6 a1 a2 z222 x0) [(.int (1 : Int32)), (.ref a2)])) rfl rfl (hb hby d7_31) _ ?_
    show Steps p.tables e below (T216.setTop (mkF m 32 (lo7_5_6 a1 a2 z222 x0) [(.int x1)])) _
    refine y_istore X216.here hx (hb hby d7_32) (l' := (lo7_5_7 a1 a2 z222 x1)) rfl ?_
    refine y_iloadN X216.here hx (hb hby d7_34) rfl ?_
    refine y_iload X216.here hx (hb hby d7_35) rfl ?_
    refine y_ixor X216.here hx (hb hby d7_37) ?_
    refine X216.ldcInt hx hown (mvT hZ (ww hw 49 rfl)) (g := (mkF m 38 (lo7_5_7 a1 a2 z222 x1) [(.int (z222 ^^^ x1))])) rfl (hb hby d7_38) _ ?_
    show Steps p.tables e below (T216.setTop (mkF m 40 (lo7_5_7 a1 a2 z222 x1) [(.int (-1640531535 : Int32)), (.int (z222 ^^^ x1))])) _
    refine y_imul X216.here hx (hb hby d7_40) ?_
    refine y_istoreN X216.here hx (hb hby d7_41) (l' := (lo7_5_8 a1 a2 z222 x1)) rfl ?_
    refine y_iloadN X216.here hx (hb hby d7_42) rfl ?_
    refine y_iloadN X216.here hx (hb hby d7_43) rfl ?_
    refine y_bipush X216.here hx (v := (15 : Int32)) (hb hby d7_44) rfl ?_
    refine y_iushr X216.here hx (hb hby d7_46) ?_
    refine y_ixor X216.here hx (hb hby d7_47) ?_
    refine y_istoreN X216.here hx (hb hby d7_48) (l' := (lo7_5_9 a1 a2 z222 x1)) rfl ?_
    refine y_iinc X216.here hx (hb hby d7_49) rfl (l' := (lo7_5_10 a1 a2 z222 x1)) rfl ?_
    refine y_goto X216.here hx (pc' := 21) (hb hby d7_52) (by decide) (by decide) ?_
    exact k
  obtain ⟨z225, hz225⟩ : ∃ z, z = (((z222 ^^^ x1) * (-1640531535 : Int32)) ^^^ ((((z222 ^^^ x1) * (-1640531535 : Int32)).toUInt32 >>> ((15 : Int32) &&& 31).toUInt32).toInt32)) := ⟨_, rfl⟩
  rw [← hz225] at pre224
  obtain ⟨cl226, Ar226, q226, Sz226, Nn226, Hh226, Gg226⟩ := id V_a2
  have hin226 : ¬ ((2 : Int32) < 0 ∨ cl226.slots.size ≤ ((2 : Int32)).toNatClampNeg) := inb_of Sz226 ⟨by decide, by decide⟩
  have hat226 : cl226.slots[((2 : Int32)).toNatClampNeg]? = some (.int x2) := Hh226.at hin226 rfl
  have pre227 : ∀ t, Steps p.tables e below (T216.setTop (mkF m 21 #[.val (.ref a1), .val (.ref a2), .val (.int (((z225 ^^^ x2) * (-1640531535 : Int32)) ^^^ ((((z225 ^^^ x2) * (-1640531535 : Int32)).toUInt32 >>> ((15 : Int32) &&& 31).toUInt32).toInt32))), .val (.ref a2), .val (.int (5 : Int32)), .val (.int (3 : Int32)), .val (.int x2)] [])) t → Steps p.tables e below (s₁.setTop (entryFrame m #[(.ref a1), (.ref a2)] 7)) t := fun t k => by
    refine pre224 _ ?_
    refine y_iload X216.here hx (hb hby d7_21) rfl ?_
    refine y_iload X216.here hx (hb hby d7_23) rfl ?_
    refine y_icmpNo X216.here hx (hb hby d7_25) (tlt (by decide)).2.1 ?_
    refine y_aloadN X216.here hx (hb hby d7_28) rfl rfl ?_
    refine y_iload X216.here hx (hb hby d7_29) rfl ?_
    refine X216.iaload hx (j := (2 : Int32)) (v := (.int x2)) (by rw [e216]; exact Ar226.1) (State.isArrayOf_alike hZ.alike Ar226.2.1) Ar226.2.2 hin226 hat226 (g := (mkF m 31 (lo7_5_11 a1 a2 z225 x1) [(.int (2 : Int32)), (.ref a2)])) rfl rfl (hb hby d7_31) _ ?_
    show Steps p.tables e below (T216.setTop (mkF m 32 (lo7_5_11 a1 a2 z225 x1) [(.int x2)])) _
    refine y_istore X216.here hx (hb hby d7_32) (l' := (lo7_5_12 a1 a2 z225 x2)) rfl ?_
    refine y_iloadN X216.here hx (hb hby d7_34) rfl ?_
    refine y_iload X216.here hx (hb hby d7_35) rfl ?_
    refine y_ixor X216.here hx (hb hby d7_37) ?_
    refine X216.ldcInt hx hown (mvT hZ (ww hw 49 rfl)) (g := (mkF m 38 (lo7_5_12 a1 a2 z225 x2) [(.int (z225 ^^^ x2))])) rfl (hb hby d7_38) _ ?_
    show Steps p.tables e below (T216.setTop (mkF m 40 (lo7_5_12 a1 a2 z225 x2) [(.int (-1640531535 : Int32)), (.int (z225 ^^^ x2))])) _
    refine y_imul X216.here hx (hb hby d7_40) ?_
    refine y_istoreN X216.here hx (hb hby d7_41) (l' := (lo7_5_13 a1 a2 z225 x2)) rfl ?_
    refine y_iloadN X216.here hx (hb hby d7_42) rfl ?_
    refine y_iloadN X216.here hx (hb hby d7_43) rfl ?_
    refine y_bipush X216.here hx (v := (15 : Int32)) (hb hby d7_44) rfl ?_
    refine y_iushr X216.here hx (hb hby d7_46) ?_
    refine y_ixor X216.here hx (hb hby d7_47) ?_
    refine y_istoreN X216.here hx (hb hby d7_48) (l' := (lo7_5_14 a1 a2 z225 x2)) rfl ?_
    refine y_iinc X216.here hx (hb hby d7_49) rfl (l' := (lo7_5_15 a1 a2 z225 x2)) rfl ?_
    refine y_goto X216.here hx (pc' := 21) (hb hby d7_52) (by decide) (by decide) ?_
    exact k
  obtain ⟨z228, hz228⟩ : ∃ z, z = (((z225 ^^^ x2) * (-1640531535 : Int32)) ^^^ ((((z225 ^^^ x2) * (-1640531535 : Int32)).toUInt32 >>> ((15 : Int32) &&& 31).toUInt32).toInt32)) := ⟨_, rfl⟩
  rw [← hz228] at pre227
  obtain ⟨cl229, Ar229, q229, Sz229, Nn229, Hh229, Gg229⟩ := id V_a2
  have hin229 : ¬ ((3 : Int32) < 0 ∨ cl229.slots.size ≤ ((3 : Int32)).toNatClampNeg) := inb_of Sz229 ⟨by decide, by decide⟩
  have hat229 : cl229.slots[((3 : Int32)).toNatClampNeg]? = some (.int x3) := Hh229.at hin229 rfl
  have pre230 : ∀ t, Steps p.tables e below (T216.setTop (mkF m 21 #[.val (.ref a1), .val (.ref a2), .val (.int (((z228 ^^^ x3) * (-1640531535 : Int32)) ^^^ ((((z228 ^^^ x3) * (-1640531535 : Int32)).toUInt32 >>> ((15 : Int32) &&& 31).toUInt32).toInt32))), .val (.ref a2), .val (.int (5 : Int32)), .val (.int (4 : Int32)), .val (.int x3)] [])) t → Steps p.tables e below (s₁.setTop (entryFrame m #[(.ref a1), (.ref a2)] 7)) t := fun t k => by
    refine pre227 _ ?_
    refine y_iload X216.here hx (hb hby d7_21) rfl ?_
    refine y_iload X216.here hx (hb hby d7_23) rfl ?_
    refine y_icmpNo X216.here hx (hb hby d7_25) (tlt (by decide)).2.1 ?_
    refine y_aloadN X216.here hx (hb hby d7_28) rfl rfl ?_
    refine y_iload X216.here hx (hb hby d7_29) rfl ?_
    refine X216.iaload hx (j := (3 : Int32)) (v := (.int x3)) (by rw [e216]; exact Ar229.1) (State.isArrayOf_alike hZ.alike Ar229.2.1) Ar229.2.2 hin229 hat229 (g := (mkF m 31 (lo7_5_16 a1 a2 z228 x2) [(.int (3 : Int32)), (.ref a2)])) rfl rfl (hb hby d7_31) _ ?_
    show Steps p.tables e below (T216.setTop (mkF m 32 (lo7_5_16 a1 a2 z228 x2) [(.int x3)])) _
    refine y_istore X216.here hx (hb hby d7_32) (l' := (lo7_5_17 a1 a2 z228 x3)) rfl ?_
    refine y_iloadN X216.here hx (hb hby d7_34) rfl ?_
    refine y_iload X216.here hx (hb hby d7_35) rfl ?_
    refine y_ixor X216.here hx (hb hby d7_37) ?_
    refine X216.ldcInt hx hown (mvT hZ (ww hw 49 rfl)) (g := (mkF m 38 (lo7_5_17 a1 a2 z228 x3) [(.int (z228 ^^^ x3))])) rfl (hb hby d7_38) _ ?_
    show Steps p.tables e below (T216.setTop (mkF m 40 (lo7_5_17 a1 a2 z228 x3) [(.int (-1640531535 : Int32)), (.int (z228 ^^^ x3))])) _
    refine y_imul X216.here hx (hb hby d7_40) ?_
    refine y_istoreN X216.here hx (hb hby d7_41) (l' := (lo7_5_18 a1 a2 z228 x3)) rfl ?_
    refine y_iloadN X216.here hx (hb hby d7_42) rfl ?_
    refine y_iloadN X216.here hx (hb hby d7_43) rfl ?_
    refine y_bipush X216.here hx (v := (15 : Int32)) (hb hby d7_44) rfl ?_
    refine y_iushr X216.here hx (hb hby d7_46) ?_
    refine y_ixor X216.here hx (hb hby d7_47) ?_
    refine y_istoreN X216.here hx (hb hby d7_48) (l' := (lo7_5_19 a1 a2 z228 x3)) rfl ?_
    refine y_iinc X216.here hx (hb hby d7_49) rfl (l' := (lo7_5_20 a1 a2 z228 x3)) rfl ?_
    refine y_goto X216.here hx (pc' := 21) (hb hby d7_52) (by decide) (by decide) ?_
    exact k
  obtain ⟨z231, hz231⟩ : ∃ z, z = (((z228 ^^^ x3) * (-1640531535 : Int32)) ^^^ ((((z228 ^^^ x3) * (-1640531535 : Int32)).toUInt32 >>> ((15 : Int32) &&& 31).toUInt32).toInt32)) := ⟨_, rfl⟩
  rw [← hz231] at pre230
  obtain ⟨cl232, Ar232, q232, Sz232, Nn232, Hh232, Gg232⟩ := id V_a2
  have hin232 : ¬ ((4 : Int32) < 0 ∨ cl232.slots.size ≤ ((4 : Int32)).toNatClampNeg) := inb_of Sz232 ⟨by decide, by decide⟩
  have hat232 : cl232.slots[((4 : Int32)).toNatClampNeg]? = some (.int x4) := Hh232.at hin232 rfl
  have pre233 : ∀ t, Steps p.tables e below (T216.setTop (mkF m 21 #[.val (.ref a1), .val (.ref a2), .val (.int (((z231 ^^^ x4) * (-1640531535 : Int32)) ^^^ ((((z231 ^^^ x4) * (-1640531535 : Int32)).toUInt32 >>> ((15 : Int32) &&& 31).toUInt32).toInt32))), .val (.ref a2), .val (.int (5 : Int32)), .val (.int (5 : Int32)), .val (.int x4)] [])) t → Steps p.tables e below (s₁.setTop (entryFrame m #[(.ref a1), (.ref a2)] 7)) t := fun t k => by
    refine pre230 _ ?_
    refine y_iload X216.here hx (hb hby d7_21) rfl ?_
    refine y_iload X216.here hx (hb hby d7_23) rfl ?_
    refine y_icmpNo X216.here hx (hb hby d7_25) (tlt (by decide)).2.1 ?_
    refine y_aloadN X216.here hx (hb hby d7_28) rfl rfl ?_
    refine y_iload X216.here hx (hb hby d7_29) rfl ?_
    refine X216.iaload hx (j := (4 : Int32)) (v := (.int x4)) (by rw [e216]; exact Ar232.1) (State.isArrayOf_alike hZ.alike Ar232.2.1) Ar232.2.2 hin232 hat232 (g := (mkF m 31 (lo7_5_21 a1 a2 z231 x3) [(.int (4 : Int32)), (.ref a2)])) rfl rfl (hb hby d7_31) _ ?_
    show Steps p.tables e below (T216.setTop (mkF m 32 (lo7_5_21 a1 a2 z231 x3) [(.int x4)])) _
    refine y_istore X216.here hx (hb hby d7_32) (l' := (lo7_5_22 a1 a2 z231 x4)) rfl ?_
    refine y_iloadN X216.here hx (hb hby d7_34) rfl ?_
    refine y_iload X216.here hx (hb hby d7_35) rfl ?_
    refine y_ixor X216.here hx (hb hby d7_37) ?_
    refine X216.ldcInt hx hown (mvT hZ (ww hw 49 rfl)) (g := (mkF m 38 (lo7_5_22 a1 a2 z231 x4) [(.int (z231 ^^^ x4))])) rfl (hb hby d7_38) _ ?_
    show Steps p.tables e below (T216.setTop (mkF m 40 (lo7_5_22 a1 a2 z231 x4) [(.int (-1640531535 : Int32)), (.int (z231 ^^^ x4))])) _
    refine y_imul X216.here hx (hb hby d7_40) ?_
    refine y_istoreN X216.here hx (hb hby d7_41) (l' := (lo7_5_23 a1 a2 z231 x4)) rfl ?_
    refine y_iloadN X216.here hx (hb hby d7_42) rfl ?_
    refine y_iloadN X216.here hx (hb hby d7_43) rfl ?_
    refine y_bipush X216.here hx (v := (15 : Int32)) (hb hby d7_44) rfl ?_
    refine y_iushr X216.here hx (hb hby d7_46) ?_
    refine y_ixor X216.here hx (hb hby d7_47) ?_
    refine y_istoreN X216.here hx (hb hby d7_48) (l' := (lo7_5_24 a1 a2 z231 x4)) rfl ?_
    refine y_iinc X216.here hx (hb hby d7_49) rfl (l' := (lo7_5_25 a1 a2 z231 x4)) rfl ?_
    refine y_goto X216.here hx (pc' := 21) (hb hby d7_52) (by decide) (by decide) ?_
    exact k
  obtain ⟨z234, hz234⟩ : ∃ z, z = (((z231 ^^^ x4) * (-1640531535 : Int32)) ^^^ ((((z231 ^^^ x4) * (-1640531535 : Int32)).toUInt32 >>> ((15 : Int32) &&& 31).toUInt32).toInt32)) := ⟨_, rfl⟩
  rw [← hz234] at pre233
  obtain ⟨T235, h235, X235, e235, W235, st235⟩ := putF X216 hx hZ hown (host := "") (Or.inl (ww hw 50 rfl)) Via.refl e216 F_hash_a1 E_a1 (Or.inr ⟨(ww hw 51 rfl), rfl, hnm⟩) (ww hw 32 rfl) (ty := .int) (by decide) rfl rfl (g := (mkF m 57 (lo7_5_26 a1 a2 z234 x4) [(.int z234), (.ref a1)])) rfl rfl (hb hby d7_57)
  replace E_a1 := E_a1.wr W235
  replace F_numbers_a1 := F_numbers_a1.other W235 (Or.inr (slot_ne (Or.inr (ww hw 48 rfl)) (Or.inr (ww hw 51 rfl)) (by decide) (t := (.array .int)) (t' := .int) (by decide) (by decide)))
  replace F_hash_a1 := F_hash_a1.same W235
  replace V_a2 := V_a2.other W235 (Ne.symm ne_a1_a2)
  replace Z0 := Nat.le_trans Z0 (Keep.of_wr W235).1
  replace KK := KK.wr W235 (Or.inl (List.mem_of_getElem? (i := 0) rfl))
  have N235 := Fr.snoc X235 N216 g_a1
  obtain ⟨fs, hr, hrun, hended, hW, hsame⟩ := X235.leave (v := none) (fun _ => rfl)
  refine ⟨_, _, pre233 _ ?_, hrun, hended, _, _, rfl, ?_, ⟨_, rfl⟩, hW, hsame.mono (by decide) (by decide)⟩
  · refine y_iload X216.here hx (hb hby d7_21) rfl ?_
    refine y_iload X216.here hx (hb hby d7_23) rfl ?_
    refine y_icmpYes X216.here hx (pc' := 55) (hb hby d7_25) (flt (by decide)).2.1 (by decide) (by decide) ?_
    refine y_aloadN X216.here hx (hb hby d7_55) rfl rfl ?_
    refine y_iloadN X216.here hx (hb hby d7_56) rfl ?_
    refine st235 _ ?_
    show Steps p.tables e below (T235.setTop (mkF m 60 (lo7_5_26 a1 a2 z234 x4) [])) _
    exact X235.returnOut hx Bd.returns (hb hby d7_60) hr
  · show QI Z a1 a2 h0 n0 _ T235.heap _
    rw [e235]
    exact ⟨rfl, N235, KK, F_numbers_a1⟩
set_option maxRecDepth 65536 in
set_option maxHeartbeats 40000000 in
theorem rm5_5 (l : Launch) (Z : State) (a0 : Array Value) (hw : ∀ d ∈ tables_1, d.before a0 Z = true) (ws : List Jvm.Cond) (a1 : Addr) (aA : Addr) (kA : ClassId) (x0 : Int32) (x1 : Int32) (x2 : Int32) (x3 : Int32) (x4 : Int32) (h0 : Heap) (n0 : Nat) (Z0 : n0 ≤ h0.size) (E_a1 : Exa Z h0 a1 "com/example/hard_delay_bounds/harddelaybounds/analysis/FlowSet$Builder") (F_numbers_a1 : Fld Z h0 a1 "com/example/hard_delay_bounds/harddelaybounds/analysis/FlowSet$Builder" "numbers" "[I" (.ref aA)) (F_size_a1 : Fld Z h0 a1 "com/example/hard_delay_bounds/harddelaybounds/analysis/FlowSet$Builder" "size" "I" (.int (5 : Int32))) (E_aA : Exa Z h0 aA "[I") (V_aA : Arv Z h0 aA kA .int (8 : Int32) [(.int x0), (.int x1), (.int x2), (.int x3), (.int x4), (.int (0 : Int32)), (.int (0 : Int32)), (.int (0 : Int32))] (.int (0 : Int32))) (ne_a1_aA : a1 ≠ aA) :
    MetFree l mn5 (head1 (Jvm.Cond.code mn5 prog_19_method_3_code 1 (some (.object "com/example/hard_delay_bounds/harddelaybounds/analysis/FlowSet")) :: ws) ({ frames := 2, cells := 2, slots := 7, locals := 34 } : Room)) (fun a U => a = #[(.ref a1)] ∧ Z.Warmed39 U.vm ∧ U.heap = h0) (fun _ _ _ _ _ => True) (fun _ U o U' => ∃ v L, o = .returned v ∧ QS Z (5 : Int32) [(.int x0), (.int x1), (.int x2), (.int x3), (.int x4)] h0 n0 v U'.heap L ∧ FrameEnd U o U' L ({ frames := 2, cells := 2, slots := 7, locals := 34 } : Room).cells ({ frames := 2, cells := 2, slots := 7, locals := 34 } : Room).slots) := by
  refine MetFree.of_bodySF (plainFor_of_name pn_2) hisR ?_
  intro p e s m args below meth c s₁ Bd hml0 hP hK
  obtain ⟨rfl, hZ, hh⟩ := hP
  have hx := Bd.exec
  have hby := Bd.bytes
  have hml : c.maxLocals = 1 := hml0
  have hown : s.vm.findClass "com/example/hard_delay_bounds/harddelaybounds/analysis/FlowSet$Builder" = some m.cls := findClass_of_methodNamed Bd.named
  have hnm := (name_of_methodNamed Bd.named Bd.method).1
  have X0 : Stand p l e ({ frames := 2, cells := 2, slots := 7, locals := 34 } : Room) s m #[(.ref a1)] below meth c s₁ [] 0 0 := Stand.of_body Bd
  have e0 : s₁.heap = h0 := by rw [← hh, Bd.state]; rfl
  have N0 := Fr.nil n0
  have pre0 : ∀ t, Steps p.tables e below (s₁.setTop (mkF m 0 #[.val (.ref a1)] [])) t → Steps p.tables e below (s₁.setTop (entryFrame m #[(.ref a1)] 1)) t := fun t k => castTop (ef_5 m a1) k
  have KK := Keep.refl h0 []
  obtain ⟨T236, h236, X236, e236, E236, A236, D236, -, st236⟩ := newO X0 hx hZ hown (ww hw 31 rfl) (ww hw 32 rfl) (ww hw 33 rfl) e0 (g := (mkF m 0 #[.val (.ref a1)] [])) rfl (hb hby d5_0) (by decide) (by decide)
  obtain ⟨b236, g236⟩ : ∃ z, z = h0.size := ⟨_, rfl⟩
  rw [← g236] at A236 D236 st236
  have g_b236 : n0 ≤ b236 := Nat.le_trans Z0 (Nat.le_of_eq g236.symm)
  have sz_b236 : h0.size ≤ b236 := Nat.le_trans KK.1 (Nat.le_of_eq g236.symm)
  have ne_a1_b236 : a1 ≠ b236 := Nat.ne_of_lt (Nat.lt_of_lt_of_le E_a1.lt (Nat.le_of_eq g236.symm))
  have ne_aA_b236 : aA ≠ b236 := Nat.ne_of_lt (Nat.lt_of_lt_of_le E_aA.lt (Nat.le_of_eq g236.symm))
  replace E_a1 := E_a1.ext E236
  replace F_numbers_a1 := F_numbers_a1.ext E236
  replace F_size_a1 := F_size_a1.ext E236
  replace E_aA := E_aA.ext E236
  replace V_aA := V_aA.ext E236
  replace Z0 := Nat.le_trans Z0 E236.1
  replace KK := KK.ext E236
  have E_b236 := A236
  have F_numbers_b236 : Fld Z h236 b236 "com/example/hard_delay_bounds/harddelaybounds/analysis/FlowSet" "numbers" "[I" .null := D236 (Or.inr (ww hw 48 rfl)) (ty := (.array .int)) (by decide)
  have F_hash_b236 : Fld Z h236 b236 "com/example/hard_delay_bounds/harddelaybounds/analysis/FlowSet" "hash" "I" (.int (0 : Int32)) := D236 (Or.inr (ww hw 51 rfl)) (ty := .int) (by decide)
  obtain ⟨T237, X237, e237, st237⟩ := getF X236 hx hZ hown (host := "") (Or.inl (ww hw 17 rfl)) Via.refl e236 F_numbers_a1 (g := (mkF m 5 #[.val (.ref a1)] [(.ref a1), (.ref b236), (.ref b236)])) rfl rfl (hb hby d5_5)
  obtain ⟨T238, X238, e238, st238⟩ := getF X237 hx hZ hown (host := "") (Or.inl (ww hw 24 rfl)) Via.refl e237 F_size_a1 (g := (mkF m 9 #[.val (.ref a1)] [(.ref a1), (.ref aA), (.ref b236), (.ref b236)])) rfl rfl (hb hby d5_9)
  obtain ⟨_, _, ⟨T239, L239, k239, n239⟩, -, X239, ⟨Lc239, hQ239, l239, y239, z239⟩, st239⟩ := Jvm.LawKit.callS X238 hx (y := mn3) hown (mvT hZ (ww hw 34 rfl)) (mvT hZ (ww hw 35 rfl)) (mvT hZ (ww hw 36 rfl)) (mvT hZ (ww hw 37 rfl)) (by decide) (backOf (W := 2) (rm6_8_5_5 l Z a0 hw [] aA kA x0 x1 x2 x3 x4 h236 n0 Z0 E_aA V_aA) hZ (ww hw 37 rfl) (ww hw 36 rfl) (by decide) (by decide)) (g := (mkF m 12 #[.val (.ref a1)] [(.int (5 : Int32)), (.ref aA), (.ref b236), (.ref b236)])) rfl (by rw [hml]; rfl) (argsL := [(.ref aA), (.int (5 : Int32))]) (rest := [(.ref b236), (.ref b236)]) (lenOf pd_1 rfl) rfl (by show 2 * 0 + _ ≤ _; exact Nat.le_of_eq rfl) (hb hby d5_12) (fun _ _ => ⟨rfl, e238, (by decide : 1 + 1 ≤ _), (by decide : 2 + 5 ≤ _)⟩)
  dsimp only [Pt.U, Pt.locs, Pt.cells, Pt.slots] at X239 l239 y239 z239 st239 hQ239
  subst l239 y239 z239
  obtain ⟨h239, e239⟩ : ∃ z, T239.heap = z := ⟨_, rfl⟩
  rw [e239] at hQ239
  obtain ⟨b239, k239, rfl, N239q, K239, s239, Vn239, En239⟩ := hQ239
  have g_b239 : n0 ≤ b239 := Nat.le_trans Z0 s239
  have sz_b239 : h0.size ≤ b239 := Nat.le_trans KK.1 s239
  have ne_a1_b239 : a1 ≠ b239 := Nat.ne_of_lt (Nat.lt_of_lt_of_le E_a1.lt s239)
  have ne_aA_b239 : aA ≠ b239 := Nat.ne_of_lt (Nat.lt_of_lt_of_le E_aA.lt s239)
  have ne_b236_b239 : b236 ≠ b239 := Nat.ne_of_lt (Nat.lt_of_lt_of_le E_b236.lt s239)
  replace E_a1 := E_a1.keep K239
  replace F_numbers_a1 := F_numbers_a1.keep K239 nin0
  replace F_size_a1 := F_size_a1.keep K239 nin0
  replace E_aA := E_aA.keep K239
  replace V_aA := V_aA.keep K239 nin0
  replace E_b236 := E_b236.keep K239
  replace F_numbers_b236 := F_numbers_b236.keep K239 nin0
  replace F_hash_b236 := F_hash_b236.keep K239 nin0
  replace Z0 := Nat.le_trans Z0 K239.1
  replace KK := KK.trans K239 all0
  have V_b239 : Arv Z h239 b239 k239 .int (5 : Int32) [(.int x0), (.int x1), (.int x2), (.int x3), (.int x4)] (.int (0 : Int32)) := Vn239
  have E_b239 := En239
  have N239 := Fr.app N0 N239q
  obtain ⟨_, _, ⟨T240, L240, k240, n240⟩, -, X240, ⟨Lc240, hQ240, l240, y240, z240⟩, st240⟩ := X239.specialBackNest hx (y := mn4) rfl hown (own_mvMN hZ (ww hw 43 rfl)) (mvT hZ (ww hw 44 rfl)) (mvT hZ (ww hw 45 rfl)) (by decide) (backOf (W := 1) (rm7_5 l Z a0 hw [] b236 b239 k239 x0 x1 x2 x3 x4 h239 n0 Z0 E_b236 F_numbers_b236 F_hash_b236 V_b239 g_b236 ne_b236_b239) hZ (ww hw 45 rfl) (ww hw 33 rfl) (by decide) (by decide)) (g := (mkF m 15 #[.val (.ref a1)] [(.ref b239), (.ref b236), (.ref b236)])) rfl (by rw [hml]; rfl) (Steps.refl _) (a := b236) (argsL := [(.ref b239)]) (rest := [(.ref b236)]) (lenOf pd_2 rfl) rfl (by show 2 * 0 + _ ≤ _; exact Nat.le_of_eq rfl) (hb hby d5_15) (fun _ _ => ⟨rfl, e239, (by decide : 2 + 0 ≤ _), (by decide : 7 + 0 ≤ _)⟩)
  dsimp only [Pt.U, Pt.locs, Pt.cells, Pt.slots] at X240 l240 y240 z240 st240 hQ240
  subst l240 y240 z240
  obtain ⟨h240, e240⟩ : ∃ z, T240.heap = z := ⟨_, rfl⟩
  rw [e240] at hQ240
  obtain ⟨rfl, N240q, K240, Fn240⟩ := hQ240
  replace E_a1 := E_a1.keep K240
  replace F_numbers_a1 := F_numbers_a1.keep K240 (ninS ne_a1_b236 nin0)
  replace F_size_a1 := F_size_a1.keep K240 (ninS ne_a1_b236 nin0)
  replace E_aA := E_aA.keep K240
  replace V_aA := V_aA.keep K240 (ninS ne_aA_b236 nin0)
  replace E_b236 := E_b236.keep K240
  replace V_b239 := V_b239.keep K240 (ninS (Ne.symm ne_b236_b239) nin0)
  replace E_b239 := E_b239.keep K240
  replace Z0 := Nat.le_trans Z0 K240.1
  replace KK := KK.trans K240 (allS (Or.inr sz_b236) all0)
  have F_numbers_b236 := Fn240
  have N240 := Fr.app N239 N240q
  obtain ⟨fs, hr, hrun, hended, hW, hsame⟩ := X240.leave (v := some (.ref b236)) (fun h => by rw [Bd.returns] at h; cases h)
  refine ⟨_, _, pre0 _ ?_, hrun, hended, _, _, rfl, ?_, ⟨_, rfl⟩, hW, hsame.mono (by decide) (by decide)⟩
  · refine st236 _ ?_
    show Steps p.tables e below (T236.setTop (mkF m 3 #[.val (.ref a1)] [(.ref b236)])) _
    refine y_dup X236.here hx (hb hby d5_3) rfl ?_
    refine y_aloadN X236.here hx (hb hby d5_4) rfl rfl ?_
    refine st237 _ ?_
    show Steps p.tables e below (T237.setTop (mkF m 8 #[.val (.ref a1)] [(.ref aA), (.ref b236), (.ref b236)])) _
    refine y_aloadN X237.here hx (hb hby d5_8) rfl rfl ?_
    refine st238 _ ?_
    show Steps p.tables e below (T238.setTop (mkF m 12 #[.val (.ref a1)] [(.int (5 : Int32)), (.ref aA), (.ref b236), (.ref b236)])) _
    refine st239 _ ?_
    show Steps p.tables e below (T239.setTop (mkF m 15 #[.val (.ref a1)] [(.ref b239), (.ref b236), (.ref b236)])) _
    refine st240.trans ?_
    show Steps p.tables e below (T240.setTop (mkF m 18 #[.val (.ref a1)] [(.ref b236)])) _
    jvm_step X240.here [X240.here.top, hx, (hb hby d5_18), X240.method', Bd.returns, Value.isRef, FieldType.isReference]
    first | (intro acts; rw [hr _ acts rfl rfl rfl]) | rw [hr _ _ rfl rfl rfl]
    exact Steps.refl _
  · show QS Z (5 : Int32) [(.int x0), (.int x1), (.int x2), (.int x3), (.int x4)] h0 n0 _ T240.heap _
    rw [e240]
    exact ⟨b236, b239, _, rfl, N240, KK, sz_b236, sz_b239, E_b236, F_numbers_b236, V_b239⟩
set_option maxRecDepth 65536 in
set_option maxHeartbeats 40000000 in
theorem rm8_5 (l : Launch) (Z : State) (a0 : Array Value) (hw : ∀ d ∈ tables_1, d.before a0 Z = true) (ws : List Jvm.Cond) (a1 : Addr) (aB : Addr) (kB : ClassId) (x0 : Int32) (x1 : Int32) (x2 : Int32) (x3 : Int32) (x4 : Int32) (h0 : Heap) (n0 : Nat) (Z0 : n0 ≤ h0.size) (F_numbers_a1 : Fld Z h0 a1 "com/example/hard_delay_bounds/harddelaybounds/analysis/FlowSet" "numbers" "[I" (.ref aB)) (V_aB : Arv Z h0 aB kB .int (5 : Int32) [(.int x0), (.int x1), (.int x2), (.int x3), (.int x4)] (.int (0 : Int32))) :
    MetFree l mn6 (head1 (Jvm.Cond.code mn6 prog_18_method_2_code 1 (some .int) :: ws) ({ frames := 0, cells := 0, slots := 0, locals := 0 } : Room)) (fun a U => a = #[(.ref a1)] ∧ Z.Warmed39 U.vm ∧ U.heap = h0) (fun _ _ _ _ _ => True) (fun _ U o U' => ∃ v L, o = .returned v ∧ QP (some (.int (5 : Int32))) h0 n0 v U'.heap L ∧ FrameEnd U o U' L ({ frames := 0, cells := 0, slots := 0, locals := 0 } : Room).cells ({ frames := 0, cells := 0, slots := 0, locals := 0 } : Room).slots) := by
  refine MetFree.of_bodySF (plainFor_of_name pn_7) hisR ?_
  intro p e s m args below meth c s₁ Bd hml0 hP hK
  obtain ⟨rfl, hZ, hh⟩ := hP
  have hx := Bd.exec
  have hby := Bd.bytes
  have hml : c.maxLocals = 1 := hml0
  have hown : s.vm.findClass "com/example/hard_delay_bounds/harddelaybounds/analysis/FlowSet" = some m.cls := findClass_of_methodNamed Bd.named
  have hnm := (name_of_methodNamed Bd.named Bd.method).1
  have X0 : Stand p l e ({ frames := 0, cells := 0, slots := 0, locals := 0 } : Room) s m #[(.ref a1)] below meth c s₁ [] 0 0 := Stand.of_body Bd
  have e0 : s₁.heap = h0 := by rw [← hh, Bd.state]; rfl
  have N0 := Fr.nil n0
  have pre0 : ∀ t, Steps p.tables e below (s₁.setTop (mkF m 0 #[.val (.ref a1)] [])) t → Steps p.tables e below (s₁.setTop (entryFrame m #[(.ref a1)] 1)) t := fun t k => castTop (ef_8 m a1) k
  obtain ⟨T241, X241, e241, st241⟩ := getF X0 hx hZ hown (host := "") (Or.inl (ww hw 47 rfl)) Via.refl e0 F_numbers_a1 (g := (mkF m 1 #[.val (.ref a1)] [(.ref a1)])) rfl rfl (hb hby d8_1)
  obtain ⟨cl242, Ar242, q242, Sz242, Nn242, Hh242, Gg242⟩ := id V_aB
  obtain ⟨fs, hr, hrun, hended, hW, hsame⟩ := X241.leave (v := some (.int (5 : Int32))) (fun h => by rw [Bd.returns] at h; cases h)
  refine ⟨_, _, pre0 _ ?_, hrun, hended, _, _, rfl, ?_, ⟨_, rfl⟩, hW, hsame.mono (by decide) (by decide)⟩
  · refine y_aloadN X0.here hx (hb hby d8_0) rfl rfl ?_
    refine st241 _ ?_
    show Steps p.tables e below (T241.setTop (mkF m 4 #[.val (.ref a1)] [(.ref aB)])) _
    refine X241.arraylength hx (by rw [e241]; exact Ar242.1) (State.isArrayOf_alike hZ.alike Ar242.2.1) (g := (mkF m 4 #[.val (.ref a1)] [(.ref aB)])) rfl rfl (hb hby d8_4) _ ?_
    rw [len_of Sz242 Nn242]
    show Steps p.tables e below (T241.setTop (mkF m 5 #[.val (.ref a1)] [(.int (5 : Int32))])) _
    exact retI X241 hx Bd.returns (hb hby d8_5) hr
  · show QP _ h0 n0 _ T241.heap _
    rw [e241]
    exact ⟨rfl, N0, rfl⟩
set_option maxRecDepth 65536 in
set_option maxHeartbeats 40000000 in
theorem rm9_5_0 (l : Launch) (Z : State) (a0 : Array Value) (hw : ∀ d ∈ tables_1, d.before a0 Z = true) (ws : List Jvm.Cond) (a1 : Addr) (aB : Addr) (kB : ClassId) (x0 : Int32) (x1 : Int32) (x2 : Int32) (x3 : Int32) (x4 : Int32) (h0 : Heap) (n0 : Nat) (Z0 : n0 ≤ h0.size) (F_numbers_a1 : Fld Z h0 a1 "com/example/hard_delay_bounds/harddelaybounds/analysis/FlowSet" "numbers" "[I" (.ref aB)) (V_aB : Arv Z h0 aB kB .int (5 : Int32) [(.int x0), (.int x1), (.int x2), (.int x3), (.int x4)] (.int (0 : Int32))) :
    MetFree l mn7 (head1 (Jvm.Cond.code mn7 prog_18_method_3_code 2 (some .int) :: ws) ({ frames := 0, cells := 0, slots := 0, locals := 0 } : Room)) (fun a U => a = #[(.ref a1), (.int (0 : Int32))] ∧ Z.Warmed39 U.vm ∧ U.heap = h0) (fun _ _ _ _ _ => True) (fun _ U o U' => ∃ v L, o = .returned v ∧ QP (some (.int x0)) h0 n0 v U'.heap L ∧ FrameEnd U o U' L ({ frames := 0, cells := 0, slots := 0, locals := 0 } : Room).cells ({ frames := 0, cells := 0, slots := 0, locals := 0 } : Room).slots) := by
  refine MetFree.of_bodySF (plainFor_of_name pn_7) hisR ?_
  intro p e s m args below meth c s₁ Bd hml0 hP hK
  obtain ⟨rfl, hZ, hh⟩ := hP
  have hx := Bd.exec
  have hby := Bd.bytes
  have hml : c.maxLocals = 2 := hml0
  have hown : s.vm.findClass "com/example/hard_delay_bounds/harddelaybounds/analysis/FlowSet" = some m.cls := findClass_of_methodNamed Bd.named
  have hnm := (name_of_methodNamed Bd.named Bd.method).1
  have X0 : Stand p l e ({ frames := 0, cells := 0, slots := 0, locals := 0 } : Room) s m #[(.ref a1), (.int (0 : Int32))] below meth c s₁ [] 0 0 := Stand.of_body Bd
  have e0 : s₁.heap = h0 := by rw [← hh, Bd.state]; rfl
  have N0 := Fr.nil n0
  have pre0 : ∀ t, Steps p.tables e below (s₁.setTop (mkF m 0 #[.val (.ref a1), .val (.int (0 : Int32))] [])) t → Steps p.tables e below (s₁.setTop (entryFrame m #[(.ref a1), (.int (0 : Int32))] 2)) t := fun t k => castTop (ef_9 m a1 (0 : Int32)) k
  obtain ⟨T243, X243, e243, st243⟩ := getF X0 hx hZ hown (host := "") (Or.inl (ww hw 47 rfl)) Via.refl e0 F_numbers_a1 (g := (mkF m 1 #[.val (.ref a1), .val (.int (0 : Int32))] [(.ref a1)])) rfl rfl (hb hby d9_1)
  obtain ⟨cl244, Ar244, q244, Sz244, Nn244, Hh244, Gg244⟩ := id V_aB
  have hin244 : ¬ ((0 : Int32) < 0 ∨ cl244.slots.size ≤ ((0 : Int32)).toNatClampNeg) := inb_of Sz244 ⟨by decide, by decide⟩
  have hat244 : cl244.slots[((0 : Int32)).toNatClampNeg]? = some (.int x0) := Hh244.at hin244 rfl
  obtain ⟨fs, hr, hrun, hended, hW, hsame⟩ := X243.leave (v := some (.int x0)) (fun h => by rw [Bd.returns] at h; cases h)
  refine ⟨_, _, pre0 _ ?_, hrun, hended, _, _, rfl, ?_, ⟨_, rfl⟩, hW, hsame.mono (by decide) (by decide)⟩
  · refine y_aloadN X0.here hx (hb hby d9_0) rfl rfl ?_
    refine st243 _ ?_
    show Steps p.tables e below (T243.setTop (mkF m 4 #[.val (.ref a1), .val (.int (0 : Int32))] [(.ref aB)])) _
    refine y_iloadN X243.here hx (hb hby d9_4) rfl ?_
    refine X243.iaload hx (j := (0 : Int32)) (v := (.int x0)) (by rw [e243]; exact Ar244.1) (State.isArrayOf_alike hZ.alike Ar244.2.1) Ar244.2.2 hin244 hat244 (g := (mkF m 5 #[.val (.ref a1), .val (.int (0 : Int32))] [(.int (0 : Int32)), (.ref aB)])) rfl rfl (hb hby d9_5) _ ?_
    show Steps p.tables e below (T243.setTop (mkF m 6 #[.val (.ref a1), .val (.int (0 : Int32))] [(.int x0)])) _
    exact retI X243 hx Bd.returns (hb hby d9_6) hr
  · show QP _ h0 n0 _ T243.heap _
    rw [e243]
    exact ⟨rfl, N0, rfl⟩
set_option maxRecDepth 65536 in
set_option maxHeartbeats 40000000 in
theorem rm9_5_1 (l : Launch) (Z : State) (a0 : Array Value) (hw : ∀ d ∈ tables_1, d.before a0 Z = true) (ws : List Jvm.Cond) (a1 : Addr) (aB : Addr) (kB : ClassId) (x0 : Int32) (x1 : Int32) (x2 : Int32) (x3 : Int32) (x4 : Int32) (h0 : Heap) (n0 : Nat) (Z0 : n0 ≤ h0.size) (F_numbers_a1 : Fld Z h0 a1 "com/example/hard_delay_bounds/harddelaybounds/analysis/FlowSet" "numbers" "[I" (.ref aB)) (V_aB : Arv Z h0 aB kB .int (5 : Int32) [(.int x0), (.int x1), (.int x2), (.int x3), (.int x4)] (.int (0 : Int32))) :
    MetFree l mn7 (head1 (Jvm.Cond.code mn7 prog_18_method_3_code 2 (some .int) :: ws) ({ frames := 0, cells := 0, slots := 0, locals := 0 } : Room)) (fun a U => a = #[(.ref a1), (.int (1 : Int32))] ∧ Z.Warmed39 U.vm ∧ U.heap = h0) (fun _ _ _ _ _ => True) (fun _ U o U' => ∃ v L, o = .returned v ∧ QP (some (.int x1)) h0 n0 v U'.heap L ∧ FrameEnd U o U' L ({ frames := 0, cells := 0, slots := 0, locals := 0 } : Room).cells ({ frames := 0, cells := 0, slots := 0, locals := 0 } : Room).slots) := by
  refine MetFree.of_bodySF (plainFor_of_name pn_7) hisR ?_
  intro p e s m args below meth c s₁ Bd hml0 hP hK
  obtain ⟨rfl, hZ, hh⟩ := hP
  have hx := Bd.exec
  have hby := Bd.bytes
  have hml : c.maxLocals = 2 := hml0
  have hown : s.vm.findClass "com/example/hard_delay_bounds/harddelaybounds/analysis/FlowSet" = some m.cls := findClass_of_methodNamed Bd.named
  have hnm := (name_of_methodNamed Bd.named Bd.method).1
  have X0 : Stand p l e ({ frames := 0, cells := 0, slots := 0, locals := 0 } : Room) s m #[(.ref a1), (.int (1 : Int32))] below meth c s₁ [] 0 0 := Stand.of_body Bd
  have e0 : s₁.heap = h0 := by rw [← hh, Bd.state]; rfl
  have N0 := Fr.nil n0
  have pre0 : ∀ t, Steps p.tables e below (s₁.setTop (mkF m 0 #[.val (.ref a1), .val (.int (1 : Int32))] [])) t → Steps p.tables e below (s₁.setTop (entryFrame m #[(.ref a1), (.int (1 : Int32))] 2)) t := fun t k => castTop (ef_9 m a1 (1 : Int32)) k
  obtain ⟨T245, X245, e245, st245⟩ := getF X0 hx hZ hown (host := "") (Or.inl (ww hw 47 rfl)) Via.refl e0 F_numbers_a1 (g := (mkF m 1 #[.val (.ref a1), .val (.int (1 : Int32))] [(.ref a1)])) rfl rfl (hb hby d9_1)
  obtain ⟨cl246, Ar246, q246, Sz246, Nn246, Hh246, Gg246⟩ := id V_aB
  have hin246 : ¬ ((1 : Int32) < 0 ∨ cl246.slots.size ≤ ((1 : Int32)).toNatClampNeg) := inb_of Sz246 ⟨by decide, by decide⟩
  have hat246 : cl246.slots[((1 : Int32)).toNatClampNeg]? = some (.int x1) := Hh246.at hin246 rfl
  obtain ⟨fs, hr, hrun, hended, hW, hsame⟩ := X245.leave (v := some (.int x1)) (fun h => by rw [Bd.returns] at h; cases h)
  refine ⟨_, _, pre0 _ ?_, hrun, hended, _, _, rfl, ?_, ⟨_, rfl⟩, hW, hsame.mono (by decide) (by decide)⟩
  · refine y_aloadN X0.here hx (hb hby d9_0) rfl rfl ?_
    refine st245 _ ?_
    show Steps p.tables e below (T245.setTop (mkF m 4 #[.val (.ref a1), .val (.int (1 : Int32))] [(.ref aB)])) _
    refine y_iloadN X245.here hx (hb hby d9_4) rfl ?_
    refine X245.iaload hx (j := (1 : Int32)) (v := (.int x1)) (by rw [e245]; exact Ar246.1) (State.isArrayOf_alike hZ.alike Ar246.2.1) Ar246.2.2 hin246 hat246 (g := (mkF m 5 #[.val (.ref a1), .val (.int (1 : Int32))] [(.int (1 : Int32)), (.ref aB)])) rfl rfl (hb hby d9_5) _ ?_
    show Steps p.tables e below (T245.setTop (mkF m 6 #[.val (.ref a1), .val (.int (1 : Int32))] [(.int x1)])) _
    exact retI X245 hx Bd.returns (hb hby d9_6) hr
  · show QP _ h0 n0 _ T245.heap _
    rw [e245]
    exact ⟨rfl, N0, rfl⟩
set_option maxRecDepth 65536 in
set_option maxHeartbeats 40000000 in
theorem rm9_5_2 (l : Launch) (Z : State) (a0 : Array Value) (hw : ∀ d ∈ tables_1, d.before a0 Z = true) (ws : List Jvm.Cond) (a1 : Addr) (aB : Addr) (kB : ClassId) (x0 : Int32) (x1 : Int32) (x2 : Int32) (x3 : Int32) (x4 : Int32) (h0 : Heap) (n0 : Nat) (Z0 : n0 ≤ h0.size) (F_numbers_a1 : Fld Z h0 a1 "com/example/hard_delay_bounds/harddelaybounds/analysis/FlowSet" "numbers" "[I" (.ref aB)) (V_aB : Arv Z h0 aB kB .int (5 : Int32) [(.int x0), (.int x1), (.int x2), (.int x3), (.int x4)] (.int (0 : Int32))) :
    MetFree l mn7 (head1 (Jvm.Cond.code mn7 prog_18_method_3_code 2 (some .int) :: ws) ({ frames := 0, cells := 0, slots := 0, locals := 0 } : Room)) (fun a U => a = #[(.ref a1), (.int (2 : Int32))] ∧ Z.Warmed39 U.vm ∧ U.heap = h0) (fun _ _ _ _ _ => True) (fun _ U o U' => ∃ v L, o = .returned v ∧ QP (some (.int x2)) h0 n0 v U'.heap L ∧ FrameEnd U o U' L ({ frames := 0, cells := 0, slots := 0, locals := 0 } : Room).cells ({ frames := 0, cells := 0, slots := 0, locals := 0 } : Room).slots) := by
  refine MetFree.of_bodySF (plainFor_of_name pn_7) hisR ?_
  intro p e s m args below meth c s₁ Bd hml0 hP hK
  obtain ⟨rfl, hZ, hh⟩ := hP
  have hx := Bd.exec
  have hby := Bd.bytes
  have hml : c.maxLocals = 2 := hml0
  have hown : s.vm.findClass "com/example/hard_delay_bounds/harddelaybounds/analysis/FlowSet" = some m.cls := findClass_of_methodNamed Bd.named
  have hnm := (name_of_methodNamed Bd.named Bd.method).1
  have X0 : Stand p l e ({ frames := 0, cells := 0, slots := 0, locals := 0 } : Room) s m #[(.ref a1), (.int (2 : Int32))] below meth c s₁ [] 0 0 := Stand.of_body Bd
  have e0 : s₁.heap = h0 := by rw [← hh, Bd.state]; rfl
  have N0 := Fr.nil n0
  have pre0 : ∀ t, Steps p.tables e below (s₁.setTop (mkF m 0 #[.val (.ref a1), .val (.int (2 : Int32))] [])) t → Steps p.tables e below (s₁.setTop (entryFrame m #[(.ref a1), (.int (2 : Int32))] 2)) t := fun t k => castTop (ef_9 m a1 (2 : Int32)) k
  obtain ⟨T247, X247, e247, st247⟩ := getF X0 hx hZ hown (host := "") (Or.inl (ww hw 47 rfl)) Via.refl e0 F_numbers_a1 (g := (mkF m 1 #[.val (.ref a1), .val (.int (2 : Int32))] [(.ref a1)])) rfl rfl (hb hby d9_1)
  obtain ⟨cl248, Ar248, q248, Sz248, Nn248, Hh248, Gg248⟩ := id V_aB
  have hin248 : ¬ ((2 : Int32) < 0 ∨ cl248.slots.size ≤ ((2 : Int32)).toNatClampNeg) := inb_of Sz248 ⟨by decide, by decide⟩
  have hat248 : cl248.slots[((2 : Int32)).toNatClampNeg]? = some (.int x2) := Hh248.at hin248 rfl
  obtain ⟨fs, hr, hrun, hended, hW, hsame⟩ := X247.leave (v := some (.int x2)) (fun h => by rw [Bd.returns] at h; cases h)
  refine ⟨_, _, pre0 _ ?_, hrun, hended, _, _, rfl, ?_, ⟨_, rfl⟩, hW, hsame.mono (by decide) (by decide)⟩
  · refine y_aloadN X0.here hx (hb hby d9_0) rfl rfl ?_
    refine st247 _ ?_
    show Steps p.tables e below (T247.setTop (mkF m 4 #[.val (.ref a1), .val (.int (2 : Int32))] [(.ref aB)])) _
    refine y_iloadN X247.here hx (hb hby d9_4) rfl ?_
    refine X247.iaload hx (j := (2 : Int32)) (v := (.int x2)) (by rw [e247]; exact Ar248.1) (State.isArrayOf_alike hZ.alike Ar248.2.1) Ar248.2.2 hin248 hat248 (g := (mkF m 5 #[.val (.ref a1), .val (.int (2 : Int32))] [(.int (2 : Int32)), (.ref aB)])) rfl rfl (hb hby d9_5) _ ?_
    show Steps p.tables e below (T247.setTop (mkF m 6 #[.val (.ref a1), .val (.int (2 : Int32))] [(.int x2)])) _
    exact retI X247 hx Bd.returns (hb hby d9_6) hr
  · show QP _ h0 n0 _ T247.heap _
    rw [e247]
    exact ⟨rfl, N0, rfl⟩
set_option maxRecDepth 65536 in
set_option maxHeartbeats 40000000 in
theorem rm9_5_3 (l : Launch) (Z : State) (a0 : Array Value) (hw : ∀ d ∈ tables_1, d.before a0 Z = true) (ws : List Jvm.Cond) (a1 : Addr) (aB : Addr) (kB : ClassId) (x0 : Int32) (x1 : Int32) (x2 : Int32) (x3 : Int32) (x4 : Int32) (h0 : Heap) (n0 : Nat) (Z0 : n0 ≤ h0.size) (F_numbers_a1 : Fld Z h0 a1 "com/example/hard_delay_bounds/harddelaybounds/analysis/FlowSet" "numbers" "[I" (.ref aB)) (V_aB : Arv Z h0 aB kB .int (5 : Int32) [(.int x0), (.int x1), (.int x2), (.int x3), (.int x4)] (.int (0 : Int32))) :
    MetFree l mn7 (head1 (Jvm.Cond.code mn7 prog_18_method_3_code 2 (some .int) :: ws) ({ frames := 0, cells := 0, slots := 0, locals := 0 } : Room)) (fun a U => a = #[(.ref a1), (.int (3 : Int32))] ∧ Z.Warmed39 U.vm ∧ U.heap = h0) (fun _ _ _ _ _ => True) (fun _ U o U' => ∃ v L, o = .returned v ∧ QP (some (.int x3)) h0 n0 v U'.heap L ∧ FrameEnd U o U' L ({ frames := 0, cells := 0, slots := 0, locals := 0 } : Room).cells ({ frames := 0, cells := 0, slots := 0, locals := 0 } : Room).slots) := by
  refine MetFree.of_bodySF (plainFor_of_name pn_7) hisR ?_
  intro p e s m args below meth c s₁ Bd hml0 hP hK
  obtain ⟨rfl, hZ, hh⟩ := hP
  have hx := Bd.exec
  have hby := Bd.bytes
  have hml : c.maxLocals = 2 := hml0
  have hown : s.vm.findClass "com/example/hard_delay_bounds/harddelaybounds/analysis/FlowSet" = some m.cls := findClass_of_methodNamed Bd.named
  have hnm := (name_of_methodNamed Bd.named Bd.method).1
  have X0 : Stand p l e ({ frames := 0, cells := 0, slots := 0, locals := 0 } : Room) s m #[(.ref a1), (.int (3 : Int32))] below meth c s₁ [] 0 0 := Stand.of_body Bd
  have e0 : s₁.heap = h0 := by rw [← hh, Bd.state]; rfl
  have N0 := Fr.nil n0
  have pre0 : ∀ t, Steps p.tables e below (s₁.setTop (mkF m 0 #[.val (.ref a1), .val (.int (3 : Int32))] [])) t → Steps p.tables e below (s₁.setTop (entryFrame m #[(.ref a1), (.int (3 : Int32))] 2)) t := fun t k => castTop (ef_9 m a1 (3 : Int32)) k
  obtain ⟨T249, X249, e249, st249⟩ := getF X0 hx hZ hown (host := "") (Or.inl (ww hw 47 rfl)) Via.refl e0 F_numbers_a1 (g := (mkF m 1 #[.val (.ref a1), .val (.int (3 : Int32))] [(.ref a1)])) rfl rfl (hb hby d9_1)
  obtain ⟨cl250, Ar250, q250, Sz250, Nn250, Hh250, Gg250⟩ := id V_aB
  have hin250 : ¬ ((3 : Int32) < 0 ∨ cl250.slots.size ≤ ((3 : Int32)).toNatClampNeg) := inb_of Sz250 ⟨by decide, by decide⟩
  have hat250 : cl250.slots[((3 : Int32)).toNatClampNeg]? = some (.int x3) := Hh250.at hin250 rfl
  obtain ⟨fs, hr, hrun, hended, hW, hsame⟩ := X249.leave (v := some (.int x3)) (fun h => by rw [Bd.returns] at h; cases h)
  refine ⟨_, _, pre0 _ ?_, hrun, hended, _, _, rfl, ?_, ⟨_, rfl⟩, hW, hsame.mono (by decide) (by decide)⟩
  · refine y_aloadN X0.here hx (hb hby d9_0) rfl rfl ?_
    refine st249 _ ?_
    show Steps p.tables e below (T249.setTop (mkF m 4 #[.val (.ref a1), .val (.int (3 : Int32))] [(.ref aB)])) _
    refine y_iloadN X249.here hx (hb hby d9_4) rfl ?_
    refine X249.iaload hx (j := (3 : Int32)) (v := (.int x3)) (by rw [e249]; exact Ar250.1) (State.isArrayOf_alike hZ.alike Ar250.2.1) Ar250.2.2 hin250 hat250 (g := (mkF m 5 #[.val (.ref a1), .val (.int (3 : Int32))] [(.int (3 : Int32)), (.ref aB)])) rfl rfl (hb hby d9_5) _ ?_
    show Steps p.tables e below (T249.setTop (mkF m 6 #[.val (.ref a1), .val (.int (3 : Int32))] [(.int x3)])) _
    exact retI X249 hx Bd.returns (hb hby d9_6) hr
  · show QP _ h0 n0 _ T249.heap _
    rw [e249]
    exact ⟨rfl, N0, rfl⟩
set_option maxRecDepth 65536 in
set_option maxHeartbeats 40000000 in
theorem rm9_5_4 (l : Launch) (Z : State) (a0 : Array Value) (hw : ∀ d ∈ tables_1, d.before a0 Z = true) (ws : List Jvm.Cond) (a1 : Addr) (aB : Addr) (kB : ClassId) (x0 : Int32) (x1 : Int32) (x2 : Int32) (x3 : Int32) (x4 : Int32) (h0 : Heap) (n0 : Nat) (Z0 : n0 ≤ h0.size) (F_numbers_a1 : Fld Z h0 a1 "com/example/hard_delay_bounds/harddelaybounds/analysis/FlowSet" "numbers" "[I" (.ref aB)) (V_aB : Arv Z h0 aB kB .int (5 : Int32) [(.int x0), (.int x1), (.int x2), (.int x3), (.int x4)] (.int (0 : Int32))) :
    MetFree l mn7 (head1 (Jvm.Cond.code mn7 prog_18_method_3_code 2 (some .int) :: ws) ({ frames := 0, cells := 0, slots := 0, locals := 0 } : Room)) (fun a U => a = #[(.ref a1), (.int (4 : Int32))] ∧ Z.Warmed39 U.vm ∧ U.heap = h0) (fun _ _ _ _ _ => True) (fun _ U o U' => ∃ v L, o = .returned v ∧ QP (some (.int x4)) h0 n0 v U'.heap L ∧ FrameEnd U o U' L ({ frames := 0, cells := 0, slots := 0, locals := 0 } : Room).cells ({ frames := 0, cells := 0, slots := 0, locals := 0 } : Room).slots) := by
  refine MetFree.of_bodySF (plainFor_of_name pn_7) hisR ?_
  intro p e s m args below meth c s₁ Bd hml0 hP hK
  obtain ⟨rfl, hZ, hh⟩ := hP
  have hx := Bd.exec
  have hby := Bd.bytes
  have hml : c.maxLocals = 2 := hml0
  have hown : s.vm.findClass "com/example/hard_delay_bounds/harddelaybounds/analysis/FlowSet" = some m.cls := findClass_of_methodNamed Bd.named
  have hnm := (name_of_methodNamed Bd.named Bd.method).1
  have X0 : Stand p l e ({ frames := 0, cells := 0, slots := 0, locals := 0 } : Room) s m #[(.ref a1), (.int (4 : Int32))] below meth c s₁ [] 0 0 := Stand.of_body Bd
  have e0 : s₁.heap = h0 := by rw [← hh, Bd.state]; rfl
  have N0 := Fr.nil n0
  have pre0 : ∀ t, Steps p.tables e below (s₁.setTop (mkF m 0 #[.val (.ref a1), .val (.int (4 : Int32))] [])) t → Steps p.tables e below (s₁.setTop (entryFrame m #[(.ref a1), (.int (4 : Int32))] 2)) t := fun t k => castTop (ef_9 m a1 (4 : Int32)) k
  obtain ⟨T251, X251, e251, st251⟩ := getF X0 hx hZ hown (host := "") (Or.inl (ww hw 47 rfl)) Via.refl e0 F_numbers_a1 (g := (mkF m 1 #[.val (.ref a1), .val (.int (4 : Int32))] [(.ref a1)])) rfl rfl (hb hby d9_1)
  obtain ⟨cl252, Ar252, q252, Sz252, Nn252, Hh252, Gg252⟩ := id V_aB
  have hin252 : ¬ ((4 : Int32) < 0 ∨ cl252.slots.size ≤ ((4 : Int32)).toNatClampNeg) := inb_of Sz252 ⟨by decide, by decide⟩
  have hat252 : cl252.slots[((4 : Int32)).toNatClampNeg]? = some (.int x4) := Hh252.at hin252 rfl
  obtain ⟨fs, hr, hrun, hended, hW, hsame⟩ := X251.leave (v := some (.int x4)) (fun h => by rw [Bd.returns] at h; cases h)
  refine ⟨_, _, pre0 _ ?_, hrun, hended, _, _, rfl, ?_, ⟨_, rfl⟩, hW, hsame.mono (by decide) (by decide)⟩
  · refine y_aloadN X0.here hx (hb hby d9_0) rfl rfl ?_
    refine st251 _ ?_
    show Steps p.tables e below (T251.setTop (mkF m 4 #[.val (.ref a1), .val (.int (4 : Int32))] [(.ref aB)])) _
    refine y_iloadN X251.here hx (hb hby d9_4) rfl ?_
    refine X251.iaload hx (j := (4 : Int32)) (v := (.int x4)) (by rw [e251]; exact Ar252.1) (State.isArrayOf_alike hZ.alike Ar252.2.1) Ar252.2.2 hin252 hat252 (g := (mkF m 5 #[.val (.ref a1), .val (.int (4 : Int32))] [(.int (4 : Int32)), (.ref aB)])) rfl rfl (hb hby d9_5) _ ?_
    show Steps p.tables e below (T251.setTop (mkF m 6 #[.val (.ref a1), .val (.int (4 : Int32))] [(.int x4)])) _
    exact retI X251 hx Bd.returns (hb hby d9_6) hr
  · show QP _ h0 n0 _ T251.heap _
    rw [e251]
    exact ⟨rfl, N0, rfl⟩
theorem own_step {x d : Int32} {K : Int} (h : x.toInt ≤ K) (hK : K + 65536 < 2147483648) : x < x + 1 + (d &&& 65535) ∧ (x + 1 + (d &&& 65535)).toInt ≤ K + 65536 := by
  have a1 : (d &&& 65535).toInt = d.toInt % (2 ^ 16 : Nat) := c_mask d _ 16 (by decide) (by decide)
  have a2 := c_iadd x 1
  have a3 := c_iadd (x + 1) (d &&& 65535)
  have e1 : (1 : Int32).toInt = 1 := by decide
  have r1 := rng32 (x + 1)
  have r2 := rng32 (x + 1 + (d &&& 65535))
  have r0 := rng32 x
  rw [Int32.lt_iff_toInt_lt]
  omega
theorem own_min (a : Int32) : (f1 a 2147221503).toInt ≤ 2147221503 := by
  have e1 : (2147221503 : Int32).toInt = 2147221503 := by decide
  unfold f1
  split
  · omega
  · rename_i h
    rw [Int32.lt_iff_toInt_lt] at h
    omega
theorem own_m (a : Int32) : ((a &&& (2147483647 : Int32)) % (6 : Int32)) = 0 ∨ ((a &&& (2147483647 : Int32)) % (6 : Int32)) = 1 ∨ ((a &&& (2147483647 : Int32)) % (6 : Int32)) = 2 ∨ ((a &&& (2147483647 : Int32)) % (6 : Int32)) = 3 ∨ ((a &&& (2147483647 : Int32)) % (6 : Int32)) = 4 ∨ ((a &&& (2147483647 : Int32)) % (6 : Int32)) = 5 := by
  have h1 : (a &&& 2147483647).toInt = a.toInt % (2 ^ 31 : Nat) := c_mask a _ 31 (by decide) (by decide)
  have h2 := c_irem (a &&& 2147483647) 6 6 (by decide)
  simp only [← Int32.toInt_inj]
  have e0 : (0 : Int32).toInt = 0 := by decide
  have e1 : (1 : Int32).toInt = 1 := by decide
  have e2 : (2 : Int32).toInt = 2 := by decide
  have e3 : (3 : Int32).toInt = 3 := by decide
  have e4 : (4 : Int32).toInt = 4 := by decide
  have e5 : (5 : Int32).toInt = 5 := by decide
  omega
theorem pd_3 : parseMethodDescriptor "()V" = some ⟨[], none⟩ := by decide +kernel
theorem pd_4 : parseMethodDescriptor "()Lcom/example/hard_delay_bounds/harddelaybounds/analysis/FlowSet;" = some ⟨[], some (.object "com/example/hard_delay_bounds/harddelaybounds/analysis/FlowSet")⟩ := by decide +kernel
theorem pd_5 : parseMethodDescriptor "()I" = some ⟨[], some .int⟩ := by decide +kernel
theorem pd_6 : parseMethodDescriptor "(I)Lcom/example/hard_delay_bounds/harddelaybounds/analysis/FlowSet$Builder;" = some ⟨[.int], some (.object "com/example/hard_delay_bounds/harddelaybounds/analysis/FlowSet$Builder")⟩ := by decide +kernel
theorem pd_7 : parseMethodDescriptor "(I)I" = some ⟨[.int], some .int⟩ := by decide +kernel
theorem pn_0 : plainName "com/example/hard_delay_bounds/harddelaybounds/analysis/BuilderAddPinLaw" = true := by first | (simp [plainName, overriddenIn]; done) | decide +kernel
theorem ef_0 (m : MethodId) (x0 : Int32) (x1 : Int32) (x2 : Int32) (x3 : Int32) (x4 : Int32) (x5 : Int32) : entryFrame m #[(.int x0), (.int x1), (.int x2), (.int x3), (.int x4), (.int x5)] maxLocals = mkF m 0 #[.val (.int x0), .val (.int x1), .val (.int x2), .val (.int x3), .val (.int x4), .val (.int x5), .unset, .unset, .unset, .unset, .unset, .unset, .unset, .unset, .unset, .unset, .unset] [] := by first | (simp [entryFrame, mkF, argsToLocals, Value.category, maxLocals]; done) | rfl
abbrev lo0_0 (p1 : Int32) (p2 : Int32) (p3 : Int32) (p4 : Int32) (p5 : Int32) (p6 : Int32) : Array Slot := #[.val (.int p1), .val (.int p2), .val (.int p3), .val (.int p4), .val (.int p5), .val (.int p6), .unset, .unset, .unset, .unset, .unset, .unset, .unset, .unset, .unset, .unset, .unset]
abbrev lo0_1 (p1 : Int32) (p2 : Int32) (p3 : Int32) (p4 : Int32) (p5 : Int32) (p6 : Int32) : Array Slot := #[.val (.int p1), .val (.int p2), .val (.int p3), .val (.int p4), .val (.int p5), .val (.int p6), .val (.int ((p6 &&& (2147483647 : Int32)) % (6 : Int32))), .unset, .unset, .unset, .unset, .unset, .unset, .unset, .unset, .unset, .unset]
abbrev lo0_2 (p1 : Int32) (p2 : Int32) (p3 : Int32) (p4 : Int32) (p5 : Int32) (p6 : Int32) : Array Slot := #[.val (.int p1), .val (.int p2), .val (.int p3), .val (.int p4), .val (.int p5), .val (.int p6), .val (.int ((p6 &&& (2147483647 : Int32)) % (6 : Int32))), .val (.int (f1 p1 (2147221503 : Int32))), .unset, .unset, .unset, .unset, .unset, .unset, .unset, .unset, .unset]
abbrev lo0_3 (p1 : Int32) (p2 : Int32) (p3 : Int32) (p4 : Int32) (p5 : Int32) (p6 : Int32) : Array Slot := #[.val (.int p1), .val (.int p2), .val (.int p3), .val (.int p4), .val (.int p5), .val (.int p6), .val (.int ((p6 &&& (2147483647 : Int32)) % (6 : Int32))), .val (.int (f1 p1 (2147221503 : Int32))), .val (.int (f1 p1 (2147221503 : Int32))), .unset, .unset, .unset, .unset, .unset, .unset, .unset, .unset]
abbrev lo0_4 (p1 : Int32) (p2 : Int32) (p3 : Int32) (p4 : Int32) (p5 : Int32) (p6 : Int32) : Array Slot := #[.val (.int p1), .val (.int p2), .val (.int p3), .val (.int p4), .val (.int p5), .val (.int p6), .val (.int ((p6 &&& (2147483647 : Int32)) % (6 : Int32))), .val (.int (f1 p1 (2147221503 : Int32))), .val (.int (f1 p1 (2147221503 : Int32))), .val (.int (((f1 p1 (2147221503 : Int32)) + (1 : Int32)) + (p2 &&& (65535 : Int32)))), .unset, .unset, .unset, .unset, .unset, .unset, .unset]
abbrev lo0_5 (p1 : Int32) (p2 : Int32) (p3 : Int32) (p4 : Int32) (p5 : Int32) (p6 : Int32) : Array Slot := #[.val (.int p1), .val (.int p2), .val (.int p3), .val (.int p4), .val (.int p5), .val (.int p6), .val (.int ((p6 &&& (2147483647 : Int32)) % (6 : Int32))), .val (.int (f1 p1 (2147221503 : Int32))), .val (.int (f1 p1 (2147221503 : Int32))), .val (.int (((f1 p1 (2147221503 : Int32)) + (1 : Int32)) + (p2 &&& (65535 : Int32)))), .val (.int (((((f1 p1 (2147221503 : Int32)) + (1 : Int32)) + (p2 &&& (65535 : Int32))) + (1 : Int32)) + (p3 &&& (65535 : Int32)))), .unset, .unset, .unset, .unset, .unset, .unset]
abbrev lo0_6 (p1 : Int32) (p2 : Int32) (p3 : Int32) (p4 : Int32) (p5 : Int32) (p6 : Int32) : Array Slot := #[.val (.int p1), .val (.int p2), .val (.int p3), .val (.int p4), .val (.int p5), .val (.int p6), .val (.int ((p6 &&& (2147483647 : Int32)) % (6 : Int32))), .val (.int (f1 p1 (2147221503 : Int32))), .val (.int (f1 p1 (2147221503 : Int32))), .val (.int (((f1 p1 (2147221503 : Int32)) + (1 : Int32)) + (p2 &&& (65535 : Int32)))), .val (.int (((((f1 p1 (2147221503 : Int32)) + (1 : Int32)) + (p2 &&& (65535 : Int32))) + (1 : Int32)) + (p3 &&& (65535 : Int32)))), .val (.int (((((((f1 p1 (2147221503 : Int32)) + (1 : Int32)) + (p2 &&& (65535 : Int32))) + (1 : Int32)) + (p3 &&& (65535 : Int32))) + (1 : Int32)) + (p4 &&& (65535 : Int32)))), .unset, .unset, .unset, .unset, .unset]
abbrev lo0_7 (p1 : Int32) (p2 : Int32) (p3 : Int32) (p4 : Int32) (p5 : Int32) (p6 : Int32) : Array Slot := #[.val (.int p1), .val (.int p2), .val (.int p3), .val (.int p4), .val (.int p5), .val (.int p6), .val (.int ((p6 &&& (2147483647 : Int32)) % (6 : Int32))), .val (.int (f1 p1 (2147221503 : Int32))), .val (.int (f1 p1 (2147221503 : Int32))), .val (.int (((f1 p1 (2147221503 : Int32)) + (1 : Int32)) + (p2 &&& (65535 : Int32)))), .val (.int (((((f1 p1 (2147221503 : Int32)) + (1 : Int32)) + (p2 &&& (65535 : Int32))) + (1 : Int32)) + (p3 &&& (65535 : Int32)))), .val (.int (((((((f1 p1 (2147221503 : Int32)) + (1 : Int32)) + (p2 &&& (65535 : Int32))) + (1 : Int32)) + (p3 &&& (65535 : Int32))) + (1 : Int32)) + (p4 &&& (65535 : Int32)))), .val (.int (((((((((f1 p1 (2147221503 : Int32)) + (1 : Int32)) + (p2 &&& (65535 : Int32))) + (1 : Int32)) + (p3 &&& (65535 : Int32))) + (1 : Int32)) + (p4 &&& (65535 : Int32))) + (1 : Int32)) + (p5 &&& (65535 : Int32)))), .unset, .unset, .unset, .unset]
abbrev lo0_8 (p1 : Int32) (p2 : Int32) (p3 : Int32) (p4 : Int32) (p5 : Int32) (p6 : Int32) (z0 : Int32) (z1 : Int32) (z2 : Int32) (z3 : Int32) (z4 : Int32) : Array Slot := #[.val (.int p1), .val (.int p2), .val (.int p3), .val (.int p4), .val (.int p5), .val (.int p6), .val (.int ((p6 &&& (2147483647 : Int32)) % (6 : Int32))), .val (.int z0), .val (.int z0), .val (.int z1), .val (.int z2), .val (.int z3), .val (.int z4), .unset, .unset, .unset, .unset]
abbrev lo0_9 (p1 : Int32) (p2 : Int32) (p3 : Int32) (p4 : Int32) (p5 : Int32) (p6 : Int32) (z0 : Int32) (z1 : Int32) (z2 : Int32) (z3 : Int32) (z4 : Int32) (b256 : Addr) : Array Slot := #[.val (.int p1), .val (.int p2), .val (.int p3), .val (.int p4), .val (.int p5), .val (.int p6), .val (.int ((p6 &&& (2147483647 : Int32)) % (6 : Int32))), .val (.int z0), .val (.int z0), .val (.int z1), .val (.int z2), .val (.int z3), .val (.int z4), .val (.ref b256), .unset, .unset, .unset]
abbrev lo0_10 (p1 : Int32) (p2 : Int32) (p3 : Int32) (p4 : Int32) (p5 : Int32) (p6 : Int32) (z0 : Int32) (z1 : Int32) (z2 : Int32) (z3 : Int32) (z4 : Int32) (b256 : Addr) : Array Slot := #[.val (.int p1), .val (.int p2), .val (.int p3), .val (.int p4), .val (.int p5), .val (.int p6), .val (.int ((p6 &&& (2147483647 : Int32)) % (6 : Int32))), .val (.int z0), .val (.int z0), .val (.int z1), .val (.int z2), .val (.int z3), .val (.int z4), .val (.ref b256), .val (.ref b256), .unset, .unset]
abbrev lo0_11 (p1 : Int32) (p2 : Int32) (p3 : Int32) (p4 : Int32) (p5 : Int32) (p6 : Int32) (z0 : Int32) (z1 : Int32) (z2 : Int32) (z3 : Int32) (z4 : Int32) (b256 : Addr) : Array Slot := #[.val (.int p1), .val (.int p2), .val (.int p3), .val (.int p4), .val (.int p5), .val (.int p6), .val (.int (0 : Int32)), .val (.int z0), .val (.int z0), .val (.int z1), .val (.int z2), .val (.int z3), .val (.int z4), .val (.ref b256), .val (.ref b256), .unset, .unset]
abbrev lo0_12 (p1 : Int32) (p2 : Int32) (p3 : Int32) (p4 : Int32) (p5 : Int32) (p6 : Int32) (z0 : Int32) (z1 : Int32) (z2 : Int32) (z3 : Int32) (z4 : Int32) (b256 : Addr) (b259 : Addr) : Array Slot := #[.val (.int p1), .val (.int p2), .val (.int p3), .val (.int p4), .val (.int p5), .val (.int p6), .val (.int (0 : Int32)), .val (.int z0), .val (.int z0), .val (.int z1), .val (.int z2), .val (.int z3), .val (.int z4), .val (.ref b256), .val (.ref b256), .val (.ref b259), .unset]
abbrev lo0_13 (p1 : Int32) (p2 : Int32) (p3 : Int32) (p4 : Int32) (p5 : Int32) (p6 : Int32) (z0 : Int32) (z1 : Int32) (z2 : Int32) (z3 : Int32) (z4 : Int32) (b256 : Addr) (b259 : Addr) : Array Slot := #[.val (.int p1), .val (.int p2), .val (.int p3), .val (.int p4), .val (.int p5), .val (.int p6), .val (.int (0 : Int32)), .val (.int z0), .val (.int z0), .val (.int z1), .val (.int z2), .val (.int z3), .val (.int z4), .val (.ref b256), .val (.ref b256), .val (.ref b259), .val (.int (1 : Int32))]
abbrev lo0_14 (p1 : Int32) (p2 : Int32) (p3 : Int32) (p4 : Int32) (p5 : Int32) (p6 : Int32) (z0 : Int32) (z1 : Int32) (z2 : Int32) (z3 : Int32) (z4 : Int32) (b256 : Addr) : Array Slot := #[.val (.int p1), .val (.int p2), .val (.int p3), .val (.int p4), .val (.int p5), .val (.int p6), .val (.int (1 : Int32)), .val (.int z0), .val (.int z0), .val (.int z1), .val (.int z2), .val (.int z3), .val (.int z4), .val (.ref b256), .val (.ref b256), .unset, .unset]
abbrev lo0_15 (p1 : Int32) (p2 : Int32) (p3 : Int32) (p4 : Int32) (p5 : Int32) (p6 : Int32) (z0 : Int32) (z1 : Int32) (z2 : Int32) (z3 : Int32) (z4 : Int32) (b256 : Addr) (b262 : Addr) : Array Slot := #[.val (.int p1), .val (.int p2), .val (.int p3), .val (.int p4), .val (.int p5), .val (.int p6), .val (.int (1 : Int32)), .val (.int z0), .val (.int z0), .val (.int z1), .val (.int z2), .val (.int z3), .val (.int z4), .val (.ref b256), .val (.ref b256), .val (.ref b262), .unset]
abbrev lo0_16 (p1 : Int32) (p2 : Int32) (p3 : Int32) (p4 : Int32) (p5 : Int32) (p6 : Int32) (z0 : Int32) (z1 : Int32) (z2 : Int32) (z3 : Int32) (z4 : Int32) (b256 : Addr) (b262 : Addr) : Array Slot := #[.val (.int p1), .val (.int p2), .val (.int p3), .val (.int p4), .val (.int p5), .val (.int p6), .val (.int (1 : Int32)), .val (.int z0), .val (.int z0), .val (.int z1), .val (.int z2), .val (.int z3), .val (.int z4), .val (.ref b256), .val (.ref b256), .val (.ref b262), .val (.int (1 : Int32))]
abbrev lo0_17 (p1 : Int32) (p2 : Int32) (p3 : Int32) (p4 : Int32) (p5 : Int32) (p6 : Int32) (z0 : Int32) (z1 : Int32) (z2 : Int32) (z3 : Int32) (z4 : Int32) (b256 : Addr) : Array Slot := #[.val (.int p1), .val (.int p2), .val (.int p3), .val (.int p4), .val (.int p5), .val (.int p6), .val (.int (2 : Int32)), .val (.int z0), .val (.int z0), .val (.int z1), .val (.int z2), .val (.int z3), .val (.int z4), .val (.ref b256), .val (.ref b256), .unset, .unset]
abbrev lo0_18 (p1 : Int32) (p2 : Int32) (p3 : Int32) (p4 : Int32) (p5 : Int32) (p6 : Int32) (z0 : Int32) (z1 : Int32) (z2 : Int32) (z3 : Int32) (z4 : Int32) (b256 : Addr) (b267 : Addr) : Array Slot := #[.val (.int p1), .val (.int p2), .val (.int p3), .val (.int p4), .val (.int p5), .val (.int p6), .val (.int (2 : Int32)), .val (.int z0), .val (.int z0), .val (.int z1), .val (.int z2), .val (.int z3), .val (.int z4), .val (.ref b256), .val (.ref b256), .val (.ref b267), .unset]
abbrev lo0_19 (p1 : Int32) (p2 : Int32) (p3 : Int32) (p4 : Int32) (p5 : Int32) (p6 : Int32) (z0 : Int32) (z1 : Int32) (z2 : Int32) (z3 : Int32) (z4 : Int32) (b256 : Addr) (b267 : Addr) : Array Slot := #[.val (.int p1), .val (.int p2), .val (.int p3), .val (.int p4), .val (.int p5), .val (.int p6), .val (.int (2 : Int32)), .val (.int z0), .val (.int z0), .val (.int z1), .val (.int z2), .val (.int z3), .val (.int z4), .val (.ref b256), .val (.ref b256), .val (.ref b267), .val (.int (1 : Int32))]
abbrev lo0_20 (p1 : Int32) (p2 : Int32) (p3 : Int32) (p4 : Int32) (p5 : Int32) (p6 : Int32) (z0 : Int32) (z1 : Int32) (z2 : Int32) (z3 : Int32) (z4 : Int32) (b256 : Addr) : Array Slot := #[.val (.int p1), .val (.int p2), .val (.int p3), .val (.int p4), .val (.int p5), .val (.int p6), .val (.int (3 : Int32)), .val (.int z0), .val (.int z0), .val (.int z1), .val (.int z2), .val (.int z3), .val (.int z4), .val (.ref b256), .val (.ref b256), .unset, .unset]
abbrev lo0_21 (p1 : Int32) (p2 : Int32) (p3 : Int32) (p4 : Int32) (p5 : Int32) (p6 : Int32) (z0 : Int32) (z1 : Int32) (z2 : Int32) (z3 : Int32) (z4 : Int32) (b256 : Addr) (b274 : Addr) : Array Slot := #[.val (.int p1), .val (.int p2), .val (.int p3), .val (.int p4), .val (.int p5), .val (.int p6), .val (.int (3 : Int32)), .val (.int z0), .val (.int z0), .val (.int z1), .val (.int z2), .val (.int z3), .val (.int z4), .val (.ref b256), .val (.ref b256), .val (.ref b274), .unset]
abbrev lo0_22 (p1 : Int32) (p2 : Int32) (p3 : Int32) (p4 : Int32) (p5 : Int32) (p6 : Int32) (z0 : Int32) (z1 : Int32) (z2 : Int32) (z3 : Int32) (z4 : Int32) (b256 : Addr) (b274 : Addr) : Array Slot := #[.val (.int p1), .val (.int p2), .val (.int p3), .val (.int p4), .val (.int p5), .val (.int p6), .val (.int (3 : Int32)), .val (.int z0), .val (.int z0), .val (.int z1), .val (.int z2), .val (.int z3), .val (.int z4), .val (.ref b256), .val (.ref b256), .val (.ref b274), .val (.int (1 : Int32))]
abbrev lo0_23 (p1 : Int32) (p2 : Int32) (p3 : Int32) (p4 : Int32) (p5 : Int32) (p6 : Int32) (z0 : Int32) (z1 : Int32) (z2 : Int32) (z3 : Int32) (z4 : Int32) (b256 : Addr) : Array Slot := #[.val (.int p1), .val (.int p2), .val (.int p3), .val (.int p4), .val (.int p5), .val (.int p6), .val (.int (4 : Int32)), .val (.int z0), .val (.int z0), .val (.int z1), .val (.int z2), .val (.int z3), .val (.int z4), .val (.ref b256), .val (.ref b256), .unset, .unset]
abbrev lo0_24 (p1 : Int32) (p2 : Int32) (p3 : Int32) (p4 : Int32) (p5 : Int32) (p6 : Int32) (z0 : Int32) (z1 : Int32) (z2 : Int32) (z3 : Int32) (z4 : Int32) (b256 : Addr) (b283 : Addr) : Array Slot := #[.val (.int p1), .val (.int p2), .val (.int p3), .val (.int p4), .val (.int p5), .val (.int p6), .val (.int (4 : Int32)), .val (.int z0), .val (.int z0), .val (.int z1), .val (.int z2), .val (.int z3), .val (.int z4), .val (.ref b256), .val (.ref b256), .val (.ref b283), .unset]
abbrev lo0_25 (p1 : Int32) (p2 : Int32) (p3 : Int32) (p4 : Int32) (p5 : Int32) (p6 : Int32) (z0 : Int32) (z1 : Int32) (z2 : Int32) (z3 : Int32) (z4 : Int32) (b256 : Addr) (b283 : Addr) : Array Slot := #[.val (.int p1), .val (.int p2), .val (.int p3), .val (.int p4), .val (.int p5), .val (.int p6), .val (.int (4 : Int32)), .val (.int z0), .val (.int z0), .val (.int z1), .val (.int z2), .val (.int z3), .val (.int z4), .val (.ref b256), .val (.ref b256), .val (.ref b283), .val (.int (1 : Int32))]
abbrev lo0_26 (p1 : Int32) (p2 : Int32) (p3 : Int32) (p4 : Int32) (p5 : Int32) (p6 : Int32) (z0 : Int32) (z1 : Int32) (z2 : Int32) (z3 : Int32) (z4 : Int32) (b256 : Addr) : Array Slot := #[.val (.int p1), .val (.int p2), .val (.int p3), .val (.int p4), .val (.int p5), .val (.int p6), .val (.int (5 : Int32)), .val (.int z0), .val (.int z0), .val (.int z1), .val (.int z2), .val (.int z3), .val (.int z4), .val (.ref b256), .val (.ref b256), .unset, .unset]
abbrev lo0_27 (p1 : Int32) (p2 : Int32) (p3 : Int32) (p4 : Int32) (p5 : Int32) (p6 : Int32) (z0 : Int32) (z1 : Int32) (z2 : Int32) (z3 : Int32) (z4 : Int32) (b256 : Addr) (b294 : Addr) : Array Slot := #[.val (.int p1), .val (.int p2), .val (.int p3), .val (.int p4), .val (.int p5), .val (.int p6), .val (.int (5 : Int32)), .val (.int z0), .val (.int z0), .val (.int z1), .val (.int z2), .val (.int z3), .val (.int z4), .val (.ref b256), .val (.ref b256), .val (.ref b294), .unset]
abbrev lo0_28 (p1 : Int32) (p2 : Int32) (p3 : Int32) (p4 : Int32) (p5 : Int32) (p6 : Int32) (z0 : Int32) (z1 : Int32) (z2 : Int32) (z3 : Int32) (z4 : Int32) (b256 : Addr) (b294 : Addr) : Array Slot := #[.val (.int p1), .val (.int p2), .val (.int p3), .val (.int p4), .val (.int p5), .val (.int p6), .val (.int (5 : Int32)), .val (.int z0), .val (.int z0), .val (.int z1), .val (.int z2), .val (.int z3), .val (.int z4), .val (.ref b256), .val (.ref b256), .val (.ref b294), .val (.int (1 : Int32))]
set_option maxRecDepth 65536 in
set_option maxHeartbeats 40000000 in
theorem rm0 (l : Launch) (Z : State) (a0 : Array Value) (hw : ∀ d ∈ tables_1, d.before a0 Z = true) (ws : List Jvm.Cond) (p1 : Int32) (p2 : Int32) (p3 : Int32) (p4 : Int32) (p5 : Int32) (p6 : Int32) (h0 : Heap) (n0 : Nat) (Z0 : n0 ≤ h0.size) :
    MetFree l x (head1 (Jvm.Cond.code x code maxLocals ret :: ws) room_1) (fun a U => a = #[(.int p1), (.int p2), (.int p3), (.int p4), (.int p5), (.int p6)] ∧ Z.Warmed39 U.vm ∧ U.heap = h0) (fun _ _ _ _ _ => True) (fun _ U o U' => ∃ v L, o = .returned v ∧ QL (some (.int (1 : Int32))) n0 v U'.heap L ∧ FrameEnd U o U' L room_1.cells room_1.slots) := by
  refine MetFree.of_bodySF (plainFor_of_name pn_0) hisR ?_
  intro p e s m args below meth c s₁ Bd hml0 hP hK
  obtain ⟨rfl, hZ, hh⟩ := hP
  have hx := Bd.exec
  have hby := Bd.bytes
  have hml : c.maxLocals = 17 := hml0
  have hown : s.vm.findClass "com/example/hard_delay_bounds/harddelaybounds/analysis/BuilderAddPinLaw" = some m.cls := findClass_of_methodNamed Bd.named
  have hnm := (name_of_methodNamed Bd.named Bd.method).1
  have X0 : Stand p l e room_1 s m #[(.int p1), (.int p2), (.int p3), (.int p4), (.int p5), (.int p6)] below meth c s₁ [] 0 0 := Stand.of_body Bd
  have e0 : s₁.heap = h0 := by rw [← hh, Bd.state]; rfl
  have N0 := Fr.nil n0
  have pre0 : ∀ t, Steps p.tables e below (s₁.setTop (mkF m 0 #[.val (.int p1), .val (.int p2), .val (.int p3), .val (.int p4), .val (.int p5), .val (.int p6), .unset, .unset, .unset, .unset, .unset, .unset, .unset, .unset, .unset, .unset, .unset] [])) t → Steps p.tables e below (s₁.setTop (entryFrame m #[(.int p1), (.int p2), (.int p3), (.int p4), (.int p5), (.int p6)] maxLocals)) t := fun t k => castTop (ef_0 m p1 p2 p3 p4 p5 p6) k
  obtain ⟨_, _, ⟨T253, L253, k253, n253⟩, -, X253, ⟨Lc253, hQ253, l253, y253, z253⟩, st253⟩ := Jvm.LawKit.callS X0 hx (y := mn0) hown (mvT hZ (ww hw 2 rfl)) (mvT hZ (ww hw 3 rfl)) (mvT hZ (ww hw 4 rfl)) (mvT hZ (ww hw 5 rfl)) (by decide) (backOf (W := 0) (rm1 l Z a0 hw [] p1 (2147221503 : Int32) h0 n0 Z0) hZ (ww hw 5 rfl) (ww hw 4 rfl) (by decide) (by decide)) (g := (mkF m 13 (lo0_1 p1 p2 p3 p4 p5 p6) [(.int (2147221503 : Int32)), (.int p1)])) rfl (by rw [hml]; rfl) (argsL := [(.int p1), (.int (2147221503 : Int32))]) (rest := []) (lenOf pd_0 rfl) rfl (by show 2 * 0 + _ ≤ _; exact Nat.le_of_eq rfl) (hb hby at_13) (fun _ _ => ⟨rfl, e0, (by decide : 0 + 0 ≤ _), (by decide : 0 + 0 ≤ _)⟩)
  dsimp only [Pt.U, Pt.locs, Pt.cells, Pt.slots] at X253 l253 y253 z253 st253 hQ253
  subst l253 y253 z253
  obtain ⟨rfl, N253q, e253⟩ := hQ253
  have N253 := Fr.app N0 N253q
  have pre254 : ∀ t, Steps p.tables e below (T253.setTop (mkF m 67 #[.val (.int p1), .val (.int p2), .val (.int p3), .val (.int p4), .val (.int p5), .val (.int p6), .val (.int ((p6 &&& (2147483647 : Int32)) % (6 : Int32))), .val (.int (f1 p1 (2147221503 : Int32))), .val (.int (f1 p1 (2147221503 : Int32))), .val (.int (((f1 p1 (2147221503 : Int32)) + (1 : Int32)) + (p2 &&& (65535 : Int32)))), .val (.int (((((f1 p1 (2147221503 : Int32)) + (1 : Int32)) + (p2 &&& (65535 : Int32))) + (1 : Int32)) + (p3 &&& (65535 : Int32)))), .val (.int (((((((f1 p1 (2147221503 : Int32)) + (1 : Int32)) + (p2 &&& (65535 : Int32))) + (1 : Int32)) + (p3 &&& (65535 : Int32))) + (1 : Int32)) + (p4 &&& (65535 : Int32)))), .val (.int (((((((((f1 p1 (2147221503 : Int32)) + (1 : Int32)) + (p2 &&& (65535 : Int32))) + (1 : Int32)) + (p3 &&& (65535 : Int32))) + (1 : Int32)) + (p4 &&& (65535 : Int32))) + (1 : Int32)) + (p5 &&& (65535 : Int32)))), .unset, .unset, .unset, .unset] [])) t → Steps p.tables e below (s₁.setTop (entryFrame m #[(.int p1), (.int p2), (.int p3), (.int p4), (.int p5), (.int p6)] maxLocals)) t := fun t k => by
    refine pre0 _ ?_
    refine y_iload X0.here hx (hb hby at_0) rfl ?_
    refine X0.ldcInt hx hown (mvT hZ (ww hw 0 rfl)) (g := (mkF m 2 (lo0_0 p1 p2 p3 p4 p5 p6) [(.int p6)])) rfl (hb hby at_2) _ ?_
    show Steps p.tables e below (s₁.setTop (mkF m 4 (lo0_0 p1 p2 p3 p4 p5 p6) [(.int (2147483647 : Int32)), (.int p6)])) _
    refine y_iand X0.here hx (hb hby at_4) ?_
    refine y_bipush X0.here hx (v := (6 : Int32)) (hb hby at_5) rfl ?_
    refine Jvm.RoadKit.iremM X0 hx rfl (hb hby at_7) rfl (by decide) ?_
    show Steps p.tables e below (s₁.setTop (mkF m 8 (lo0_0 p1 p2 p3 p4 p5 p6) [(.int ((p6 &&& (2147483647 : Int32)) % (6 : Int32)))])) _
    refine y_istore X0.here hx (hb hby at_8) (l' := (lo0_1 p1 p2 p3 p4 p5 p6)) rfl ?_
    refine y_iloadN X0.here hx (hb hby at_10) rfl ?_
    refine X0.ldcInt hx hown (mvT hZ (ww hw 1 rfl)) (g := (mkF m 11 (lo0_1 p1 p2 p3 p4 p5 p6) [(.int p1)])) rfl (hb hby at_11) _ ?_
    show Steps p.tables e below (s₁.setTop (mkF m 13 (lo0_1 p1 p2 p3 p4 p5 p6) [(.int (2147221503 : Int32)), (.int p1)])) _
    refine st253 _ ?_
    show Steps p.tables e below (T253.setTop (mkF m 16 (lo0_1 p1 p2 p3 p4 p5 p6) [(.int (f1 p1 (2147221503 : Int32)))])) _
    refine y_istore X253.here hx (hb hby at_16) (l' := (lo0_2 p1 p2 p3 p4 p5 p6)) rfl ?_
    refine y_iload X253.here hx (hb hby at_18) rfl ?_
    refine y_istore X253.here hx (hb hby at_20) (l' := (lo0_3 p1 p2 p3 p4 p5 p6)) rfl ?_
    refine y_iload X253.here hx (hb hby at_22) rfl ?_
    refine y_iconst X253.here hx (v := (1 : Int32)) (hb hby at_24) rfl ?_
    refine y_iadd X253.here hx (hb hby at_25) ?_
    refine y_iloadN X253.here hx (hb hby at_26) rfl ?_
    refine X253.ldcInt hx hown (mvT hZ (ww hw 6 rfl)) (g := (mkF m 27 (lo0_3 p1 p2 p3 p4 p5 p6) [(.int p2), (.int ((f1 p1 (2147221503 : Int32)) + (1 : Int32)))])) rfl (hb hby at_27) _ ?_
    show Steps p.tables e below (T253.setTop (mkF m 29 (lo0_3 p1 p2 p3 p4 p5 p6) [(.int (65535 : Int32)), (.int p2), (.int ((f1 p1 (2147221503 : Int32)) + (1 : Int32)))])) _
    refine y_iand X253.here hx (hb hby at_29) ?_
    refine y_iadd X253.here hx (hb hby at_30) ?_
    refine y_istore X253.here hx (hb hby at_31) (l' := (lo0_4 p1 p2 p3 p4 p5 p6)) rfl ?_
    refine y_iload X253.here hx (hb hby at_33) rfl ?_
    refine y_iconst X253.here hx (v := (1 : Int32)) (hb hby at_35) rfl ?_
    refine y_iadd X253.here hx (hb hby at_36) ?_
    refine y_iloadN X253.here hx (hb hby at_37) rfl ?_
    refine X253.ldcInt hx hown (mvT hZ (ww hw 6 rfl)) (g := (mkF m 38 (lo0_4 p1 p2 p3 p4 p5 p6) [(.int p3), (.int ((((f1 p1 (2147221503 : Int32)) + (1 : Int32)) + (p2 &&& (65535 : Int32))) + (1 : Int32)))])) rfl (hb hby at_38) _ ?_
    show Steps p.tables e below (T253.setTop (mkF m 40 (lo0_4 p1 p2 p3 p4 p5 p6) [(.int (65535 : Int32)), (.int p3), (.int ((((f1 p1 (2147221503 : Int32)) + (1 : Int32)) + (p2 &&& (65535 : Int32))) + (1 : Int32)))])) _
    refine y_iand X253.here hx (hb hby at_40) ?_
    refine y_iadd X253.here hx (hb hby at_41) ?_
    refine y_istore X253.here hx (hb hby at_42) (l' := (lo0_5 p1 p2 p3 p4 p5 p6)) rfl ?_
    refine y_iload X253.here hx (hb hby at_44) rfl ?_
    refine y_iconst X253.here hx (v := (1 : Int32)) (hb hby at_46) rfl ?_
    refine y_iadd X253.here hx (hb hby at_47) ?_
    refine y_iloadN X253.here hx (hb hby at_48) rfl ?_
    refine X253.ldcInt hx hown (mvT hZ (ww hw 6 rfl)) (g := (mkF m 49 (lo0_5 p1 p2 p3 p4 p5 p6) [(.int p4), (.int ((((((f1 p1 (2147221503 : Int32)) + (1 : Int32)) + (p2 &&& (65535 : Int32))) + (1 : Int32)) + (p3 &&& (65535 : Int32))) + (1 : Int32)))])) rfl (hb hby at_49) _ ?_
    show Steps p.tables e below (T253.setTop (mkF m 51 (lo0_5 p1 p2 p3 p4 p5 p6) [(.int (65535 : Int32)), (.int p4), (.int ((((((f1 p1 (2147221503 : Int32)) + (1 : Int32)) + (p2 &&& (65535 : Int32))) + (1 : Int32)) + (p3 &&& (65535 : Int32))) + (1 : Int32)))])) _
    refine y_iand X253.here hx (hb hby at_51) ?_
    refine y_iadd X253.here hx (hb hby at_52) ?_
    refine y_istore X253.here hx (hb hby at_53) (l' := (lo0_6 p1 p2 p3 p4 p5 p6)) rfl ?_
    refine y_iload X253.here hx (hb hby at_55) rfl ?_
    refine y_iconst X253.here hx (v := (1 : Int32)) (hb hby at_57) rfl ?_
    refine y_iadd X253.here hx (hb hby at_58) ?_
    refine y_iload X253.here hx (hb hby at_59) rfl ?_
    refine X253.ldcInt hx hown (mvT hZ (ww hw 6 rfl)) (g := (mkF m 61 (lo0_6 p1 p2 p3 p4 p5 p6) [(.int p5), (.int ((((((((f1 p1 (2147221503 : Int32)) + (1 : Int32)) + (p2 &&& (65535 : Int32))) + (1 : Int32)) + (p3 &&& (65535 : Int32))) + (1 : Int32)) + (p4 &&& (65535 : Int32))) + (1 : Int32)))])) rfl (hb hby at_61) _ ?_
    show Steps p.tables e below (T253.setTop (mkF m 63 (lo0_6 p1 p2 p3 p4 p5 p6) [(.int (65535 : Int32)), (.int p5), (.int ((((((((f1 p1 (2147221503 : Int32)) + (1 : Int32)) + (p2 &&& (65535 : Int32))) + (1 : Int32)) + (p3 &&& (65535 : Int32))) + (1 : Int32)) + (p4 &&& (65535 : Int32))) + (1 : Int32)))])) _
    refine y_iand X253.here hx (hb hby at_63) ?_
    refine y_iadd X253.here hx (hb hby at_64) ?_
    refine y_istore X253.here hx (hb hby at_65) (l' := (lo0_7 p1 p2 p3 p4 p5 p6)) rfl ?_
    exact k
  have b0 := own_min p1
  have b1 := own_step (d := p2) b0 (by decide)
  have b2 := own_step (d := p3) b1.2 (by decide)
  have b3 := own_step (d := p4) b2.2 (by decide)
  have b4 := own_step (d := p5) b3.2 (by decide)
  have lt1 := b1.1
  have lt2 := b2.1
  have lt3 := b3.1
  have lt4 := b4.1
  clear b4 b3 b2 b1 b0
  generalize (((((((((f1 p1 (2147221503 : Int32)) + (1 : Int32)) + (p2 &&& (65535 : Int32))) + (1 : Int32)) + (p3 &&& (65535 : Int32))) + (1 : Int32)) + (p4 &&& (65535 : Int32))) + (1 : Int32)) + (p5 &&& (65535 : Int32))) = z4 at pre254 lt4
  generalize (((((((f1 p1 (2147221503 : Int32)) + (1 : Int32)) + (p2 &&& (65535 : Int32))) + (1 : Int32)) + (p3 &&& (65535 : Int32))) + (1 : Int32)) + (p4 &&& (65535 : Int32))) = z3 at pre254 lt3 lt4
  generalize (((((f1 p1 (2147221503 : Int32)) + (1 : Int32)) + (p2 &&& (65535 : Int32))) + (1 : Int32)) + (p3 &&& (65535 : Int32))) = z2 at pre254 lt2 lt3
  generalize (((f1 p1 (2147221503 : Int32)) + (1 : Int32)) + (p2 &&& (65535 : Int32))) = z1 at pre254 lt1 lt2
  generalize (f1 p1 (2147221503 : Int32)) = z0 at pre254 lt1
  obtain ⟨T256, h256, X256, e256, E256, A256, D256, -, st256⟩ := newO X253 hx hZ hown (ww hw 7 rfl) (ww hw 8 rfl) (ww hw 9 rfl) e253 (g := (mkF m 67 (lo0_8 p1 p2 p3 p4 p5 p6 z0 z1 z2 z3 z4) [])) rfl (hb hby at_67) (by decide) (by decide)
  obtain ⟨b256, g256⟩ : ∃ z, z = h0.size := ⟨_, rfl⟩
  rw [← g256] at A256 D256 st256
  have g_b256 : n0 ≤ b256 := Nat.le_trans Z0 (Nat.le_of_eq g256.symm)
  replace Z0 := Nat.le_trans Z0 E256.1
  have E_b256 := A256
  have F_numbers_b256 : Fld Z h256 b256 "com/example/hard_delay_bounds/harddelaybounds/analysis/FlowSet$Builder" "numbers" "[I" .null := D256 (Or.inl (ww hw 18 rfl)) (ty := (.array .int)) (by decide)
  have F_size_b256 : Fld Z h256 b256 "com/example/hard_delay_bounds/harddelaybounds/analysis/FlowSet$Builder" "size" "I" (.int (0 : Int32)) := D256 (Or.inl (ww hw 25 rfl)) (ty := .int) (by decide)
  obtain ⟨_, _, ⟨T257, L257, k257, n257⟩, -, X257, ⟨Lc257, hQ257, l257, y257, z257⟩, st257⟩ := X256.specialBack hx (y := mn1) rfl hown (mvT hZ (ww hw 10 rfl)) (mvT hZ (ww hw 11 rfl)) (mvT hZ (ww hw 12 rfl)) (by decide) (backOf (W := 1) (rm2 l Z a0 hw [] b256 h256 n0 Z0 E_b256 F_numbers_b256 F_size_b256 g_b256) hZ (ww hw 12 rfl) (ww hw 9 rfl) (by decide) (by decide)) (g := (mkF m 71 (lo0_8 p1 p2 p3 p4 p5 p6 z0 z1 z2 z3 z4) [(.ref b256), (.ref b256)])) rfl (by rw [hml]; rfl) (Steps.refl _) (a := b256) (argsL := []) (rest := [(.ref b256)]) (lenOf pd_3 rfl) rfl (by show 2 * 0 + _ ≤ _; exact Nat.le_of_eq rfl) (hb hby at_71) (fun _ _ => ⟨rfl, e256, (by decide : 1 + 1 ≤ _), (by decide : 2 + 4 ≤ _)⟩)
  dsimp only [Pt.U, Pt.locs, Pt.cells, Pt.slots] at X257 l257 y257 z257 st257 hQ257
  subst l257 y257 z257
  obtain ⟨h257, e257⟩ : ∃ z, T257.heap = z := ⟨_, rfl⟩
  rw [e257] at hQ257
  obtain ⟨rfl, N257q, K257, Eb257, Fs257, A257, k257, s257, Fn257, Vn257, En257⟩ := hQ257
  have g_A257 : n0 ≤ A257 := Nat.le_trans Z0 s257
  have ne_b256_A257 : b256 ≠ A257 := Nat.ne_of_lt (Nat.lt_of_lt_of_le E_b256.lt s257)
  replace E_b256 := E_b256.keep K257
  replace Z0 := Nat.le_trans Z0 K257.1
  have F_numbers_b256 : Fld Z h257 b256 "com/example/hard_delay_bounds/harddelaybounds/analysis/FlowSet$Builder" "numbers" "[I" (.ref A257) := Fn257
  have F_size_b256 : Fld Z h257 b256 "com/example/hard_delay_bounds/harddelaybounds/analysis/FlowSet$Builder" "size" "I" (.int (0 : Int32)) := Fs257
  have V_A257 : Arv Z h257 A257 k257 .int (4 : Int32) [(.int (0 : Int32)), (.int (0 : Int32)), (.int (0 : Int32)), (.int (0 : Int32))] (.int (0 : Int32)) := Vn257
  have E_A257 : Exa Z h257 A257 "[I" := En257
  have N257 := Fr.app N253 N257q
  have pre258 : ∀ t, Steps p.tables e below (T257.setTop (mkF m 80 #[.val (.int p1), .val (.int p2), .val (.int p3), .val (.int p4), .val (.int p5), .val (.int p6), .val (.int ((p6 &&& (2147483647 : Int32)) % (6 : Int32))), .val (.int z0), .val (.int z0), .val (.int z1), .val (.int z2), .val (.int z3), .val (.int z4), .val (.ref b256), .val (.ref b256), .unset, .unset] [])) t → Steps p.tables e below (s₁.setTop (entryFrame m #[(.int p1), (.int p2), (.int p3), (.int p4), (.int p5), (.int p6)] maxLocals)) t := fun t k => by
    refine pre254 _ ?_
    refine st256 _ ?_
    show Steps p.tables e below (T256.setTop (mkF m 70 (lo0_8 p1 p2 p3 p4 p5 p6 z0 z1 z2 z3 z4) [(.ref b256)])) _
    refine y_dup X256.here hx (hb hby at_70) rfl ?_
    refine st257.trans ?_
    show Steps p.tables e below (T257.setTop (mkF m 74 (lo0_8 p1 p2 p3 p4 p5 p6 z0 z1 z2 z3 z4) [(.ref b256)])) _
    refine y_astore X257.here hx (hb hby at_74) rfl (l' := (lo0_9 p1 p2 p3 p4 p5 p6 z0 z1 z2 z3 z4 b256)) rfl ?_
    refine y_aload X257.here hx (hb hby at_76) rfl rfl ?_
    refine y_astore X257.here hx (hb hby at_78) rfl (l' := (lo0_10 p1 p2 p3 p4 p5 p6 z0 z1 z2 z3 z4 b256)) rfl ?_
    exact k
  rcases own_m p6 with hm | hm | hm | hm | hm | hm
  · rw [hm] at pre258
    obtain ⟨cq259, kq259, q259a, q259b, q259c⟩ := isOf hZ e257 E_b256
    obtain ⟨_, _, ⟨T259, L259, k259, n259⟩, -, X259, ⟨Lc259, hQ259, l259, y259, z259⟩, st259⟩ := X257.virtualBack hx (y := mn5) (z := mn5) hown (mvT hZ (ww hw 26 rfl)) (mvT hZ (ww hw 27 rfl)) (notFace_of_selects (args := #[]) (mvT hZ (ww hw 29 rfl))) (mvT hZ (ww hw 29 rfl)) (mvT hZ (ww hw 28 rfl)) (by decide) (backOf (W := 0) (rm5_0 l Z a0 hw [] b256 A257 k257  h257 n0 Z0 E_b256 F_numbers_b256 F_size_b256 E_A257 V_A257 ne_b256_A257) hZ (ww hw 30 rfl) (ww hw 9 rfl) (by decide) (by decide)) q259a q259c (g := (mkF m 156 (lo0_11 p1 p2 p3 p4 p5 p6 z0 z1 z2 z3 z4 b256) [(.ref b256)])) rfl (by rw [hml]; rfl) (Steps.refl _) (argsL := []) (rest := []) (lenOf pd_4 rfl) rfl (by show 2 * 0 + _ ≤ _; exact Nat.le_of_eq rfl) (hb hby at_156) (fun _ _ => ⟨rfl, e257, (by decide : 2 + 2 ≤ _), (by decide : 6 + 2 ≤ _)⟩)
    dsimp only [Pt.U, Pt.locs, Pt.cells, Pt.slots] at X259 l259 y259 z259 st259 hQ259
    subst l259 y259 z259
    obtain ⟨h259, e259⟩ : ∃ z, T259.heap = z := ⟨_, rfl⟩
    rw [e259] at hQ259
    obtain ⟨b259, B259, k259, rfl, N259q, K259, s259, t259, En259, Fn259, Vn259⟩ := hQ259
    have g_b259 : n0 ≤ b259 := Nat.le_trans Z0 s259
    have ne_b256_b259 : b256 ≠ b259 := Nat.ne_of_lt (Nat.lt_of_lt_of_le E_b256.lt s259)
    have ne_A257_b259 : A257 ≠ b259 := Nat.ne_of_lt (Nat.lt_of_lt_of_le V_A257.lt s259)
    replace E_b256 := E_b256.keep K259
    replace F_numbers_b256 := F_numbers_b256.keep K259 nin0
    replace F_size_b256 := F_size_b256.keep K259 nin0
    replace V_A257 := V_A257.keep K259 nin0
    replace E_A257 := E_A257.keep K259
    replace Z0 := Nat.le_trans Z0 K259.1
    have E_b259 : Exa Z h259 b259 "com/example/hard_delay_bounds/harddelaybounds/analysis/FlowSet" := En259
    have F_numbers_b259 : Fld Z h259 b259 "com/example/hard_delay_bounds/harddelaybounds/analysis/FlowSet" "numbers" "[I" (.ref B259) := Fn259
    have V_B259 : Arv Z h259 B259 k259 .int (0 : Int32) [] (.int (0 : Int32)) := Vn259
    have N259 := Fr.app N257 N259q
    obtain ⟨cq260, kq260, q260a, q260b, q260c⟩ := isOf hZ e259 E_b259
    obtain ⟨_, _, ⟨T260, L260, k260, n260⟩, -, X260, ⟨Lc260, hQ260, l260, y260, z260⟩, st260⟩ := X259.virtualBack hx (y := mn6) (z := mn6) hown (mvT hZ (ww hw 52 rfl)) (mvT hZ (ww hw 53 rfl)) (notFace_of_selects (args := #[]) (mvT hZ (ww hw 55 rfl))) (mvT hZ (ww hw 55 rfl)) (mvT hZ (ww hw 54 rfl)) (by decide) (backOf (W := 0) (rm8_0 l Z a0 hw [] b259 B259 k259  h259 n0 Z0 F_numbers_b259 V_B259) hZ (ww hw 56 rfl) (ww hw 33 rfl) (by decide) (by decide)) q260a q260c (g := (mkF m 170 (lo0_12 p1 p2 p3 p4 p5 p6 z0 z1 z2 z3 z4 b256 b259) [(.ref b259)])) rfl (by rw [hml]; rfl) (Steps.refl _) (argsL := []) (rest := []) (lenOf pd_5 rfl) rfl (by show 2 * 0 + _ ≤ _; exact Nat.le_of_eq rfl) (hb hby at_170) (fun _ _ => ⟨rfl, e259, (by decide : 4 + 0 ≤ _), (by decide : 8 + 0 ≤ _)⟩)
    dsimp only [Pt.U, Pt.locs, Pt.cells, Pt.slots] at X260 l260 y260 z260 st260 hQ260
    subst l260 y260 z260
    obtain ⟨rfl, N260q, e260⟩ := hQ260
    have N260 := Fr.app N259 N260q
    obtain ⟨fs, hr, hrun, hended, hW, hsame⟩ := X260.leave (v := some (.int (1 : Int32))) (fun h => by rw [Bd.returns] at h; cases h)
    refine ⟨_, _, pre258 _ ?_, hrun, hended, _, _, rfl, ?_, ⟨_, rfl⟩, hW, hsame.mono (by decide) (by decide)⟩
    · refine y_iload X257.here hx (hb hby at_80) rfl ?_
      refine y_ifYes X257.here hx (pc' := 94) (hb hby at_82) ((if0 _ _).trans (flt (by decide)).2.2.2) (by decide) (by decide) ?_
      refine y_iload X257.here hx (hb hby at_94) rfl ?_
      refine y_iconst X257.here hx (v := (1 : Int32)) (hb hby at_96) rfl ?_
      refine y_icmpYes X257.here hx (pc' := 109) (hb hby at_97) (flt (by decide)).2.2.2 (by decide) (by decide) ?_
      refine y_iload X257.here hx (hb hby at_109) rfl ?_
      refine y_iconst X257.here hx (v := (2 : Int32)) (hb hby at_111) rfl ?_
      refine y_icmpYes X257.here hx (pc' := 124) (hb hby at_112) (flt (by decide)).2.2.2 (by decide) (by decide) ?_
      refine y_iload X257.here hx (hb hby at_124) rfl ?_
      refine y_iconst X257.here hx (v := (3 : Int32)) (hb hby at_126) rfl ?_
      refine y_icmpYes X257.here hx (pc' := 139) (hb hby at_127) (flt (by decide)).2.2.2 (by decide) (by decide) ?_
      refine y_iload X257.here hx (hb hby at_139) rfl ?_
      refine y_iconst X257.here hx (v := (4 : Int32)) (hb hby at_141) rfl ?_
      refine y_icmpYes X257.here hx (pc' := 154) (hb hby at_142) (flt (by decide)).2.2.2 (by decide) (by decide) ?_
      refine y_aload X257.here hx (hb hby at_154) rfl rfl ?_
      refine st259.trans ?_
      show Steps p.tables e below (T259.setTop (mkF m 159 (lo0_11 p1 p2 p3 p4 p5 p6 z0 z1 z2 z3 z4 b256) [(.ref b259)])) _
      refine y_astore X259.here hx (hb hby at_159) rfl (l' := (lo0_12 p1 p2 p3 p4 p5 p6 z0 z1 z2 z3 z4 b256 b259)) rfl ?_
      refine y_aload X259.here hx (hb hby at_161) rfl rfl ?_
      refine y_aload X259.here hx (hb hby at_163) rfl rfl ?_
      show Steps p.tables e below (T259.setTop (mkF m 165 (lo0_12 p1 p2 p3 p4 p5 p6 z0 z1 z2 z3 z4 b256 b259) [(.ref b256), (.ref b256)])) _
      refine Jvm.RoadKit.acmp (g := (mkF m 165 (lo0_12 p1 p2 p3 p4 p5 p6 z0 z1 z2 z3 z4 b256 b259) [(.ref b256), (.ref b256)])) X259 hx rfl rfl rfl (pc0 := 165) (pc' := 168) (same := true) rfl (hb hby at_165) rfl (decide_eq_true (congrArg Value.ref rfl)) (by decide) (by decide) ?_
      show Steps p.tables e below (T259.setTop (mkF m 168 (lo0_12 p1 p2 p3 p4 p5 p6 z0 z1 z2 z3 z4 b256 b259) [])) _
      refine y_aload X259.here hx (hb hby at_168) rfl rfl ?_
      refine st260.trans ?_
      show Steps p.tables e below (T260.setTop (mkF m 173 (lo0_12 p1 p2 p3 p4 p5 p6 z0 z1 z2 z3 z4 b256 b259) [(.int (0 : Int32))])) _
      refine y_iload X260.here hx (hb hby at_173) rfl ?_
      refine y_icmpNo X260.here hx (hb hby at_175) (teq rfl).2 ?_
      refine y_iconst X260.here hx (v := (1 : Int32)) (hb hby at_178) rfl ?_
      refine y_goto X260.here hx (pc' := 183) (hb hby at_179) (by decide) (by decide) ?_
      refine y_istore X260.here hx (hb hby at_183) (l' := (lo0_13 p1 p2 p3 p4 p5 p6 z0 z1 z2 z3 z4 b256 b259)) rfl ?_
      refine y_iload X260.here hx (hb hby at_185) rfl ?_
      refine y_ifNo X260.here hx (hb hby at_187) ((if0 _ _).trans (feq (by decide)).1) ?_
      refine y_iload X260.here hx (hb hby at_190) rfl ?_
      refine y_ifYes X260.here hx (pc' := 213) (hb hby at_192) ((if0 _ _).trans (flt (by decide)).2.2.2) (by decide) (by decide) ?_
      refine y_iload X260.here hx (hb hby at_213) rfl ?_
      refine y_ifNo X260.here hx (hb hby at_215) ((if0 _ _).trans (feq (by decide)).1) ?_
      refine y_iload X260.here hx (hb hby at_218) rfl ?_
      refine y_iconst X260.here hx (v := (1 : Int32)) (hb hby at_220) rfl ?_
      refine y_icmpYes X260.here hx (pc' := 242) (hb hby at_221) (flt (by decide)).2.2.2 (by decide) (by decide) ?_
      refine y_iload X260.here hx (hb hby at_242) rfl ?_
      refine y_ifNo X260.here hx (hb hby at_244) ((if0 _ _).trans (feq (by decide)).1) ?_
      refine y_iload X260.here hx (hb hby at_247) rfl ?_
      refine y_iconst X260.here hx (v := (2 : Int32)) (hb hby at_249) rfl ?_
      refine y_icmpYes X260.here hx (pc' := 271) (hb hby at_250) (flt (by decide)).2.2.2 (by decide) (by decide) ?_
      refine y_iload X260.here hx (hb hby at_271) rfl ?_
      refine y_ifNo X260.here hx (hb hby at_273) ((if0 _ _).trans (feq (by decide)).1) ?_
      refine y_iload X260.here hx (hb hby at_276) rfl ?_
      refine y_iconst X260.here hx (v := (3 : Int32)) (hb hby at_278) rfl ?_
      refine y_icmpYes X260.here hx (pc' := 300) (hb hby at_279) (flt (by decide)).2.2.2 (by decide) (by decide) ?_
      refine y_iload X260.here hx (hb hby at_300) rfl ?_
      refine y_ifNo X260.here hx (hb hby at_302) ((if0 _ _).trans (feq (by decide)).1) ?_
      refine y_iload X260.here hx (hb hby at_305) rfl ?_
      refine y_iconst X260.here hx (v := (4 : Int32)) (hb hby at_307) rfl ?_
      refine y_icmpYes X260.here hx (pc' := 329) (hb hby at_308) (flt (by decide)).2.2.2 (by decide) (by decide) ?_
      refine y_iload X260.here hx (hb hby at_329) rfl ?_
      exact retN X260 hx (t := .boolean) Bd.returns (by simp) (hb hby at_331) hr
    · exact ⟨rfl, N260⟩
  · rw [hm] at pre258
    obtain ⟨cq261, kq261, q261a, q261b, q261c⟩ := isOf hZ e257 E_b256
    obtain ⟨_, _, ⟨T261, L261, k261, n261⟩, -, X261, ⟨Lc261, hQ261, l261, y261, z261⟩, st261⟩ := X257.virtualBack hx (y := mn2) (z := mn2) hown (mvT hZ (ww hw 19 rfl)) (mvT hZ (ww hw 20 rfl)) (notFace_of_selects (args := #[]) (mvT hZ (ww hw 22 rfl))) (mvT hZ (ww hw 22 rfl)) (mvT hZ (ww hw 21 rfl)) (by decide) (backOf (W := 0) (rm4_0 l Z a0 hw [] b256 z0 A257 k257  h257 n0 Z0 E_b256 F_numbers_b256 F_size_b256 E_A257 V_A257 g_b256 g_A257 ne_b256_A257) hZ (ww hw 23 rfl) (ww hw 9 rfl) (by decide) (by decide)) q261a q261c (g := (mkF m 89 (lo0_14 p1 p2 p3 p4 p5 p6 z0 z1 z2 z3 z4 b256) [(.int z0), (.ref b256)])) rfl (by rw [hml]; rfl) (Steps.refl _) (argsL := [(.int z0)]) (rest := []) (lenOf pd_6 rfl) rfl (by show 2 * 0 + _ ≤ _; exact Nat.le_of_eq rfl) (hb hby at_89) (fun _ _ => ⟨rfl, e257, (by decide : 2 + 0 ≤ _), (by decide : 6 + 0 ≤ _)⟩)
    dsimp only [Pt.U, Pt.locs, Pt.cells, Pt.slots] at X261 l261 y261 z261 st261 hQ261
    subst l261 y261 z261
    obtain ⟨h261, e261⟩ : ∃ z, T261.heap = z := ⟨_, rfl⟩
    rw [e261] at hQ261
    obtain ⟨rfl, N261q, K261, Fs261, Fn261, Vn261⟩ := hQ261
    replace E_b256 := E_b256.keep K261
    replace E_A257 := E_A257.keep K261
    replace Z0 := Nat.le_trans Z0 K261.1
    have F_size_b256 : Fld Z h261 b256 "com/example/hard_delay_bounds/harddelaybounds/analysis/FlowSet$Builder" "size" "I" (.int (1 : Int32)) := Fs261
    have F_numbers_b256 : Fld Z h261 b256 "com/example/hard_delay_bounds/harddelaybounds/analysis/FlowSet$Builder" "numbers" "[I" (.ref A257) := Fn261
    have V_A257 : Arv Z h261 A257 k257 .int (4 : Int32) [(.int z0), (.int (0 : Int32)), (.int (0 : Int32)), (.int (0 : Int32))] (.int (0 : Int32)) := Vn261
    have N261 := Fr.app N257 N261q
    obtain ⟨cq262, kq262, q262a, q262b, q262c⟩ := isOf hZ e261 E_b256
    obtain ⟨_, _, ⟨T262, L262, k262, n262⟩, -, X262, ⟨Lc262, hQ262, l262, y262, z262⟩, st262⟩ := X261.virtualBack hx (y := mn5) (z := mn5) hown (mvT hZ (ww hw 26 rfl)) (mvT hZ (ww hw 27 rfl)) (notFace_of_selects (args := #[]) (mvT hZ (ww hw 29 rfl))) (mvT hZ (ww hw 29 rfl)) (mvT hZ (ww hw 28 rfl)) (by decide) (backOf (W := 0) (rm5_1 l Z a0 hw [] b256 A257 k257 z0 h261 n0 Z0 E_b256 F_numbers_b256 F_size_b256 E_A257 V_A257 ne_b256_A257) hZ (ww hw 30 rfl) (ww hw 9 rfl) (by decide) (by decide)) q262a q262c (g := (mkF m 156 (lo0_14 p1 p2 p3 p4 p5 p6 z0 z1 z2 z3 z4 b256) [(.ref b256)])) rfl (by rw [hml]; rfl) (Steps.refl _) (argsL := []) (rest := []) (lenOf pd_4 rfl) rfl (by show 2 * 0 + _ ≤ _; exact Nat.le_of_eq rfl) (hb hby at_156) (fun _ _ => ⟨rfl, e261, (by decide : 2 + 2 ≤ _), (by decide : 6 + 3 ≤ _)⟩)
    dsimp only [Pt.U, Pt.locs, Pt.cells, Pt.slots] at X262 l262 y262 z262 st262 hQ262
    subst l262 y262 z262
    obtain ⟨h262, e262⟩ : ∃ z, T262.heap = z := ⟨_, rfl⟩
    rw [e262] at hQ262
    obtain ⟨b262, B262, k262, rfl, N262q, K262, s262, t262, En262, Fn262, Vn262⟩ := hQ262
    have g_b262 : n0 ≤ b262 := Nat.le_trans Z0 s262
    have ne_b256_b262 : b256 ≠ b262 := Nat.ne_of_lt (Nat.lt_of_lt_of_le E_b256.lt s262)
    have ne_A257_b262 : A257 ≠ b262 := Nat.ne_of_lt (Nat.lt_of_lt_of_le V_A257.lt s262)
    replace E_b256 := E_b256.keep K262
    replace F_numbers_b256 := F_numbers_b256.keep K262 nin0
    replace F_size_b256 := F_size_b256.keep K262 nin0
    replace V_A257 := V_A257.keep K262 nin0
    replace E_A257 := E_A257.keep K262
    replace Z0 := Nat.le_trans Z0 K262.1
    have E_b262 : Exa Z h262 b262 "com/example/hard_delay_bounds/harddelaybounds/analysis/FlowSet" := En262
    have F_numbers_b262 : Fld Z h262 b262 "com/example/hard_delay_bounds/harddelaybounds/analysis/FlowSet" "numbers" "[I" (.ref B262) := Fn262
    have V_B262 : Arv Z h262 B262 k262 .int (1 : Int32) [(.int z0)] (.int (0 : Int32)) := Vn262
    have N262 := Fr.app N261 N262q
    obtain ⟨cq263, kq263, q263a, q263b, q263c⟩ := isOf hZ e262 E_b262
    obtain ⟨_, _, ⟨T263, L263, k263, n263⟩, -, X263, ⟨Lc263, hQ263, l263, y263, z263⟩, st263⟩ := X262.virtualBack hx (y := mn6) (z := mn6) hown (mvT hZ (ww hw 52 rfl)) (mvT hZ (ww hw 53 rfl)) (notFace_of_selects (args := #[]) (mvT hZ (ww hw 55 rfl))) (mvT hZ (ww hw 55 rfl)) (mvT hZ (ww hw 54 rfl)) (by decide) (backOf (W := 0) (rm8_1 l Z a0 hw [] b262 B262 k262 z0 h262 n0 Z0 F_numbers_b262 V_B262) hZ (ww hw 56 rfl) (ww hw 33 rfl) (by decide) (by decide)) q263a q263c (g := (mkF m 170 (lo0_15 p1 p2 p3 p4 p5 p6 z0 z1 z2 z3 z4 b256 b262) [(.ref b262)])) rfl (by rw [hml]; rfl) (Steps.refl _) (argsL := []) (rest := []) (lenOf pd_5 rfl) rfl (by show 2 * 0 + _ ≤ _; exact Nat.le_of_eq rfl) (hb hby at_170) (fun _ _ => ⟨rfl, e262, (by decide : 4 + 0 ≤ _), (by decide : 9 + 0 ≤ _)⟩)
    dsimp only [Pt.U, Pt.locs, Pt.cells, Pt.slots] at X263 l263 y263 z263 st263 hQ263
    subst l263 y263 z263
    obtain ⟨rfl, N263q, e263⟩ := hQ263
    have N263 := Fr.app N262 N263q
    obtain ⟨cq264, kq264, q264a, q264b, q264c⟩ := isOf hZ e263 E_b262
    obtain ⟨_, _, ⟨T264, L264, k264, n264⟩, -, X264, ⟨Lc264, hQ264, l264, y264, z264⟩, st264⟩ := X263.virtualBack hx (y := mn7) (z := mn7) hown (mvT hZ (ww hw 57 rfl)) (mvT hZ (ww hw 58 rfl)) (notFace_of_selects (args := #[]) (mvT hZ (ww hw 60 rfl))) (mvT hZ (ww hw 60 rfl)) (mvT hZ (ww hw 59 rfl)) (by decide) (backOf (W := 0) (rm9_1_0 l Z a0 hw [] b262 B262 k262 z0 h262 n0 Z0 F_numbers_b262 V_B262) hZ (ww hw 61 rfl) (ww hw 33 rfl) (by decide) (by decide)) q264a q264c (g := (mkF m 198 (lo0_16 p1 p2 p3 p4 p5 p6 z0 z1 z2 z3 z4 b256 b262) [(.int (0 : Int32)), (.ref b262)])) rfl (by rw [hml]; rfl) (Steps.refl _) (argsL := [(.int (0 : Int32))]) (rest := []) (lenOf pd_7 rfl) rfl (by show 2 * 0 + _ ≤ _; exact Nat.le_of_eq rfl) (hb hby at_198) (fun _ _ => ⟨rfl, e263, (by decide : 4 + 0 ≤ _), (by decide : 9 + 0 ≤ _)⟩)
    dsimp only [Pt.U, Pt.locs, Pt.cells, Pt.slots] at X264 l264 y264 z264 st264 hQ264
    subst l264 y264 z264
    obtain ⟨rfl, N264q, e264⟩ := hQ264
    have N264 := Fr.app N263 N264q
    obtain ⟨fs, hr, hrun, hended, hW, hsame⟩ := X264.leave (v := some (.int (1 : Int32))) (fun h => by rw [Bd.returns] at h; cases h)
    refine ⟨_, _, pre258 _ ?_, hrun, hended, _, _, rfl, ?_, ⟨_, rfl⟩, hW, hsame.mono (by decide) (by decide)⟩
    · refine y_iload X257.here hx (hb hby at_80) rfl ?_
      refine y_ifNo X257.here hx (hb hby at_82) ((if0 _ _).trans (tlt (by decide)).2.2.2) ?_
      refine y_aload X257.here hx (hb hby at_85) rfl rfl ?_
      refine y_iload X257.here hx (hb hby at_87) rfl ?_
      refine st261.trans ?_
      show Steps p.tables e below (T261.setTop (mkF m 92 (lo0_14 p1 p2 p3 p4 p5 p6 z0 z1 z2 z3 z4 b256) [(.ref b256)])) _
      refine y_astore X261.here hx (hb hby at_92) rfl (l' := (lo0_14 p1 p2 p3 p4 p5 p6 z0 z1 z2 z3 z4 b256)) rfl ?_
      refine y_iload X261.here hx (hb hby at_94) rfl ?_
      refine y_iconst X261.here hx (v := (1 : Int32)) (hb hby at_96) rfl ?_
      refine y_icmpYes X261.here hx (pc' := 109) (hb hby at_97) (flt (by decide)).2.2.2 (by decide) (by decide) ?_
      refine y_iload X261.here hx (hb hby at_109) rfl ?_
      refine y_iconst X261.here hx (v := (2 : Int32)) (hb hby at_111) rfl ?_
      refine y_icmpYes X261.here hx (pc' := 124) (hb hby at_112) (flt (by decide)).2.2.2 (by decide) (by decide) ?_
      refine y_iload X261.here hx (hb hby at_124) rfl ?_
      refine y_iconst X261.here hx (v := (3 : Int32)) (hb hby at_126) rfl ?_
      refine y_icmpYes X261.here hx (pc' := 139) (hb hby at_127) (flt (by decide)).2.2.2 (by decide) (by decide) ?_
      refine y_iload X261.here hx (hb hby at_139) rfl ?_
      refine y_iconst X261.here hx (v := (4 : Int32)) (hb hby at_141) rfl ?_
      refine y_icmpYes X261.here hx (pc' := 154) (hb hby at_142) (flt (by decide)).2.2.2 (by decide) (by decide) ?_
      refine y_aload X261.here hx (hb hby at_154) rfl rfl ?_
      refine st262.trans ?_
      show Steps p.tables e below (T262.setTop (mkF m 159 (lo0_14 p1 p2 p3 p4 p5 p6 z0 z1 z2 z3 z4 b256) [(.ref b262)])) _
      refine y_astore X262.here hx (hb hby at_159) rfl (l' := (lo0_15 p1 p2 p3 p4 p5 p6 z0 z1 z2 z3 z4 b256 b262)) rfl ?_
      refine y_aload X262.here hx (hb hby at_161) rfl rfl ?_
      refine y_aload X262.here hx (hb hby at_163) rfl rfl ?_
      show Steps p.tables e below (T262.setTop (mkF m 165 (lo0_15 p1 p2 p3 p4 p5 p6 z0 z1 z2 z3 z4 b256 b262) [(.ref b256), (.ref b256)])) _
      refine Jvm.RoadKit.acmp (g := (mkF m 165 (lo0_15 p1 p2 p3 p4 p5 p6 z0 z1 z2 z3 z4 b256 b262) [(.ref b256), (.ref b256)])) X262 hx rfl rfl rfl (pc0 := 165) (pc' := 168) (same := true) rfl (hb hby at_165) rfl (decide_eq_true (congrArg Value.ref rfl)) (by decide) (by decide) ?_
      show Steps p.tables e below (T262.setTop (mkF m 168 (lo0_15 p1 p2 p3 p4 p5 p6 z0 z1 z2 z3 z4 b256 b262) [])) _
      refine y_aload X262.here hx (hb hby at_168) rfl rfl ?_
      refine st263.trans ?_
      show Steps p.tables e below (T263.setTop (mkF m 173 (lo0_15 p1 p2 p3 p4 p5 p6 z0 z1 z2 z3 z4 b256 b262) [(.int (1 : Int32))])) _
      refine y_iload X263.here hx (hb hby at_173) rfl ?_
      refine y_icmpNo X263.here hx (hb hby at_175) (teq rfl).2 ?_
      refine y_iconst X263.here hx (v := (1 : Int32)) (hb hby at_178) rfl ?_
      refine y_goto X263.here hx (pc' := 183) (hb hby at_179) (by decide) (by decide) ?_
      refine y_istore X263.here hx (hb hby at_183) (l' := (lo0_16 p1 p2 p3 p4 p5 p6 z0 z1 z2 z3 z4 b256 b262)) rfl ?_
      refine y_iload X263.here hx (hb hby at_185) rfl ?_
      refine y_ifNo X263.here hx (hb hby at_187) ((if0 _ _).trans (feq (by decide)).1) ?_
      refine y_iload X263.here hx (hb hby at_190) rfl ?_
      refine y_ifNo X263.here hx (hb hby at_192) ((if0 _ _).trans (tlt (by decide)).2.2.2) ?_
      refine y_aload X263.here hx (hb hby at_195) rfl rfl ?_
      refine y_iconst X263.here hx (v := (0 : Int32)) (hb hby at_197) rfl ?_
      refine st264.trans ?_
      show Steps p.tables e below (T264.setTop (mkF m 201 (lo0_16 p1 p2 p3 p4 p5 p6 z0 z1 z2 z3 z4 b256 b262) [(.int z0)])) _
      refine y_iload X264.here hx (hb hby at_201) rfl ?_
      refine y_icmpNo X264.here hx (hb hby at_203) (teq rfl).2 ?_
      refine y_iconst X264.here hx (v := (1 : Int32)) (hb hby at_206) rfl ?_
      refine y_goto X264.here hx (pc' := 211) (hb hby at_207) (by decide) (by decide) ?_
      refine y_istore X264.here hx (hb hby at_211) (l' := (lo0_16 p1 p2 p3 p4 p5 p6 z0 z1 z2 z3 z4 b256 b262)) rfl ?_
      refine y_iload X264.here hx (hb hby at_213) rfl ?_
      refine y_ifNo X264.here hx (hb hby at_215) ((if0 _ _).trans (feq (by decide)).1) ?_
      refine y_iload X264.here hx (hb hby at_218) rfl ?_
      refine y_iconst X264.here hx (v := (1 : Int32)) (hb hby at_220) rfl ?_
      refine y_icmpYes X264.here hx (pc' := 242) (hb hby at_221) (flt (by decide)).2.2.2 (by decide) (by decide) ?_
      refine y_iload X264.here hx (hb hby at_242) rfl ?_
      refine y_ifNo X264.here hx (hb hby at_244) ((if0 _ _).trans (feq (by decide)).1) ?_
      refine y_iload X264.here hx (hb hby at_247) rfl ?_
      refine y_iconst X264.here hx (v := (2 : Int32)) (hb hby at_249) rfl ?_
      refine y_icmpYes X264.here hx (pc' := 271) (hb hby at_250) (flt (by decide)).2.2.2 (by decide) (by decide) ?_
      refine y_iload X264.here hx (hb hby at_271) rfl ?_
      refine y_ifNo X264.here hx (hb hby at_273) ((if0 _ _).trans (feq (by decide)).1) ?_
      refine y_iload X264.here hx (hb hby at_276) rfl ?_
      refine y_iconst X264.here hx (v := (3 : Int32)) (hb hby at_278) rfl ?_
      refine y_icmpYes X264.here hx (pc' := 300) (hb hby at_279) (flt (by decide)).2.2.2 (by decide) (by decide) ?_
      refine y_iload X264.here hx (hb hby at_300) rfl ?_
      refine y_ifNo X264.here hx (hb hby at_302) ((if0 _ _).trans (feq (by decide)).1) ?_
      refine y_iload X264.here hx (hb hby at_305) rfl ?_
      refine y_iconst X264.here hx (v := (4 : Int32)) (hb hby at_307) rfl ?_
      refine y_icmpYes X264.here hx (pc' := 329) (hb hby at_308) (flt (by decide)).2.2.2 (by decide) (by decide) ?_
      refine y_iload X264.here hx (hb hby at_329) rfl ?_
      exact retN X264 hx (t := .boolean) Bd.returns (by simp) (hb hby at_331) hr
    · exact ⟨rfl, N264⟩
  · rw [hm] at pre258
    obtain ⟨cq265, kq265, q265a, q265b, q265c⟩ := isOf hZ e257 E_b256
    obtain ⟨_, _, ⟨T265, L265, k265, n265⟩, -, X265, ⟨Lc265, hQ265, l265, y265, z265⟩, st265⟩ := X257.virtualBack hx (y := mn2) (z := mn2) hown (mvT hZ (ww hw 19 rfl)) (mvT hZ (ww hw 20 rfl)) (notFace_of_selects (args := #[]) (mvT hZ (ww hw 22 rfl))) (mvT hZ (ww hw 22 rfl)) (mvT hZ (ww hw 21 rfl)) (by decide) (backOf (W := 0) (rm4_0 l Z a0 hw [] b256 z0 A257 k257  h257 n0 Z0 E_b256 F_numbers_b256 F_size_b256 E_A257 V_A257 g_b256 g_A257 ne_b256_A257) hZ (ww hw 23 rfl) (ww hw 9 rfl) (by decide) (by decide)) q265a q265c (g := (mkF m 89 (lo0_17 p1 p2 p3 p4 p5 p6 z0 z1 z2 z3 z4 b256) [(.int z0), (.ref b256)])) rfl (by rw [hml]; rfl) (Steps.refl _) (argsL := [(.int z0)]) (rest := []) (lenOf pd_6 rfl) rfl (by show 2 * 0 + _ ≤ _; exact Nat.le_of_eq rfl) (hb hby at_89) (fun _ _ => ⟨rfl, e257, (by decide : 2 + 0 ≤ _), (by decide : 6 + 0 ≤ _)⟩)
    dsimp only [Pt.U, Pt.locs, Pt.cells, Pt.slots] at X265 l265 y265 z265 st265 hQ265
    subst l265 y265 z265
    obtain ⟨h265, e265⟩ : ∃ z, T265.heap = z := ⟨_, rfl⟩
    rw [e265] at hQ265
    obtain ⟨rfl, N265q, K265, Fs265, Fn265, Vn265⟩ := hQ265
    replace E_b256 := E_b256.keep K265
    replace E_A257 := E_A257.keep K265
    replace Z0 := Nat.le_trans Z0 K265.1
    have F_size_b256 : Fld Z h265 b256 "com/example/hard_delay_bounds/harddelaybounds/analysis/FlowSet$Builder" "size" "I" (.int (1 : Int32)) := Fs265
    have F_numbers_b256 : Fld Z h265 b256 "com/example/hard_delay_bounds/harddelaybounds/analysis/FlowSet$Builder" "numbers" "[I" (.ref A257) := Fn265
    have V_A257 : Arv Z h265 A257 k257 .int (4 : Int32) [(.int z0), (.int (0 : Int32)), (.int (0 : Int32)), (.int (0 : Int32))] (.int (0 : Int32)) := Vn265
    have N265 := Fr.app N257 N265q
    obtain ⟨cq266, kq266, q266a, q266b, q266c⟩ := isOf hZ e265 E_b256
    obtain ⟨_, _, ⟨T266, L266, k266, n266⟩, -, X266, ⟨Lc266, hQ266, l266, y266, z266⟩, st266⟩ := X265.virtualBack hx (y := mn2) (z := mn2) hown (mvT hZ (ww hw 19 rfl)) (mvT hZ (ww hw 20 rfl)) (notFace_of_selects (args := #[]) (mvT hZ (ww hw 22 rfl))) (mvT hZ (ww hw 22 rfl)) (mvT hZ (ww hw 21 rfl)) (by decide) (backOf (W := 0) (rm4_1 l Z a0 hw [] b256 z1 A257 k257 z0 h265 n0 Z0 lt1 E_b256 F_numbers_b256 F_size_b256 E_A257 V_A257 g_b256 g_A257 ne_b256_A257) hZ (ww hw 23 rfl) (ww hw 9 rfl) (by decide) (by decide)) q266a q266c (g := (mkF m 104 (lo0_17 p1 p2 p3 p4 p5 p6 z0 z1 z2 z3 z4 b256) [(.int z1), (.ref b256)])) rfl (by rw [hml]; rfl) (Steps.refl _) (argsL := [(.int z1)]) (rest := []) (lenOf pd_6 rfl) rfl (by show 2 * 0 + _ ≤ _; exact Nat.le_of_eq rfl) (hb hby at_104) (fun _ _ => ⟨rfl, e265, (by decide : 2 + 0 ≤ _), (by decide : 6 + 0 ≤ _)⟩)
    dsimp only [Pt.U, Pt.locs, Pt.cells, Pt.slots] at X266 l266 y266 z266 st266 hQ266
    subst l266 y266 z266
    obtain ⟨h266, e266⟩ : ∃ z, T266.heap = z := ⟨_, rfl⟩
    rw [e266] at hQ266
    obtain ⟨rfl, N266q, K266, Fs266, Fn266, Vn266⟩ := hQ266
    replace E_b256 := E_b256.keep K266
    replace E_A257 := E_A257.keep K266
    replace Z0 := Nat.le_trans Z0 K266.1
    have F_size_b256 : Fld Z h266 b256 "com/example/hard_delay_bounds/harddelaybounds/analysis/FlowSet$Builder" "size" "I" (.int (2 : Int32)) := Fs266
    have F_numbers_b256 : Fld Z h266 b256 "com/example/hard_delay_bounds/harddelaybounds/analysis/FlowSet$Builder" "numbers" "[I" (.ref A257) := Fn266
    have V_A257 : Arv Z h266 A257 k257 .int (4 : Int32) [(.int z0), (.int z1), (.int (0 : Int32)), (.int (0 : Int32))] (.int (0 : Int32)) := Vn266
    have N266 := Fr.app N265 N266q
    obtain ⟨cq267, kq267, q267a, q267b, q267c⟩ := isOf hZ e266 E_b256
    obtain ⟨_, _, ⟨T267, L267, k267, n267⟩, -, X267, ⟨Lc267, hQ267, l267, y267, z267⟩, st267⟩ := X266.virtualBack hx (y := mn5) (z := mn5) hown (mvT hZ (ww hw 26 rfl)) (mvT hZ (ww hw 27 rfl)) (notFace_of_selects (args := #[]) (mvT hZ (ww hw 29 rfl))) (mvT hZ (ww hw 29 rfl)) (mvT hZ (ww hw 28 rfl)) (by decide) (backOf (W := 0) (rm5_2 l Z a0 hw [] b256 A257 k257 z0 z1 h266 n0 Z0 E_b256 F_numbers_b256 F_size_b256 E_A257 V_A257 ne_b256_A257) hZ (ww hw 30 rfl) (ww hw 9 rfl) (by decide) (by decide)) q267a q267c (g := (mkF m 156 (lo0_17 p1 p2 p3 p4 p5 p6 z0 z1 z2 z3 z4 b256) [(.ref b256)])) rfl (by rw [hml]; rfl) (Steps.refl _) (argsL := []) (rest := []) (lenOf pd_4 rfl) rfl (by show 2 * 0 + _ ≤ _; exact Nat.le_of_eq rfl) (hb hby at_156) (fun _ _ => ⟨rfl, e266, (by decide : 2 + 2 ≤ _), (by decide : 6 + 4 ≤ _)⟩)
    dsimp only [Pt.U, Pt.locs, Pt.cells, Pt.slots] at X267 l267 y267 z267 st267 hQ267
    subst l267 y267 z267
    obtain ⟨h267, e267⟩ : ∃ z, T267.heap = z := ⟨_, rfl⟩
    rw [e267] at hQ267
    obtain ⟨b267, B267, k267, rfl, N267q, K267, s267, t267, En267, Fn267, Vn267⟩ := hQ267
    have g_b267 : n0 ≤ b267 := Nat.le_trans Z0 s267
    have ne_b256_b267 : b256 ≠ b267 := Nat.ne_of_lt (Nat.lt_of_lt_of_le E_b256.lt s267)
    have ne_A257_b267 : A257 ≠ b267 := Nat.ne_of_lt (Nat.lt_of_lt_of_le V_A257.lt s267)
    replace E_b256 := E_b256.keep K267
    replace F_numbers_b256 := F_numbers_b256.keep K267 nin0
    replace F_size_b256 := F_size_b256.keep K267 nin0
    replace V_A257 := V_A257.keep K267 nin0
    replace E_A257 := E_A257.keep K267
    replace Z0 := Nat.le_trans Z0 K267.1
    have E_b267 : Exa Z h267 b267 "com/example/hard_delay_bounds/harddelaybounds/analysis/FlowSet" := En267
    have F_numbers_b267 : Fld Z h267 b267 "com/example/hard_delay_bounds/harddelaybounds/analysis/FlowSet" "numbers" "[I" (.ref B267) := Fn267
    have V_B267 : Arv Z h267 B267 k267 .int (2 : Int32) [(.int z0), (.int z1)] (.int (0 : Int32)) := Vn267
    have N267 := Fr.app N266 N267q
    obtain ⟨cq268, kq268, q268a, q268b, q268c⟩ := isOf hZ e267 E_b267
    obtain ⟨_, _, ⟨T268, L268, k268, n268⟩, -, X268, ⟨Lc268, hQ268, l268, y268, z268⟩, st268⟩ := X267.virtualBack hx (y := mn6) (z := mn6) hown (mvT hZ (ww hw 52 rfl)) (mvT hZ (ww hw 53 rfl)) (notFace_of_selects (args := #[]) (mvT hZ (ww hw 55 rfl))) (mvT hZ (ww hw 55 rfl)) (mvT hZ (ww hw 54 rfl)) (by decide) (backOf (W := 0) (rm8_2 l Z a0 hw [] b267 B267 k267 z0 z1 h267 n0 Z0 F_numbers_b267 V_B267) hZ (ww hw 56 rfl) (ww hw 33 rfl) (by decide) (by decide)) q268a q268c (g := (mkF m 170 (lo0_18 p1 p2 p3 p4 p5 p6 z0 z1 z2 z3 z4 b256 b267) [(.ref b267)])) rfl (by rw [hml]; rfl) (Steps.refl _) (argsL := []) (rest := []) (lenOf pd_5 rfl) rfl (by show 2 * 0 + _ ≤ _; exact Nat.le_of_eq rfl) (hb hby at_170) (fun _ _ => ⟨rfl, e267, (by decide : 4 + 0 ≤ _), (by decide : 10 + 0 ≤ _)⟩)
    dsimp only [Pt.U, Pt.locs, Pt.cells, Pt.slots] at X268 l268 y268 z268 st268 hQ268
    subst l268 y268 z268
    obtain ⟨rfl, N268q, e268⟩ := hQ268
    have N268 := Fr.app N267 N268q
    obtain ⟨cq269, kq269, q269a, q269b, q269c⟩ := isOf hZ e268 E_b267
    obtain ⟨_, _, ⟨T269, L269, k269, n269⟩, -, X269, ⟨Lc269, hQ269, l269, y269, z269⟩, st269⟩ := X268.virtualBack hx (y := mn7) (z := mn7) hown (mvT hZ (ww hw 57 rfl)) (mvT hZ (ww hw 58 rfl)) (notFace_of_selects (args := #[]) (mvT hZ (ww hw 60 rfl))) (mvT hZ (ww hw 60 rfl)) (mvT hZ (ww hw 59 rfl)) (by decide) (backOf (W := 0) (rm9_2_0 l Z a0 hw [] b267 B267 k267 z0 z1 h267 n0 Z0 F_numbers_b267 V_B267) hZ (ww hw 61 rfl) (ww hw 33 rfl) (by decide) (by decide)) q269a q269c (g := (mkF m 198 (lo0_19 p1 p2 p3 p4 p5 p6 z0 z1 z2 z3 z4 b256 b267) [(.int (0 : Int32)), (.ref b267)])) rfl (by rw [hml]; rfl) (Steps.refl _) (argsL := [(.int (0 : Int32))]) (rest := []) (lenOf pd_7 rfl) rfl (by show 2 * 0 + _ ≤ _; exact Nat.le_of_eq rfl) (hb hby at_198) (fun _ _ => ⟨rfl, e268, (by decide : 4 + 0 ≤ _), (by decide : 10 + 0 ≤ _)⟩)
    dsimp only [Pt.U, Pt.locs, Pt.cells, Pt.slots] at X269 l269 y269 z269 st269 hQ269
    subst l269 y269 z269
    obtain ⟨rfl, N269q, e269⟩ := hQ269
    have N269 := Fr.app N268 N269q
    obtain ⟨cq270, kq270, q270a, q270b, q270c⟩ := isOf hZ e269 E_b267
    obtain ⟨_, _, ⟨T270, L270, k270, n270⟩, -, X270, ⟨Lc270, hQ270, l270, y270, z270⟩, st270⟩ := X269.virtualBack hx (y := mn7) (z := mn7) hown (mvT hZ (ww hw 57 rfl)) (mvT hZ (ww hw 58 rfl)) (notFace_of_selects (args := #[]) (mvT hZ (ww hw 60 rfl))) (mvT hZ (ww hw 60 rfl)) (mvT hZ (ww hw 59 rfl)) (by decide) (backOf (W := 0) (rm9_2_1 l Z a0 hw [] b267 B267 k267 z0 z1 h267 n0 Z0 F_numbers_b267 V_B267) hZ (ww hw 61 rfl) (ww hw 33 rfl) (by decide) (by decide)) q270a q270c (g := (mkF m 227 (lo0_19 p1 p2 p3 p4 p5 p6 z0 z1 z2 z3 z4 b256 b267) [(.int (1 : Int32)), (.ref b267)])) rfl (by rw [hml]; rfl) (Steps.refl _) (argsL := [(.int (1 : Int32))]) (rest := []) (lenOf pd_7 rfl) rfl (by show 2 * 0 + _ ≤ _; exact Nat.le_of_eq rfl) (hb hby at_227) (fun _ _ => ⟨rfl, e269, (by decide : 4 + 0 ≤ _), (by decide : 10 + 0 ≤ _)⟩)
    dsimp only [Pt.U, Pt.locs, Pt.cells, Pt.slots] at X270 l270 y270 z270 st270 hQ270
    subst l270 y270 z270
    obtain ⟨rfl, N270q, e270⟩ := hQ270
    have N270 := Fr.app N269 N270q
    obtain ⟨fs, hr, hrun, hended, hW, hsame⟩ := X270.leave (v := some (.int (1 : Int32))) (fun h => by rw [Bd.returns] at h; cases h)
    refine ⟨_, _, pre258 _ ?_, hrun, hended, _, _, rfl, ?_, ⟨_, rfl⟩, hW, hsame.mono (by decide) (by decide)⟩
    · refine y_iload X257.here hx (hb hby at_80) rfl ?_
      refine y_ifNo X257.here hx (hb hby at_82) ((if0 _ _).trans (tlt (by decide)).2.2.2) ?_
      refine y_aload X257.here hx (hb hby at_85) rfl rfl ?_
      refine y_iload X257.here hx (hb hby at_87) rfl ?_
      refine st265.trans ?_
      show Steps p.tables e below (T265.setTop (mkF m 92 (lo0_17 p1 p2 p3 p4 p5 p6 z0 z1 z2 z3 z4 b256) [(.ref b256)])) _
      refine y_astore X265.here hx (hb hby at_92) rfl (l' := (lo0_17 p1 p2 p3 p4 p5 p6 z0 z1 z2 z3 z4 b256)) rfl ?_
      refine y_iload X265.here hx (hb hby at_94) rfl ?_
      refine y_iconst X265.here hx (v := (1 : Int32)) (hb hby at_96) rfl ?_
      refine y_icmpNo X265.here hx (hb hby at_97) (tlt (by decide)).2.2.2 ?_
      refine y_aload X265.here hx (hb hby at_100) rfl rfl ?_
      refine y_iload X265.here hx (hb hby at_102) rfl ?_
      refine st266.trans ?_
      show Steps p.tables e below (T266.setTop (mkF m 107 (lo0_17 p1 p2 p3 p4 p5 p6 z0 z1 z2 z3 z4 b256) [(.ref b256)])) _
      refine y_astore X266.here hx (hb hby at_107) rfl (l' := (lo0_17 p1 p2 p3 p4 p5 p6 z0 z1 z2 z3 z4 b256)) rfl ?_
      refine y_iload X266.here hx (hb hby at_109) rfl ?_
      refine y_iconst X266.here hx (v := (2 : Int32)) (hb hby at_111) rfl ?_
      refine y_icmpYes X266.here hx (pc' := 124) (hb hby at_112) (flt (by decide)).2.2.2 (by decide) (by decide) ?_
      refine y_iload X266.here hx (hb hby at_124) rfl ?_
      refine y_iconst X266.here hx (v := (3 : Int32)) (hb hby at_126) rfl ?_
      refine y_icmpYes X266.here hx (pc' := 139) (hb hby at_127) (flt (by decide)).2.2.2 (by decide) (by decide) ?_
      refine y_iload X266.here hx (hb hby at_139) rfl ?_
      refine y_iconst X266.here hx (v := (4 : Int32)) (hb hby at_141) rfl ?_
      refine y_icmpYes X266.here hx (pc' := 154) (hb hby at_142) (flt (by decide)).2.2.2 (by decide) (by decide) ?_
      refine y_aload X266.here hx (hb hby at_154) rfl rfl ?_
      refine st267.trans ?_
      show Steps p.tables e below (T267.setTop (mkF m 159 (lo0_17 p1 p2 p3 p4 p5 p6 z0 z1 z2 z3 z4 b256) [(.ref b267)])) _
      refine y_astore X267.here hx (hb hby at_159) rfl (l' := (lo0_18 p1 p2 p3 p4 p5 p6 z0 z1 z2 z3 z4 b256 b267)) rfl ?_
      refine y_aload X267.here hx (hb hby at_161) rfl rfl ?_
      refine y_aload X267.here hx (hb hby at_163) rfl rfl ?_
      show Steps p.tables e below (T267.setTop (mkF m 165 (lo0_18 p1 p2 p3 p4 p5 p6 z0 z1 z2 z3 z4 b256 b267) [(.ref b256), (.ref b256)])) _
      refine Jvm.RoadKit.acmp (g := (mkF m 165 (lo0_18 p1 p2 p3 p4 p5 p6 z0 z1 z2 z3 z4 b256 b267) [(.ref b256), (.ref b256)])) X267 hx rfl rfl rfl (pc0 := 165) (pc' := 168) (same := true) rfl (hb hby at_165) rfl (decide_eq_true (congrArg Value.ref rfl)) (by decide) (by decide) ?_
      show Steps p.tables e below (T267.setTop (mkF m 168 (lo0_18 p1 p2 p3 p4 p5 p6 z0 z1 z2 z3 z4 b256 b267) [])) _
      refine y_aload X267.here hx (hb hby at_168) rfl rfl ?_
      refine st268.trans ?_
      show Steps p.tables e below (T268.setTop (mkF m 173 (lo0_18 p1 p2 p3 p4 p5 p6 z0 z1 z2 z3 z4 b256 b267) [(.int (2 : Int32))])) _
      refine y_iload X268.here hx (hb hby at_173) rfl ?_
      refine y_icmpNo X268.here hx (hb hby at_175) (teq rfl).2 ?_
      refine y_iconst X268.here hx (v := (1 : Int32)) (hb hby at_178) rfl ?_
      refine y_goto X268.here hx (pc' := 183) (hb hby at_179) (by decide) (by decide) ?_
      refine y_istore X268.here hx (hb hby at_183) (l' := (lo0_19 p1 p2 p3 p4 p5 p6 z0 z1 z2 z3 z4 b256 b267)) rfl ?_
      refine y_iload X268.here hx (hb hby at_185) rfl ?_
      refine y_ifNo X268.here hx (hb hby at_187) ((if0 _ _).trans (feq (by decide)).1) ?_
      refine y_iload X268.here hx (hb hby at_190) rfl ?_
      refine y_ifNo X268.here hx (hb hby at_192) ((if0 _ _).trans (tlt (by decide)).2.2.2) ?_
      refine y_aload X268.here hx (hb hby at_195) rfl rfl ?_
      refine y_iconst X268.here hx (v := (0 : Int32)) (hb hby at_197) rfl ?_
      refine st269.trans ?_
      show Steps p.tables e below (T269.setTop (mkF m 201 (lo0_19 p1 p2 p3 p4 p5 p6 z0 z1 z2 z3 z4 b256 b267) [(.int z0)])) _
      refine y_iload X269.here hx (hb hby at_201) rfl ?_
      refine y_icmpNo X269.here hx (hb hby at_203) (teq rfl).2 ?_
      refine y_iconst X269.here hx (v := (1 : Int32)) (hb hby at_206) rfl ?_
      refine y_goto X269.here hx (pc' := 211) (hb hby at_207) (by decide) (by decide) ?_
      refine y_istore X269.here hx (hb hby at_211) (l' := (lo0_19 p1 p2 p3 p4 p5 p6 z0 z1 z2 z3 z4 b256 b267)) rfl ?_
      refine y_iload X269.here hx (hb hby at_213) rfl ?_
      refine y_ifNo X269.here hx (hb hby at_215) ((if0 _ _).trans (feq (by decide)).1) ?_
      refine y_iload X269.here hx (hb hby at_218) rfl ?_
      refine y_iconst X269.here hx (v := (1 : Int32)) (hb hby at_220) rfl ?_
      refine y_icmpNo X269.here hx (hb hby at_221) (tlt (by decide)).2.2.2 ?_
      refine y_aload X269.here hx (hb hby at_224) rfl rfl ?_
      refine y_iconst X269.here hx (v := (1 : Int32)) (hb hby at_226) rfl ?_
      refine st270.trans ?_
      show Steps p.tables e below (T270.setTop (mkF m 230 (lo0_19 p1 p2 p3 p4 p5 p6 z0 z1 z2 z3 z4 b256 b267) [(.int z1)])) _
      refine y_iload X270.here hx (hb hby at_230) rfl ?_
      refine y_icmpNo X270.here hx (hb hby at_232) (teq rfl).2 ?_
      refine y_iconst X270.here hx (v := (1 : Int32)) (hb hby at_235) rfl ?_
      refine y_goto X270.here hx (pc' := 240) (hb hby at_236) (by decide) (by decide) ?_
      refine y_istore X270.here hx (hb hby at_240) (l' := (lo0_19 p1 p2 p3 p4 p5 p6 z0 z1 z2 z3 z4 b256 b267)) rfl ?_
      refine y_iload X270.here hx (hb hby at_242) rfl ?_
      refine y_ifNo X270.here hx (hb hby at_244) ((if0 _ _).trans (feq (by decide)).1) ?_
      refine y_iload X270.here hx (hb hby at_247) rfl ?_
      refine y_iconst X270.here hx (v := (2 : Int32)) (hb hby at_249) rfl ?_
      refine y_icmpYes X270.here hx (pc' := 271) (hb hby at_250) (flt (by decide)).2.2.2 (by decide) (by decide) ?_
      refine y_iload X270.here hx (hb hby at_271) rfl ?_
      refine y_ifNo X270.here hx (hb hby at_273) ((if0 _ _).trans (feq (by decide)).1) ?_
      refine y_iload X270.here hx (hb hby at_276) rfl ?_
      refine y_iconst X270.here hx (v := (3 : Int32)) (hb hby at_278) rfl ?_
      refine y_icmpYes X270.here hx (pc' := 300) (hb hby at_279) (flt (by decide)).2.2.2 (by decide) (by decide) ?_
      refine y_iload X270.here hx (hb hby at_300) rfl ?_
      refine y_ifNo X270.here hx (hb hby at_302) ((if0 _ _).trans (feq (by decide)).1) ?_
      refine y_iload X270.here hx (hb hby at_305) rfl ?_
      refine y_iconst X270.here hx (v := (4 : Int32)) (hb hby at_307) rfl ?_
      refine y_icmpYes X270.here hx (pc' := 329) (hb hby at_308) (flt (by decide)).2.2.2 (by decide) (by decide) ?_
      refine y_iload X270.here hx (hb hby at_329) rfl ?_
      exact retN X270 hx (t := .boolean) Bd.returns (by simp) (hb hby at_331) hr
    · exact ⟨rfl, N270⟩
  · rw [hm] at pre258
    obtain ⟨cq271, kq271, q271a, q271b, q271c⟩ := isOf hZ e257 E_b256
    obtain ⟨_, _, ⟨T271, L271, k271, n271⟩, -, X271, ⟨Lc271, hQ271, l271, y271, z271⟩, st271⟩ := X257.virtualBack hx (y := mn2) (z := mn2) hown (mvT hZ (ww hw 19 rfl)) (mvT hZ (ww hw 20 rfl)) (notFace_of_selects (args := #[]) (mvT hZ (ww hw 22 rfl))) (mvT hZ (ww hw 22 rfl)) (mvT hZ (ww hw 21 rfl)) (by decide) (backOf (W := 0) (rm4_0 l Z a0 hw [] b256 z0 A257 k257  h257 n0 Z0 E_b256 F_numbers_b256 F_size_b256 E_A257 V_A257 g_b256 g_A257 ne_b256_A257) hZ (ww hw 23 rfl) (ww hw 9 rfl) (by decide) (by decide)) q271a q271c (g := (mkF m 89 (lo0_20 p1 p2 p3 p4 p5 p6 z0 z1 z2 z3 z4 b256) [(.int z0), (.ref b256)])) rfl (by rw [hml]; rfl) (Steps.refl _) (argsL := [(.int z0)]) (rest := []) (lenOf pd_6 rfl) rfl (by show 2 * 0 + _ ≤ _; exact Nat.le_of_eq rfl) (hb hby at_89) (fun _ _ => ⟨rfl, e257, (by decide : 2 + 0 ≤ _), (by decide : 6 + 0 ≤ _)⟩)
    dsimp only [Pt.U, Pt.locs, Pt.cells, Pt.slots] at X271 l271 y271 z271 st271 hQ271
    subst l271 y271 z271
    obtain ⟨h271, e271⟩ : ∃ z, T271.heap = z := ⟨_, rfl⟩
    rw [e271] at hQ271
    obtain ⟨rfl, N271q, K271, Fs271, Fn271, Vn271⟩ := hQ271
    replace E_b256 := E_b256.keep K271
    replace E_A257 := E_A257.keep K271
    replace Z0 := Nat.le_trans Z0 K271.1
    have F_size_b256 : Fld Z h271 b256 "com/example/hard_delay_bounds/harddelaybounds/analysis/FlowSet$Builder" "size" "I" (.int (1 : Int32)) := Fs271
    have F_numbers_b256 : Fld Z h271 b256 "com/example/hard_delay_bounds/harddelaybounds/analysis/FlowSet$Builder" "numbers" "[I" (.ref A257) := Fn271
    have V_A257 : Arv Z h271 A257 k257 .int (4 : Int32) [(.int z0), (.int (0 : Int32)), (.int (0 : Int32)), (.int (0 : Int32))] (.int (0 : Int32)) := Vn271
    have N271 := Fr.app N257 N271q
    obtain ⟨cq272, kq272, q272a, q272b, q272c⟩ := isOf hZ e271 E_b256
    obtain ⟨_, _, ⟨T272, L272, k272, n272⟩, -, X272, ⟨Lc272, hQ272, l272, y272, z272⟩, st272⟩ := X271.virtualBack hx (y := mn2) (z := mn2) hown (mvT hZ (ww hw 19 rfl)) (mvT hZ (ww hw 20 rfl)) (notFace_of_selects (args := #[]) (mvT hZ (ww hw 22 rfl))) (mvT hZ (ww hw 22 rfl)) (mvT hZ (ww hw 21 rfl)) (by decide) (backOf (W := 0) (rm4_1 l Z a0 hw [] b256 z1 A257 k257 z0 h271 n0 Z0 lt1 E_b256 F_numbers_b256 F_size_b256 E_A257 V_A257 g_b256 g_A257 ne_b256_A257) hZ (ww hw 23 rfl) (ww hw 9 rfl) (by decide) (by decide)) q272a q272c (g := (mkF m 104 (lo0_20 p1 p2 p3 p4 p5 p6 z0 z1 z2 z3 z4 b256) [(.int z1), (.ref b256)])) rfl (by rw [hml]; rfl) (Steps.refl _) (argsL := [(.int z1)]) (rest := []) (lenOf pd_6 rfl) rfl (by show 2 * 0 + _ ≤ _; exact Nat.le_of_eq rfl) (hb hby at_104) (fun _ _ => ⟨rfl, e271, (by decide : 2 + 0 ≤ _), (by decide : 6 + 0 ≤ _)⟩)
    dsimp only [Pt.U, Pt.locs, Pt.cells, Pt.slots] at X272 l272 y272 z272 st272 hQ272
    subst l272 y272 z272
    obtain ⟨h272, e272⟩ : ∃ z, T272.heap = z := ⟨_, rfl⟩
    rw [e272] at hQ272
    obtain ⟨rfl, N272q, K272, Fs272, Fn272, Vn272⟩ := hQ272
    replace E_b256 := E_b256.keep K272
    replace E_A257 := E_A257.keep K272
    replace Z0 := Nat.le_trans Z0 K272.1
    have F_size_b256 : Fld Z h272 b256 "com/example/hard_delay_bounds/harddelaybounds/analysis/FlowSet$Builder" "size" "I" (.int (2 : Int32)) := Fs272
    have F_numbers_b256 : Fld Z h272 b256 "com/example/hard_delay_bounds/harddelaybounds/analysis/FlowSet$Builder" "numbers" "[I" (.ref A257) := Fn272
    have V_A257 : Arv Z h272 A257 k257 .int (4 : Int32) [(.int z0), (.int z1), (.int (0 : Int32)), (.int (0 : Int32))] (.int (0 : Int32)) := Vn272
    have N272 := Fr.app N271 N272q
    obtain ⟨cq273, kq273, q273a, q273b, q273c⟩ := isOf hZ e272 E_b256
    obtain ⟨_, _, ⟨T273, L273, k273, n273⟩, -, X273, ⟨Lc273, hQ273, l273, y273, z273⟩, st273⟩ := X272.virtualBack hx (y := mn2) (z := mn2) hown (mvT hZ (ww hw 19 rfl)) (mvT hZ (ww hw 20 rfl)) (notFace_of_selects (args := #[]) (mvT hZ (ww hw 22 rfl))) (mvT hZ (ww hw 22 rfl)) (mvT hZ (ww hw 21 rfl)) (by decide) (backOf (W := 0) (rm4_2 l Z a0 hw [] b256 z2 A257 k257 z0 z1 h272 n0 Z0 lt2 E_b256 F_numbers_b256 F_size_b256 E_A257 V_A257 g_b256 g_A257 ne_b256_A257) hZ (ww hw 23 rfl) (ww hw 9 rfl) (by decide) (by decide)) q273a q273c (g := (mkF m 119 (lo0_20 p1 p2 p3 p4 p5 p6 z0 z1 z2 z3 z4 b256) [(.int z2), (.ref b256)])) rfl (by rw [hml]; rfl) (Steps.refl _) (argsL := [(.int z2)]) (rest := []) (lenOf pd_6 rfl) rfl (by show 2 * 0 + _ ≤ _; exact Nat.le_of_eq rfl) (hb hby at_119) (fun _ _ => ⟨rfl, e272, (by decide : 2 + 0 ≤ _), (by decide : 6 + 0 ≤ _)⟩)
    dsimp only [Pt.U, Pt.locs, Pt.cells, Pt.slots] at X273 l273 y273 z273 st273 hQ273
    subst l273 y273 z273
    obtain ⟨h273, e273⟩ : ∃ z, T273.heap = z := ⟨_, rfl⟩
    rw [e273] at hQ273
    obtain ⟨rfl, N273q, K273, Fs273, Fn273, Vn273⟩ := hQ273
    replace E_b256 := E_b256.keep K273
    replace E_A257 := E_A257.keep K273
    replace Z0 := Nat.le_trans Z0 K273.1
    have F_size_b256 : Fld Z h273 b256 "com/example/hard_delay_bounds/harddelaybounds/analysis/FlowSet$Builder" "size" "I" (.int (3 : Int32)) := Fs273
    have F_numbers_b256 : Fld Z h273 b256 "com/example/hard_delay_bounds/harddelaybounds/analysis/FlowSet$Builder" "numbers" "[I" (.ref A257) := Fn273
    have V_A257 : Arv Z h273 A257 k257 .int (4 : Int32) [(.int z0), (.int z1), (.int z2), (.int (0 : Int32))] (.int (0 : Int32)) := Vn273
    have N273 := Fr.app N272 N273q
    obtain ⟨cq274, kq274, q274a, q274b, q274c⟩ := isOf hZ e273 E_b256
    obtain ⟨_, _, ⟨T274, L274, k274, n274⟩, -, X274, ⟨Lc274, hQ274, l274, y274, z274⟩, st274⟩ := X273.virtualBack hx (y := mn5) (z := mn5) hown (mvT hZ (ww hw 26 rfl)) (mvT hZ (ww hw 27 rfl)) (notFace_of_selects (args := #[]) (mvT hZ (ww hw 29 rfl))) (mvT hZ (ww hw 29 rfl)) (mvT hZ (ww hw 28 rfl)) (by decide) (backOf (W := 0) (rm5_3 l Z a0 hw [] b256 A257 k257 z0 z1 z2 h273 n0 Z0 E_b256 F_numbers_b256 F_size_b256 E_A257 V_A257 ne_b256_A257) hZ (ww hw 30 rfl) (ww hw 9 rfl) (by decide) (by decide)) q274a q274c (g := (mkF m 156 (lo0_20 p1 p2 p3 p4 p5 p6 z0 z1 z2 z3 z4 b256) [(.ref b256)])) rfl (by rw [hml]; rfl) (Steps.refl _) (argsL := []) (rest := []) (lenOf pd_4 rfl) rfl (by show 2 * 0 + _ ≤ _; exact Nat.le_of_eq rfl) (hb hby at_156) (fun _ _ => ⟨rfl, e273, (by decide : 2 + 2 ≤ _), (by decide : 6 + 5 ≤ _)⟩)
    dsimp only [Pt.U, Pt.locs, Pt.cells, Pt.slots] at X274 l274 y274 z274 st274 hQ274
    subst l274 y274 z274
    obtain ⟨h274, e274⟩ : ∃ z, T274.heap = z := ⟨_, rfl⟩
    rw [e274] at hQ274
    obtain ⟨b274, B274, k274, rfl, N274q, K274, s274, t274, En274, Fn274, Vn274⟩ := hQ274
    have g_b274 : n0 ≤ b274 := Nat.le_trans Z0 s274
    have ne_b256_b274 : b256 ≠ b274 := Nat.ne_of_lt (Nat.lt_of_lt_of_le E_b256.lt s274)
    have ne_A257_b274 : A257 ≠ b274 := Nat.ne_of_lt (Nat.lt_of_lt_of_le V_A257.lt s274)
    replace E_b256 := E_b256.keep K274
    replace F_numbers_b256 := F_numbers_b256.keep K274 nin0
    replace F_size_b256 := F_size_b256.keep K274 nin0
    replace V_A257 := V_A257.keep K274 nin0
    replace E_A257 := E_A257.keep K274
    replace Z0 := Nat.le_trans Z0 K274.1
    have E_b274 : Exa Z h274 b274 "com/example/hard_delay_bounds/harddelaybounds/analysis/FlowSet" := En274
    have F_numbers_b274 : Fld Z h274 b274 "com/example/hard_delay_bounds/harddelaybounds/analysis/FlowSet" "numbers" "[I" (.ref B274) := Fn274
    have V_B274 : Arv Z h274 B274 k274 .int (3 : Int32) [(.int z0), (.int z1), (.int z2)] (.int (0 : Int32)) := Vn274
    have N274 := Fr.app N273 N274q
    obtain ⟨cq275, kq275, q275a, q275b, q275c⟩ := isOf hZ e274 E_b274
    obtain ⟨_, _, ⟨T275, L275, k275, n275⟩, -, X275, ⟨Lc275, hQ275, l275, y275, z275⟩, st275⟩ := X274.virtualBack hx (y := mn6) (z := mn6) hown (mvT hZ (ww hw 52 rfl)) (mvT hZ (ww hw 53 rfl)) (notFace_of_selects (args := #[]) (mvT hZ (ww hw 55 rfl))) (mvT hZ (ww hw 55 rfl)) (mvT hZ (ww hw 54 rfl)) (by decide) (backOf (W := 0) (rm8_3 l Z a0 hw [] b274 B274 k274 z0 z1 z2 h274 n0 Z0 F_numbers_b274 V_B274) hZ (ww hw 56 rfl) (ww hw 33 rfl) (by decide) (by decide)) q275a q275c (g := (mkF m 170 (lo0_21 p1 p2 p3 p4 p5 p6 z0 z1 z2 z3 z4 b256 b274) [(.ref b274)])) rfl (by rw [hml]; rfl) (Steps.refl _) (argsL := []) (rest := []) (lenOf pd_5 rfl) rfl (by show 2 * 0 + _ ≤ _; exact Nat.le_of_eq rfl) (hb hby at_170) (fun _ _ => ⟨rfl, e274, (by decide : 4 + 0 ≤ _), (by decide : 11 + 0 ≤ _)⟩)
    dsimp only [Pt.U, Pt.locs, Pt.cells, Pt.slots] at X275 l275 y275 z275 st275 hQ275
    subst l275 y275 z275
    obtain ⟨rfl, N275q, e275⟩ := hQ275
    have N275 := Fr.app N274 N275q
    obtain ⟨cq276, kq276, q276a, q276b, q276c⟩ := isOf hZ e275 E_b274
    obtain ⟨_, _, ⟨T276, L276, k276, n276⟩, -, X276, ⟨Lc276, hQ276, l276, y276, z276⟩, st276⟩ := X275.virtualBack hx (y := mn7) (z := mn7) hown (mvT hZ (ww hw 57 rfl)) (mvT hZ (ww hw 58 rfl)) (notFace_of_selects (args := #[]) (mvT hZ (ww hw 60 rfl))) (mvT hZ (ww hw 60 rfl)) (mvT hZ (ww hw 59 rfl)) (by decide) (backOf (W := 0) (rm9_3_0 l Z a0 hw [] b274 B274 k274 z0 z1 z2 h274 n0 Z0 F_numbers_b274 V_B274) hZ (ww hw 61 rfl) (ww hw 33 rfl) (by decide) (by decide)) q276a q276c (g := (mkF m 198 (lo0_22 p1 p2 p3 p4 p5 p6 z0 z1 z2 z3 z4 b256 b274) [(.int (0 : Int32)), (.ref b274)])) rfl (by rw [hml]; rfl) (Steps.refl _) (argsL := [(.int (0 : Int32))]) (rest := []) (lenOf pd_7 rfl) rfl (by show 2 * 0 + _ ≤ _; exact Nat.le_of_eq rfl) (hb hby at_198) (fun _ _ => ⟨rfl, e275, (by decide : 4 + 0 ≤ _), (by decide : 11 + 0 ≤ _)⟩)
    dsimp only [Pt.U, Pt.locs, Pt.cells, Pt.slots] at X276 l276 y276 z276 st276 hQ276
    subst l276 y276 z276
    obtain ⟨rfl, N276q, e276⟩ := hQ276
    have N276 := Fr.app N275 N276q
    obtain ⟨cq277, kq277, q277a, q277b, q277c⟩ := isOf hZ e276 E_b274
    obtain ⟨_, _, ⟨T277, L277, k277, n277⟩, -, X277, ⟨Lc277, hQ277, l277, y277, z277⟩, st277⟩ := X276.virtualBack hx (y := mn7) (z := mn7) hown (mvT hZ (ww hw 57 rfl)) (mvT hZ (ww hw 58 rfl)) (notFace_of_selects (args := #[]) (mvT hZ (ww hw 60 rfl))) (mvT hZ (ww hw 60 rfl)) (mvT hZ (ww hw 59 rfl)) (by decide) (backOf (W := 0) (rm9_3_1 l Z a0 hw [] b274 B274 k274 z0 z1 z2 h274 n0 Z0 F_numbers_b274 V_B274) hZ (ww hw 61 rfl) (ww hw 33 rfl) (by decide) (by decide)) q277a q277c (g := (mkF m 227 (lo0_22 p1 p2 p3 p4 p5 p6 z0 z1 z2 z3 z4 b256 b274) [(.int (1 : Int32)), (.ref b274)])) rfl (by rw [hml]; rfl) (Steps.refl _) (argsL := [(.int (1 : Int32))]) (rest := []) (lenOf pd_7 rfl) rfl (by show 2 * 0 + _ ≤ _; exact Nat.le_of_eq rfl) (hb hby at_227) (fun _ _ => ⟨rfl, e276, (by decide : 4 + 0 ≤ _), (by decide : 11 + 0 ≤ _)⟩)
    dsimp only [Pt.U, Pt.locs, Pt.cells, Pt.slots] at X277 l277 y277 z277 st277 hQ277
    subst l277 y277 z277
    obtain ⟨rfl, N277q, e277⟩ := hQ277
    have N277 := Fr.app N276 N277q
    obtain ⟨cq278, kq278, q278a, q278b, q278c⟩ := isOf hZ e277 E_b274
    obtain ⟨_, _, ⟨T278, L278, k278, n278⟩, -, X278, ⟨Lc278, hQ278, l278, y278, z278⟩, st278⟩ := X277.virtualBack hx (y := mn7) (z := mn7) hown (mvT hZ (ww hw 57 rfl)) (mvT hZ (ww hw 58 rfl)) (notFace_of_selects (args := #[]) (mvT hZ (ww hw 60 rfl))) (mvT hZ (ww hw 60 rfl)) (mvT hZ (ww hw 59 rfl)) (by decide) (backOf (W := 0) (rm9_3_2 l Z a0 hw [] b274 B274 k274 z0 z1 z2 h274 n0 Z0 F_numbers_b274 V_B274) hZ (ww hw 61 rfl) (ww hw 33 rfl) (by decide) (by decide)) q278a q278c (g := (mkF m 256 (lo0_22 p1 p2 p3 p4 p5 p6 z0 z1 z2 z3 z4 b256 b274) [(.int (2 : Int32)), (.ref b274)])) rfl (by rw [hml]; rfl) (Steps.refl _) (argsL := [(.int (2 : Int32))]) (rest := []) (lenOf pd_7 rfl) rfl (by show 2 * 0 + _ ≤ _; exact Nat.le_of_eq rfl) (hb hby at_256) (fun _ _ => ⟨rfl, e277, (by decide : 4 + 0 ≤ _), (by decide : 11 + 0 ≤ _)⟩)
    dsimp only [Pt.U, Pt.locs, Pt.cells, Pt.slots] at X278 l278 y278 z278 st278 hQ278
    subst l278 y278 z278
    obtain ⟨rfl, N278q, e278⟩ := hQ278
    have N278 := Fr.app N277 N278q
    obtain ⟨fs, hr, hrun, hended, hW, hsame⟩ := X278.leave (v := some (.int (1 : Int32))) (fun h => by rw [Bd.returns] at h; cases h)
    refine ⟨_, _, pre258 _ ?_, hrun, hended, _, _, rfl, ?_, ⟨_, rfl⟩, hW, hsame.mono (by decide) (by decide)⟩
    · refine y_iload X257.here hx (hb hby at_80) rfl ?_
      refine y_ifNo X257.here hx (hb hby at_82) ((if0 _ _).trans (tlt (by decide)).2.2.2) ?_
      refine y_aload X257.here hx (hb hby at_85) rfl rfl ?_
      refine y_iload X257.here hx (hb hby at_87) rfl ?_
      refine st271.trans ?_
      show Steps p.tables e below (T271.setTop (mkF m 92 (lo0_20 p1 p2 p3 p4 p5 p6 z0 z1 z2 z3 z4 b256) [(.ref b256)])) _
      refine y_astore X271.here hx (hb hby at_92) rfl (l' := (lo0_20 p1 p2 p3 p4 p5 p6 z0 z1 z2 z3 z4 b256)) rfl ?_
      refine y_iload X271.here hx (hb hby at_94) rfl ?_
      refine y_iconst X271.here hx (v := (1 : Int32)) (hb hby at_96) rfl ?_
      refine y_icmpNo X271.here hx (hb hby at_97) (tlt (by decide)).2.2.2 ?_
      refine y_aload X271.here hx (hb hby at_100) rfl rfl ?_
      refine y_iload X271.here hx (hb hby at_102) rfl ?_
      refine st272.trans ?_
      show Steps p.tables e below (T272.setTop (mkF m 107 (lo0_20 p1 p2 p3 p4 p5 p6 z0 z1 z2 z3 z4 b256) [(.ref b256)])) _
      refine y_astore X272.here hx (hb hby at_107) rfl (l' := (lo0_20 p1 p2 p3 p4 p5 p6 z0 z1 z2 z3 z4 b256)) rfl ?_
      refine y_iload X272.here hx (hb hby at_109) rfl ?_
      refine y_iconst X272.here hx (v := (2 : Int32)) (hb hby at_111) rfl ?_
      refine y_icmpNo X272.here hx (hb hby at_112) (tlt (by decide)).2.2.2 ?_
      refine y_aload X272.here hx (hb hby at_115) rfl rfl ?_
      refine y_iload X272.here hx (hb hby at_117) rfl ?_
      refine st273.trans ?_
      show Steps p.tables e below (T273.setTop (mkF m 122 (lo0_20 p1 p2 p3 p4 p5 p6 z0 z1 z2 z3 z4 b256) [(.ref b256)])) _
      refine y_astore X273.here hx (hb hby at_122) rfl (l' := (lo0_20 p1 p2 p3 p4 p5 p6 z0 z1 z2 z3 z4 b256)) rfl ?_
      refine y_iload X273.here hx (hb hby at_124) rfl ?_
      refine y_iconst X273.here hx (v := (3 : Int32)) (hb hby at_126) rfl ?_
      refine y_icmpYes X273.here hx (pc' := 139) (hb hby at_127) (flt (by decide)).2.2.2 (by decide) (by decide) ?_
      refine y_iload X273.here hx (hb hby at_139) rfl ?_
      refine y_iconst X273.here hx (v := (4 : Int32)) (hb hby at_141) rfl ?_
      refine y_icmpYes X273.here hx (pc' := 154) (hb hby at_142) (flt (by decide)).2.2.2 (by decide) (by decide) ?_
      refine y_aload X273.here hx (hb hby at_154) rfl rfl ?_
      refine st274.trans ?_
      show Steps p.tables e below (T274.setTop (mkF m 159 (lo0_20 p1 p2 p3 p4 p5 p6 z0 z1 z2 z3 z4 b256) [(.ref b274)])) _
      refine y_astore X274.here hx (hb hby at_159) rfl (l' := (lo0_21 p1 p2 p3 p4 p5 p6 z0 z1 z2 z3 z4 b256 b274)) rfl ?_
      refine y_aload X274.here hx (hb hby at_161) rfl rfl ?_
      refine y_aload X274.here hx (hb hby at_163) rfl rfl ?_
      show Steps p.tables e below (T274.setTop (mkF m 165 (lo0_21 p1 p2 p3 p4 p5 p6 z0 z1 z2 z3 z4 b256 b274) [(.ref b256), (.ref b256)])) _
      refine Jvm.RoadKit.acmp (g := (mkF m 165 (lo0_21 p1 p2 p3 p4 p5 p6 z0 z1 z2 z3 z4 b256 b274) [(.ref b256), (.ref b256)])) X274 hx rfl rfl rfl (pc0 := 165) (pc' := 168) (same := true) rfl (hb hby at_165) rfl (decide_eq_true (congrArg Value.ref rfl)) (by decide) (by decide) ?_
      show Steps p.tables e below (T274.setTop (mkF m 168 (lo0_21 p1 p2 p3 p4 p5 p6 z0 z1 z2 z3 z4 b256 b274) [])) _
      refine y_aload X274.here hx (hb hby at_168) rfl rfl ?_
      refine st275.trans ?_
      show Steps p.tables e below (T275.setTop (mkF m 173 (lo0_21 p1 p2 p3 p4 p5 p6 z0 z1 z2 z3 z4 b256 b274) [(.int (3 : Int32))])) _
      refine y_iload X275.here hx (hb hby at_173) rfl ?_
      refine y_icmpNo X275.here hx (hb hby at_175) (teq rfl).2 ?_
      refine y_iconst X275.here hx (v := (1 : Int32)) (hb hby at_178) rfl ?_
      refine y_goto X275.here hx (pc' := 183) (hb hby at_179) (by decide) (by decide) ?_
      refine y_istore X275.here hx (hb hby at_183) (l' := (lo0_22 p1 p2 p3 p4 p5 p6 z0 z1 z2 z3 z4 b256 b274)) rfl ?_
      refine y_iload X275.here hx (hb hby at_185) rfl ?_
      refine y_ifNo X275.here hx (hb hby at_187) ((if0 _ _).trans (feq (by decide)).1) ?_
      refine y_iload X275.here hx (hb hby at_190) rfl ?_
      refine y_ifNo X275.here hx (hb hby at_192) ((if0 _ _).trans (tlt (by decide)).2.2.2) ?_
      refine y_aload X275.here hx (hb hby at_195) rfl rfl ?_
      refine y_iconst X275.here hx (v := (0 : Int32)) (hb hby at_197) rfl ?_
      refine st276.trans ?_
      show Steps p.tables e below (T276.setTop (mkF m 201 (lo0_22 p1 p2 p3 p4 p5 p6 z0 z1 z2 z3 z4 b256 b274) [(.int z0)])) _
      refine y_iload X276.here hx (hb hby at_201) rfl ?_
      refine y_icmpNo X276.here hx (hb hby at_203) (teq rfl).2 ?_
      refine y_iconst X276.here hx (v := (1 : Int32)) (hb hby at_206) rfl ?_
      refine y_goto X276.here hx (pc' := 211) (hb hby at_207) (by decide) (by decide) ?_
      refine y_istore X276.here hx (hb hby at_211) (l' := (lo0_22 p1 p2 p3 p4 p5 p6 z0 z1 z2 z3 z4 b256 b274)) rfl ?_
      refine y_iload X276.here hx (hb hby at_213) rfl ?_
      refine y_ifNo X276.here hx (hb hby at_215) ((if0 _ _).trans (feq (by decide)).1) ?_
      refine y_iload X276.here hx (hb hby at_218) rfl ?_
      refine y_iconst X276.here hx (v := (1 : Int32)) (hb hby at_220) rfl ?_
      refine y_icmpNo X276.here hx (hb hby at_221) (tlt (by decide)).2.2.2 ?_
      refine y_aload X276.here hx (hb hby at_224) rfl rfl ?_
      refine y_iconst X276.here hx (v := (1 : Int32)) (hb hby at_226) rfl ?_
      refine st277.trans ?_
      show Steps p.tables e below (T277.setTop (mkF m 230 (lo0_22 p1 p2 p3 p4 p5 p6 z0 z1 z2 z3 z4 b256 b274) [(.int z1)])) _
      refine y_iload X277.here hx (hb hby at_230) rfl ?_
      refine y_icmpNo X277.here hx (hb hby at_232) (teq rfl).2 ?_
      refine y_iconst X277.here hx (v := (1 : Int32)) (hb hby at_235) rfl ?_
      refine y_goto X277.here hx (pc' := 240) (hb hby at_236) (by decide) (by decide) ?_
      refine y_istore X277.here hx (hb hby at_240) (l' := (lo0_22 p1 p2 p3 p4 p5 p6 z0 z1 z2 z3 z4 b256 b274)) rfl ?_
      refine y_iload X277.here hx (hb hby at_242) rfl ?_
      refine y_ifNo X277.here hx (hb hby at_244) ((if0 _ _).trans (feq (by decide)).1) ?_
      refine y_iload X277.here hx (hb hby at_247) rfl ?_
      refine y_iconst X277.here hx (v := (2 : Int32)) (hb hby at_249) rfl ?_
      refine y_icmpNo X277.here hx (hb hby at_250) (tlt (by decide)).2.2.2 ?_
      refine y_aload X277.here hx (hb hby at_253) rfl rfl ?_
      refine y_iconst X277.here hx (v := (2 : Int32)) (hb hby at_255) rfl ?_
      refine st278.trans ?_
      show Steps p.tables e below (T278.setTop (mkF m 259 (lo0_22 p1 p2 p3 p4 p5 p6 z0 z1 z2 z3 z4 b256 b274) [(.int z2)])) _
      refine y_iload X278.here hx (hb hby at_259) rfl ?_
      refine y_icmpNo X278.here hx (hb hby at_261) (teq rfl).2 ?_
      refine y_iconst X278.here hx (v := (1 : Int32)) (hb hby at_264) rfl ?_
      refine y_goto X278.here hx (pc' := 269) (hb hby at_265) (by decide) (by decide) ?_
      refine y_istore X278.here hx (hb hby at_269) (l' := (lo0_22 p1 p2 p3 p4 p5 p6 z0 z1 z2 z3 z4 b256 b274)) rfl ?_
      refine y_iload X278.here hx (hb hby at_271) rfl ?_
      refine y_ifNo X278.here hx (hb hby at_273) ((if0 _ _).trans (feq (by decide)).1) ?_
      refine y_iload X278.here hx (hb hby at_276) rfl ?_
      refine y_iconst X278.here hx (v := (3 : Int32)) (hb hby at_278) rfl ?_
      refine y_icmpYes X278.here hx (pc' := 300) (hb hby at_279) (flt (by decide)).2.2.2 (by decide) (by decide) ?_
      refine y_iload X278.here hx (hb hby at_300) rfl ?_
      refine y_ifNo X278.here hx (hb hby at_302) ((if0 _ _).trans (feq (by decide)).1) ?_
      refine y_iload X278.here hx (hb hby at_305) rfl ?_
      refine y_iconst X278.here hx (v := (4 : Int32)) (hb hby at_307) rfl ?_
      refine y_icmpYes X278.here hx (pc' := 329) (hb hby at_308) (flt (by decide)).2.2.2 (by decide) (by decide) ?_
      refine y_iload X278.here hx (hb hby at_329) rfl ?_
      exact retN X278 hx (t := .boolean) Bd.returns (by simp) (hb hby at_331) hr
    · exact ⟨rfl, N278⟩
  · rw [hm] at pre258
    obtain ⟨cq279, kq279, q279a, q279b, q279c⟩ := isOf hZ e257 E_b256
    obtain ⟨_, _, ⟨T279, L279, k279, n279⟩, -, X279, ⟨Lc279, hQ279, l279, y279, z279⟩, st279⟩ := X257.virtualBack hx (y := mn2) (z := mn2) hown (mvT hZ (ww hw 19 rfl)) (mvT hZ (ww hw 20 rfl)) (notFace_of_selects (args := #[]) (mvT hZ (ww hw 22 rfl))) (mvT hZ (ww hw 22 rfl)) (mvT hZ (ww hw 21 rfl)) (by decide) (backOf (W := 0) (rm4_0 l Z a0 hw [] b256 z0 A257 k257  h257 n0 Z0 E_b256 F_numbers_b256 F_size_b256 E_A257 V_A257 g_b256 g_A257 ne_b256_A257) hZ (ww hw 23 rfl) (ww hw 9 rfl) (by decide) (by decide)) q279a q279c (g := (mkF m 89 (lo0_23 p1 p2 p3 p4 p5 p6 z0 z1 z2 z3 z4 b256) [(.int z0), (.ref b256)])) rfl (by rw [hml]; rfl) (Steps.refl _) (argsL := [(.int z0)]) (rest := []) (lenOf pd_6 rfl) rfl (by show 2 * 0 + _ ≤ _; exact Nat.le_of_eq rfl) (hb hby at_89) (fun _ _ => ⟨rfl, e257, (by decide : 2 + 0 ≤ _), (by decide : 6 + 0 ≤ _)⟩)
    dsimp only [Pt.U, Pt.locs, Pt.cells, Pt.slots] at X279 l279 y279 z279 st279 hQ279
    subst l279 y279 z279
    obtain ⟨h279, e279⟩ : ∃ z, T279.heap = z := ⟨_, rfl⟩
    rw [e279] at hQ279
    obtain ⟨rfl, N279q, K279, Fs279, Fn279, Vn279⟩ := hQ279
    replace E_b256 := E_b256.keep K279
    replace E_A257 := E_A257.keep K279
    replace Z0 := Nat.le_trans Z0 K279.1
    have F_size_b256 : Fld Z h279 b256 "com/example/hard_delay_bounds/harddelaybounds/analysis/FlowSet$Builder" "size" "I" (.int (1 : Int32)) := Fs279
    have F_numbers_b256 : Fld Z h279 b256 "com/example/hard_delay_bounds/harddelaybounds/analysis/FlowSet$Builder" "numbers" "[I" (.ref A257) := Fn279
    have V_A257 : Arv Z h279 A257 k257 .int (4 : Int32) [(.int z0), (.int (0 : Int32)), (.int (0 : Int32)), (.int (0 : Int32))] (.int (0 : Int32)) := Vn279
    have N279 := Fr.app N257 N279q
    obtain ⟨cq280, kq280, q280a, q280b, q280c⟩ := isOf hZ e279 E_b256
    obtain ⟨_, _, ⟨T280, L280, k280, n280⟩, -, X280, ⟨Lc280, hQ280, l280, y280, z280⟩, st280⟩ := X279.virtualBack hx (y := mn2) (z := mn2) hown (mvT hZ (ww hw 19 rfl)) (mvT hZ (ww hw 20 rfl)) (notFace_of_selects (args := #[]) (mvT hZ (ww hw 22 rfl))) (mvT hZ (ww hw 22 rfl)) (mvT hZ (ww hw 21 rfl)) (by decide) (backOf (W := 0) (rm4_1 l Z a0 hw [] b256 z1 A257 k257 z0 h279 n0 Z0 lt1 E_b256 F_numbers_b256 F_size_b256 E_A257 V_A257 g_b256 g_A257 ne_b256_A257) hZ (ww hw 23 rfl) (ww hw 9 rfl) (by decide) (by decide)) q280a q280c (g := (mkF m 104 (lo0_23 p1 p2 p3 p4 p5 p6 z0 z1 z2 z3 z4 b256) [(.int z1), (.ref b256)])) rfl (by rw [hml]; rfl) (Steps.refl _) (argsL := [(.int z1)]) (rest := []) (lenOf pd_6 rfl) rfl (by show 2 * 0 + _ ≤ _; exact Nat.le_of_eq rfl) (hb hby at_104) (fun _ _ => ⟨rfl, e279, (by decide : 2 + 0 ≤ _), (by decide : 6 + 0 ≤ _)⟩)
    dsimp only [Pt.U, Pt.locs, Pt.cells, Pt.slots] at X280 l280 y280 z280 st280 hQ280
    subst l280 y280 z280
    obtain ⟨h280, e280⟩ : ∃ z, T280.heap = z := ⟨_, rfl⟩
    rw [e280] at hQ280
    obtain ⟨rfl, N280q, K280, Fs280, Fn280, Vn280⟩ := hQ280
    replace E_b256 := E_b256.keep K280
    replace E_A257 := E_A257.keep K280
    replace Z0 := Nat.le_trans Z0 K280.1
    have F_size_b256 : Fld Z h280 b256 "com/example/hard_delay_bounds/harddelaybounds/analysis/FlowSet$Builder" "size" "I" (.int (2 : Int32)) := Fs280
    have F_numbers_b256 : Fld Z h280 b256 "com/example/hard_delay_bounds/harddelaybounds/analysis/FlowSet$Builder" "numbers" "[I" (.ref A257) := Fn280
    have V_A257 : Arv Z h280 A257 k257 .int (4 : Int32) [(.int z0), (.int z1), (.int (0 : Int32)), (.int (0 : Int32))] (.int (0 : Int32)) := Vn280
    have N280 := Fr.app N279 N280q
    obtain ⟨cq281, kq281, q281a, q281b, q281c⟩ := isOf hZ e280 E_b256
    obtain ⟨_, _, ⟨T281, L281, k281, n281⟩, -, X281, ⟨Lc281, hQ281, l281, y281, z281⟩, st281⟩ := X280.virtualBack hx (y := mn2) (z := mn2) hown (mvT hZ (ww hw 19 rfl)) (mvT hZ (ww hw 20 rfl)) (notFace_of_selects (args := #[]) (mvT hZ (ww hw 22 rfl))) (mvT hZ (ww hw 22 rfl)) (mvT hZ (ww hw 21 rfl)) (by decide) (backOf (W := 0) (rm4_2 l Z a0 hw [] b256 z2 A257 k257 z0 z1 h280 n0 Z0 lt2 E_b256 F_numbers_b256 F_size_b256 E_A257 V_A257 g_b256 g_A257 ne_b256_A257) hZ (ww hw 23 rfl) (ww hw 9 rfl) (by decide) (by decide)) q281a q281c (g := (mkF m 119 (lo0_23 p1 p2 p3 p4 p5 p6 z0 z1 z2 z3 z4 b256) [(.int z2), (.ref b256)])) rfl (by rw [hml]; rfl) (Steps.refl _) (argsL := [(.int z2)]) (rest := []) (lenOf pd_6 rfl) rfl (by show 2 * 0 + _ ≤ _; exact Nat.le_of_eq rfl) (hb hby at_119) (fun _ _ => ⟨rfl, e280, (by decide : 2 + 0 ≤ _), (by decide : 6 + 0 ≤ _)⟩)
    dsimp only [Pt.U, Pt.locs, Pt.cells, Pt.slots] at X281 l281 y281 z281 st281 hQ281
    subst l281 y281 z281
    obtain ⟨h281, e281⟩ : ∃ z, T281.heap = z := ⟨_, rfl⟩
    rw [e281] at hQ281
    obtain ⟨rfl, N281q, K281, Fs281, Fn281, Vn281⟩ := hQ281
    replace E_b256 := E_b256.keep K281
    replace E_A257 := E_A257.keep K281
    replace Z0 := Nat.le_trans Z0 K281.1
    have F_size_b256 : Fld Z h281 b256 "com/example/hard_delay_bounds/harddelaybounds/analysis/FlowSet$Builder" "size" "I" (.int (3 : Int32)) := Fs281
    have F_numbers_b256 : Fld Z h281 b256 "com/example/hard_delay_bounds/harddelaybounds/analysis/FlowSet$Builder" "numbers" "[I" (.ref A257) := Fn281
    have V_A257 : Arv Z h281 A257 k257 .int (4 : Int32) [(.int z0), (.int z1), (.int z2), (.int (0 : Int32))] (.int (0 : Int32)) := Vn281
    have N281 := Fr.app N280 N281q
    obtain ⟨cq282, kq282, q282a, q282b, q282c⟩ := isOf hZ e281 E_b256
    obtain ⟨_, _, ⟨T282, L282, k282, n282⟩, -, X282, ⟨Lc282, hQ282, l282, y282, z282⟩, st282⟩ := X281.virtualBack hx (y := mn2) (z := mn2) hown (mvT hZ (ww hw 19 rfl)) (mvT hZ (ww hw 20 rfl)) (notFace_of_selects (args := #[]) (mvT hZ (ww hw 22 rfl))) (mvT hZ (ww hw 22 rfl)) (mvT hZ (ww hw 21 rfl)) (by decide) (backOf (W := 0) (rm4_3 l Z a0 hw [] b256 z3 A257 k257 z0 z1 z2 h281 n0 Z0 lt3 E_b256 F_numbers_b256 F_size_b256 E_A257 V_A257 g_b256 g_A257 ne_b256_A257) hZ (ww hw 23 rfl) (ww hw 9 rfl) (by decide) (by decide)) q282a q282c (g := (mkF m 134 (lo0_23 p1 p2 p3 p4 p5 p6 z0 z1 z2 z3 z4 b256) [(.int z3), (.ref b256)])) rfl (by rw [hml]; rfl) (Steps.refl _) (argsL := [(.int z3)]) (rest := []) (lenOf pd_6 rfl) rfl (by show 2 * 0 + _ ≤ _; exact Nat.le_of_eq rfl) (hb hby at_134) (fun _ _ => ⟨rfl, e281, (by decide : 2 + 0 ≤ _), (by decide : 6 + 0 ≤ _)⟩)
    dsimp only [Pt.U, Pt.locs, Pt.cells, Pt.slots] at X282 l282 y282 z282 st282 hQ282
    subst l282 y282 z282
    obtain ⟨h282, e282⟩ : ∃ z, T282.heap = z := ⟨_, rfl⟩
    rw [e282] at hQ282
    obtain ⟨rfl, N282q, K282, Fs282, Fn282, Vn282⟩ := hQ282
    replace E_b256 := E_b256.keep K282
    replace E_A257 := E_A257.keep K282
    replace Z0 := Nat.le_trans Z0 K282.1
    have F_size_b256 : Fld Z h282 b256 "com/example/hard_delay_bounds/harddelaybounds/analysis/FlowSet$Builder" "size" "I" (.int (4 : Int32)) := Fs282
    have F_numbers_b256 : Fld Z h282 b256 "com/example/hard_delay_bounds/harddelaybounds/analysis/FlowSet$Builder" "numbers" "[I" (.ref A257) := Fn282
    have V_A257 : Arv Z h282 A257 k257 .int (4 : Int32) [(.int z0), (.int z1), (.int z2), (.int z3)] (.int (0 : Int32)) := Vn282
    have N282 := Fr.app N281 N282q
    obtain ⟨cq283, kq283, q283a, q283b, q283c⟩ := isOf hZ e282 E_b256
    obtain ⟨_, _, ⟨T283, L283, k283, n283⟩, -, X283, ⟨Lc283, hQ283, l283, y283, z283⟩, st283⟩ := X282.virtualBack hx (y := mn5) (z := mn5) hown (mvT hZ (ww hw 26 rfl)) (mvT hZ (ww hw 27 rfl)) (notFace_of_selects (args := #[]) (mvT hZ (ww hw 29 rfl))) (mvT hZ (ww hw 29 rfl)) (mvT hZ (ww hw 28 rfl)) (by decide) (backOf (W := 0) (rm5_4 l Z a0 hw [] b256 A257 k257 z0 z1 z2 z3 h282 n0 Z0 E_b256 F_numbers_b256 F_size_b256 E_A257 V_A257 ne_b256_A257) hZ (ww hw 30 rfl) (ww hw 9 rfl) (by decide) (by decide)) q283a q283c (g := (mkF m 156 (lo0_23 p1 p2 p3 p4 p5 p6 z0 z1 z2 z3 z4 b256) [(.ref b256)])) rfl (by rw [hml]; rfl) (Steps.refl _) (argsL := []) (rest := []) (lenOf pd_4 rfl) rfl (by show 2 * 0 + _ ≤ _; exact Nat.le_of_eq rfl) (hb hby at_156) (fun _ _ => ⟨rfl, e282, (by decide : 2 + 2 ≤ _), (by decide : 6 + 6 ≤ _)⟩)
    dsimp only [Pt.U, Pt.locs, Pt.cells, Pt.slots] at X283 l283 y283 z283 st283 hQ283
    subst l283 y283 z283
    obtain ⟨h283, e283⟩ : ∃ z, T283.heap = z := ⟨_, rfl⟩
    rw [e283] at hQ283
    obtain ⟨b283, B283, k283, rfl, N283q, K283, s283, t283, En283, Fn283, Vn283⟩ := hQ283
    have g_b283 : n0 ≤ b283 := Nat.le_trans Z0 s283
    have ne_b256_b283 : b256 ≠ b283 := Nat.ne_of_lt (Nat.lt_of_lt_of_le E_b256.lt s283)
    have ne_A257_b283 : A257 ≠ b283 := Nat.ne_of_lt (Nat.lt_of_lt_of_le V_A257.lt s283)
    replace E_b256 := E_b256.keep K283
    replace F_numbers_b256 := F_numbers_b256.keep K283 nin0
    replace F_size_b256 := F_size_b256.keep K283 nin0
    replace V_A257 := V_A257.keep K283 nin0
    replace E_A257 := E_A257.keep K283
    replace Z0 := Nat.le_trans Z0 K283.1
    have E_b283 : Exa Z h283 b283 "com/example/hard_delay_bounds/harddelaybounds/analysis/FlowSet" := En283
    have F_numbers_b283 : Fld Z h283 b283 "com/example/hard_delay_bounds/harddelaybounds/analysis/FlowSet" "numbers" "[I" (.ref B283) := Fn283
    have V_B283 : Arv Z h283 B283 k283 .int (4 : Int32) [(.int z0), (.int z1), (.int z2), (.int z3)] (.int (0 : Int32)) := Vn283
    have N283 := Fr.app N282 N283q
    obtain ⟨cq284, kq284, q284a, q284b, q284c⟩ := isOf hZ e283 E_b283
    obtain ⟨_, _, ⟨T284, L284, k284, n284⟩, -, X284, ⟨Lc284, hQ284, l284, y284, z284⟩, st284⟩ := X283.virtualBack hx (y := mn6) (z := mn6) hown (mvT hZ (ww hw 52 rfl)) (mvT hZ (ww hw 53 rfl)) (notFace_of_selects (args := #[]) (mvT hZ (ww hw 55 rfl))) (mvT hZ (ww hw 55 rfl)) (mvT hZ (ww hw 54 rfl)) (by decide) (backOf (W := 0) (rm8_4 l Z a0 hw [] b283 B283 k283 z0 z1 z2 z3 h283 n0 Z0 F_numbers_b283 V_B283) hZ (ww hw 56 rfl) (ww hw 33 rfl) (by decide) (by decide)) q284a q284c (g := (mkF m 170 (lo0_24 p1 p2 p3 p4 p5 p6 z0 z1 z2 z3 z4 b256 b283) [(.ref b283)])) rfl (by rw [hml]; rfl) (Steps.refl _) (argsL := []) (rest := []) (lenOf pd_5 rfl) rfl (by show 2 * 0 + _ ≤ _; exact Nat.le_of_eq rfl) (hb hby at_170) (fun _ _ => ⟨rfl, e283, (by decide : 4 + 0 ≤ _), (by decide : 12 + 0 ≤ _)⟩)
    dsimp only [Pt.U, Pt.locs, Pt.cells, Pt.slots] at X284 l284 y284 z284 st284 hQ284
    subst l284 y284 z284
    obtain ⟨rfl, N284q, e284⟩ := hQ284
    have N284 := Fr.app N283 N284q
    obtain ⟨cq285, kq285, q285a, q285b, q285c⟩ := isOf hZ e284 E_b283
    obtain ⟨_, _, ⟨T285, L285, k285, n285⟩, -, X285, ⟨Lc285, hQ285, l285, y285, z285⟩, st285⟩ := X284.virtualBack hx (y := mn7) (z := mn7) hown (mvT hZ (ww hw 57 rfl)) (mvT hZ (ww hw 58 rfl)) (notFace_of_selects (args := #[]) (mvT hZ (ww hw 60 rfl))) (mvT hZ (ww hw 60 rfl)) (mvT hZ (ww hw 59 rfl)) (by decide) (backOf (W := 0) (rm9_4_0 l Z a0 hw [] b283 B283 k283 z0 z1 z2 z3 h283 n0 Z0 F_numbers_b283 V_B283) hZ (ww hw 61 rfl) (ww hw 33 rfl) (by decide) (by decide)) q285a q285c (g := (mkF m 198 (lo0_25 p1 p2 p3 p4 p5 p6 z0 z1 z2 z3 z4 b256 b283) [(.int (0 : Int32)), (.ref b283)])) rfl (by rw [hml]; rfl) (Steps.refl _) (argsL := [(.int (0 : Int32))]) (rest := []) (lenOf pd_7 rfl) rfl (by show 2 * 0 + _ ≤ _; exact Nat.le_of_eq rfl) (hb hby at_198) (fun _ _ => ⟨rfl, e284, (by decide : 4 + 0 ≤ _), (by decide : 12 + 0 ≤ _)⟩)
    dsimp only [Pt.U, Pt.locs, Pt.cells, Pt.slots] at X285 l285 y285 z285 st285 hQ285
    subst l285 y285 z285
    obtain ⟨rfl, N285q, e285⟩ := hQ285
    have N285 := Fr.app N284 N285q
    obtain ⟨cq286, kq286, q286a, q286b, q286c⟩ := isOf hZ e285 E_b283
    obtain ⟨_, _, ⟨T286, L286, k286, n286⟩, -, X286, ⟨Lc286, hQ286, l286, y286, z286⟩, st286⟩ := X285.virtualBack hx (y := mn7) (z := mn7) hown (mvT hZ (ww hw 57 rfl)) (mvT hZ (ww hw 58 rfl)) (notFace_of_selects (args := #[]) (mvT hZ (ww hw 60 rfl))) (mvT hZ (ww hw 60 rfl)) (mvT hZ (ww hw 59 rfl)) (by decide) (backOf (W := 0) (rm9_4_1 l Z a0 hw [] b283 B283 k283 z0 z1 z2 z3 h283 n0 Z0 F_numbers_b283 V_B283) hZ (ww hw 61 rfl) (ww hw 33 rfl) (by decide) (by decide)) q286a q286c (g := (mkF m 227 (lo0_25 p1 p2 p3 p4 p5 p6 z0 z1 z2 z3 z4 b256 b283) [(.int (1 : Int32)), (.ref b283)])) rfl (by rw [hml]; rfl) (Steps.refl _) (argsL := [(.int (1 : Int32))]) (rest := []) (lenOf pd_7 rfl) rfl (by show 2 * 0 + _ ≤ _; exact Nat.le_of_eq rfl) (hb hby at_227) (fun _ _ => ⟨rfl, e285, (by decide : 4 + 0 ≤ _), (by decide : 12 + 0 ≤ _)⟩)
    dsimp only [Pt.U, Pt.locs, Pt.cells, Pt.slots] at X286 l286 y286 z286 st286 hQ286
    subst l286 y286 z286
    obtain ⟨rfl, N286q, e286⟩ := hQ286
    have N286 := Fr.app N285 N286q
    obtain ⟨cq287, kq287, q287a, q287b, q287c⟩ := isOf hZ e286 E_b283
    obtain ⟨_, _, ⟨T287, L287, k287, n287⟩, -, X287, ⟨Lc287, hQ287, l287, y287, z287⟩, st287⟩ := X286.virtualBack hx (y := mn7) (z := mn7) hown (mvT hZ (ww hw 57 rfl)) (mvT hZ (ww hw 58 rfl)) (notFace_of_selects (args := #[]) (mvT hZ (ww hw 60 rfl))) (mvT hZ (ww hw 60 rfl)) (mvT hZ (ww hw 59 rfl)) (by decide) (backOf (W := 0) (rm9_4_2 l Z a0 hw [] b283 B283 k283 z0 z1 z2 z3 h283 n0 Z0 F_numbers_b283 V_B283) hZ (ww hw 61 rfl) (ww hw 33 rfl) (by decide) (by decide)) q287a q287c (g := (mkF m 256 (lo0_25 p1 p2 p3 p4 p5 p6 z0 z1 z2 z3 z4 b256 b283) [(.int (2 : Int32)), (.ref b283)])) rfl (by rw [hml]; rfl) (Steps.refl _) (argsL := [(.int (2 : Int32))]) (rest := []) (lenOf pd_7 rfl) rfl (by show 2 * 0 + _ ≤ _; exact Nat.le_of_eq rfl) (hb hby at_256) (fun _ _ => ⟨rfl, e286, (by decide : 4 + 0 ≤ _), (by decide : 12 + 0 ≤ _)⟩)
    dsimp only [Pt.U, Pt.locs, Pt.cells, Pt.slots] at X287 l287 y287 z287 st287 hQ287
    subst l287 y287 z287
    obtain ⟨rfl, N287q, e287⟩ := hQ287
    have N287 := Fr.app N286 N287q
    obtain ⟨cq288, kq288, q288a, q288b, q288c⟩ := isOf hZ e287 E_b283
    obtain ⟨_, _, ⟨T288, L288, k288, n288⟩, -, X288, ⟨Lc288, hQ288, l288, y288, z288⟩, st288⟩ := X287.virtualBack hx (y := mn7) (z := mn7) hown (mvT hZ (ww hw 57 rfl)) (mvT hZ (ww hw 58 rfl)) (notFace_of_selects (args := #[]) (mvT hZ (ww hw 60 rfl))) (mvT hZ (ww hw 60 rfl)) (mvT hZ (ww hw 59 rfl)) (by decide) (backOf (W := 0) (rm9_4_3 l Z a0 hw [] b283 B283 k283 z0 z1 z2 z3 h283 n0 Z0 F_numbers_b283 V_B283) hZ (ww hw 61 rfl) (ww hw 33 rfl) (by decide) (by decide)) q288a q288c (g := (mkF m 285 (lo0_25 p1 p2 p3 p4 p5 p6 z0 z1 z2 z3 z4 b256 b283) [(.int (3 : Int32)), (.ref b283)])) rfl (by rw [hml]; rfl) (Steps.refl _) (argsL := [(.int (3 : Int32))]) (rest := []) (lenOf pd_7 rfl) rfl (by show 2 * 0 + _ ≤ _; exact Nat.le_of_eq rfl) (hb hby at_285) (fun _ _ => ⟨rfl, e287, (by decide : 4 + 0 ≤ _), (by decide : 12 + 0 ≤ _)⟩)
    dsimp only [Pt.U, Pt.locs, Pt.cells, Pt.slots] at X288 l288 y288 z288 st288 hQ288
    subst l288 y288 z288
    obtain ⟨rfl, N288q, e288⟩ := hQ288
    have N288 := Fr.app N287 N288q
    obtain ⟨fs, hr, hrun, hended, hW, hsame⟩ := X288.leave (v := some (.int (1 : Int32))) (fun h => by rw [Bd.returns] at h; cases h)
    refine ⟨_, _, pre258 _ ?_, hrun, hended, _, _, rfl, ?_, ⟨_, rfl⟩, hW, hsame.mono (by decide) (by decide)⟩
    · refine y_iload X257.here hx (hb hby at_80) rfl ?_
      refine y_ifNo X257.here hx (hb hby at_82) ((if0 _ _).trans (tlt (by decide)).2.2.2) ?_
      refine y_aload X257.here hx (hb hby at_85) rfl rfl ?_
      refine y_iload X257.here hx (hb hby at_87) rfl ?_
      refine st279.trans ?_
      show Steps p.tables e below (T279.setTop (mkF m 92 (lo0_23 p1 p2 p3 p4 p5 p6 z0 z1 z2 z3 z4 b256) [(.ref b256)])) _
      refine y_astore X279.here hx (hb hby at_92) rfl (l' := (lo0_23 p1 p2 p3 p4 p5 p6 z0 z1 z2 z3 z4 b256)) rfl ?_
      refine y_iload X279.here hx (hb hby at_94) rfl ?_
      refine y_iconst X279.here hx (v := (1 : Int32)) (hb hby at_96) rfl ?_
      refine y_icmpNo X279.here hx (hb hby at_97) (tlt (by decide)).2.2.2 ?_
      refine y_aload X279.here hx (hb hby at_100) rfl rfl ?_
      refine y_iload X279.here hx (hb hby at_102) rfl ?_
      refine st280.trans ?_
      show Steps p.tables e below (T280.setTop (mkF m 107 (lo0_23 p1 p2 p3 p4 p5 p6 z0 z1 z2 z3 z4 b256) [(.ref b256)])) _
      refine y_astore X280.here hx (hb hby at_107) rfl (l' := (lo0_23 p1 p2 p3 p4 p5 p6 z0 z1 z2 z3 z4 b256)) rfl ?_
      refine y_iload X280.here hx (hb hby at_109) rfl ?_
      refine y_iconst X280.here hx (v := (2 : Int32)) (hb hby at_111) rfl ?_
      refine y_icmpNo X280.here hx (hb hby at_112) (tlt (by decide)).2.2.2 ?_
      refine y_aload X280.here hx (hb hby at_115) rfl rfl ?_
      refine y_iload X280.here hx (hb hby at_117) rfl ?_
      refine st281.trans ?_
      show Steps p.tables e below (T281.setTop (mkF m 122 (lo0_23 p1 p2 p3 p4 p5 p6 z0 z1 z2 z3 z4 b256) [(.ref b256)])) _
      refine y_astore X281.here hx (hb hby at_122) rfl (l' := (lo0_23 p1 p2 p3 p4 p5 p6 z0 z1 z2 z3 z4 b256)) rfl ?_
      refine y_iload X281.here hx (hb hby at_124) rfl ?_
      refine y_iconst X281.here hx (v := (3 : Int32)) (hb hby at_126) rfl ?_
      refine y_icmpNo X281.here hx (hb hby at_127) (tlt (by decide)).2.2.2 ?_
      refine y_aload X281.here hx (hb hby at_130) rfl rfl ?_
      refine y_iload X281.here hx (hb hby at_132) rfl ?_
      refine st282.trans ?_
      show Steps p.tables e below (T282.setTop (mkF m 137 (lo0_23 p1 p2 p3 p4 p5 p6 z0 z1 z2 z3 z4 b256) [(.ref b256)])) _
      refine y_astore X282.here hx (hb hby at_137) rfl (l' := (lo0_23 p1 p2 p3 p4 p5 p6 z0 z1 z2 z3 z4 b256)) rfl ?_
      refine y_iload X282.here hx (hb hby at_139) rfl ?_
      refine y_iconst X282.here hx (v := (4 : Int32)) (hb hby at_141) rfl ?_
      refine y_icmpYes X282.here hx (pc' := 154) (hb hby at_142) (flt (by decide)).2.2.2 (by decide) (by decide) ?_
      refine y_aload X282.here hx (hb hby at_154) rfl rfl ?_
      refine st283.trans ?_
      show Steps p.tables e below (T283.setTop (mkF m 159 (lo0_23 p1 p2 p3 p4 p5 p6 z0 z1 z2 z3 z4 b256) [(.ref b283)])) _
      refine y_astore X283.here hx (hb hby at_159) rfl (l' := (lo0_24 p1 p2 p3 p4 p5 p6 z0 z1 z2 z3 z4 b256 b283)) rfl ?_
      refine y_aload X283.here hx (hb hby at_161) rfl rfl ?_
      refine y_aload X283.here hx (hb hby at_163) rfl rfl ?_
      show Steps p.tables e below (T283.setTop (mkF m 165 (lo0_24 p1 p2 p3 p4 p5 p6 z0 z1 z2 z3 z4 b256 b283) [(.ref b256), (.ref b256)])) _
      refine Jvm.RoadKit.acmp (g := (mkF m 165 (lo0_24 p1 p2 p3 p4 p5 p6 z0 z1 z2 z3 z4 b256 b283) [(.ref b256), (.ref b256)])) X283 hx rfl rfl rfl (pc0 := 165) (pc' := 168) (same := true) rfl (hb hby at_165) rfl (decide_eq_true (congrArg Value.ref rfl)) (by decide) (by decide) ?_
      show Steps p.tables e below (T283.setTop (mkF m 168 (lo0_24 p1 p2 p3 p4 p5 p6 z0 z1 z2 z3 z4 b256 b283) [])) _
      refine y_aload X283.here hx (hb hby at_168) rfl rfl ?_
      refine st284.trans ?_
      show Steps p.tables e below (T284.setTop (mkF m 173 (lo0_24 p1 p2 p3 p4 p5 p6 z0 z1 z2 z3 z4 b256 b283) [(.int (4 : Int32))])) _
      refine y_iload X284.here hx (hb hby at_173) rfl ?_
      refine y_icmpNo X284.here hx (hb hby at_175) (teq rfl).2 ?_
      refine y_iconst X284.here hx (v := (1 : Int32)) (hb hby at_178) rfl ?_
      refine y_goto X284.here hx (pc' := 183) (hb hby at_179) (by decide) (by decide) ?_
      refine y_istore X284.here hx (hb hby at_183) (l' := (lo0_25 p1 p2 p3 p4 p5 p6 z0 z1 z2 z3 z4 b256 b283)) rfl ?_
      refine y_iload X284.here hx (hb hby at_185) rfl ?_
      refine y_ifNo X284.here hx (hb hby at_187) ((if0 _ _).trans (feq (by decide)).1) ?_
      refine y_iload X284.here hx (hb hby at_190) rfl ?_
      refine y_ifNo X284.here hx (hb hby at_192) ((if0 _ _).trans (tlt (by decide)).2.2.2) ?_
      refine y_aload X284.here hx (hb hby at_195) rfl rfl ?_
      refine y_iconst X284.here hx (v := (0 : Int32)) (hb hby at_197) rfl ?_
      refine st285.trans ?_
      show Steps p.tables e below (T285.setTop (mkF m 201 (lo0_25 p1 p2 p3 p4 p5 p6 z0 z1 z2 z3 z4 b256 b283) [(.int z0)])) _
      refine y_iload X285.here hx (hb hby at_201) rfl ?_
      refine y_icmpNo X285.here hx (hb hby at_203) (teq rfl).2 ?_
      refine y_iconst X285.here hx (v := (1 : Int32)) (hb hby at_206) rfl ?_
      refine y_goto X285.here hx (pc' := 211) (hb hby at_207) (by decide) (by decide) ?_
      refine y_istore X285.here hx (hb hby at_211) (l' := (lo0_25 p1 p2 p3 p4 p5 p6 z0 z1 z2 z3 z4 b256 b283)) rfl ?_
      refine y_iload X285.here hx (hb hby at_213) rfl ?_
      refine y_ifNo X285.here hx (hb hby at_215) ((if0 _ _).trans (feq (by decide)).1) ?_
      refine y_iload X285.here hx (hb hby at_218) rfl ?_
      refine y_iconst X285.here hx (v := (1 : Int32)) (hb hby at_220) rfl ?_
      refine y_icmpNo X285.here hx (hb hby at_221) (tlt (by decide)).2.2.2 ?_
      refine y_aload X285.here hx (hb hby at_224) rfl rfl ?_
      refine y_iconst X285.here hx (v := (1 : Int32)) (hb hby at_226) rfl ?_
      refine st286.trans ?_
      show Steps p.tables e below (T286.setTop (mkF m 230 (lo0_25 p1 p2 p3 p4 p5 p6 z0 z1 z2 z3 z4 b256 b283) [(.int z1)])) _
      refine y_iload X286.here hx (hb hby at_230) rfl ?_
      refine y_icmpNo X286.here hx (hb hby at_232) (teq rfl).2 ?_
      refine y_iconst X286.here hx (v := (1 : Int32)) (hb hby at_235) rfl ?_
      refine y_goto X286.here hx (pc' := 240) (hb hby at_236) (by decide) (by decide) ?_
      refine y_istore X286.here hx (hb hby at_240) (l' := (lo0_25 p1 p2 p3 p4 p5 p6 z0 z1 z2 z3 z4 b256 b283)) rfl ?_
      refine y_iload X286.here hx (hb hby at_242) rfl ?_
      refine y_ifNo X286.here hx (hb hby at_244) ((if0 _ _).trans (feq (by decide)).1) ?_
      refine y_iload X286.here hx (hb hby at_247) rfl ?_
      refine y_iconst X286.here hx (v := (2 : Int32)) (hb hby at_249) rfl ?_
      refine y_icmpNo X286.here hx (hb hby at_250) (tlt (by decide)).2.2.2 ?_
      refine y_aload X286.here hx (hb hby at_253) rfl rfl ?_
      refine y_iconst X286.here hx (v := (2 : Int32)) (hb hby at_255) rfl ?_
      refine st287.trans ?_
      show Steps p.tables e below (T287.setTop (mkF m 259 (lo0_25 p1 p2 p3 p4 p5 p6 z0 z1 z2 z3 z4 b256 b283) [(.int z2)])) _
      refine y_iload X287.here hx (hb hby at_259) rfl ?_
      refine y_icmpNo X287.here hx (hb hby at_261) (teq rfl).2 ?_
      refine y_iconst X287.here hx (v := (1 : Int32)) (hb hby at_264) rfl ?_
      refine y_goto X287.here hx (pc' := 269) (hb hby at_265) (by decide) (by decide) ?_
      refine y_istore X287.here hx (hb hby at_269) (l' := (lo0_25 p1 p2 p3 p4 p5 p6 z0 z1 z2 z3 z4 b256 b283)) rfl ?_
      refine y_iload X287.here hx (hb hby at_271) rfl ?_
      refine y_ifNo X287.here hx (hb hby at_273) ((if0 _ _).trans (feq (by decide)).1) ?_
      refine y_iload X287.here hx (hb hby at_276) rfl ?_
      refine y_iconst X287.here hx (v := (3 : Int32)) (hb hby at_278) rfl ?_
      refine y_icmpNo X287.here hx (hb hby at_279) (tlt (by decide)).2.2.2 ?_
      refine y_aload X287.here hx (hb hby at_282) rfl rfl ?_
      refine y_iconst X287.here hx (v := (3 : Int32)) (hb hby at_284) rfl ?_
      refine st288.trans ?_
      show Steps p.tables e below (T288.setTop (mkF m 288 (lo0_25 p1 p2 p3 p4 p5 p6 z0 z1 z2 z3 z4 b256 b283) [(.int z3)])) _
      refine y_iload X288.here hx (hb hby at_288) rfl ?_
      refine y_icmpNo X288.here hx (hb hby at_290) (teq rfl).2 ?_
      refine y_iconst X288.here hx (v := (1 : Int32)) (hb hby at_293) rfl ?_
      refine y_goto X288.here hx (pc' := 298) (hb hby at_294) (by decide) (by decide) ?_
      refine y_istore X288.here hx (hb hby at_298) (l' := (lo0_25 p1 p2 p3 p4 p5 p6 z0 z1 z2 z3 z4 b256 b283)) rfl ?_
      refine y_iload X288.here hx (hb hby at_300) rfl ?_
      refine y_ifNo X288.here hx (hb hby at_302) ((if0 _ _).trans (feq (by decide)).1) ?_
      refine y_iload X288.here hx (hb hby at_305) rfl ?_
      refine y_iconst X288.here hx (v := (4 : Int32)) (hb hby at_307) rfl ?_
      refine y_icmpYes X288.here hx (pc' := 329) (hb hby at_308) (flt (by decide)).2.2.2 (by decide) (by decide) ?_
      refine y_iload X288.here hx (hb hby at_329) rfl ?_
      exact retN X288 hx (t := .boolean) Bd.returns (by simp) (hb hby at_331) hr
    · exact ⟨rfl, N288⟩
  · rw [hm] at pre258
    obtain ⟨cq289, kq289, q289a, q289b, q289c⟩ := isOf hZ e257 E_b256
    obtain ⟨_, _, ⟨T289, L289, k289, n289⟩, -, X289, ⟨Lc289, hQ289, l289, y289, z289⟩, st289⟩ := X257.virtualBack hx (y := mn2) (z := mn2) hown (mvT hZ (ww hw 19 rfl)) (mvT hZ (ww hw 20 rfl)) (notFace_of_selects (args := #[]) (mvT hZ (ww hw 22 rfl))) (mvT hZ (ww hw 22 rfl)) (mvT hZ (ww hw 21 rfl)) (by decide) (backOf (W := 0) (rm4_0 l Z a0 hw [] b256 z0 A257 k257  h257 n0 Z0 E_b256 F_numbers_b256 F_size_b256 E_A257 V_A257 g_b256 g_A257 ne_b256_A257) hZ (ww hw 23 rfl) (ww hw 9 rfl) (by decide) (by decide)) q289a q289c (g := (mkF m 89 (lo0_26 p1 p2 p3 p4 p5 p6 z0 z1 z2 z3 z4 b256) [(.int z0), (.ref b256)])) rfl (by rw [hml]; rfl) (Steps.refl _) (argsL := [(.int z0)]) (rest := []) (lenOf pd_6 rfl) rfl (by show 2 * 0 + _ ≤ _; exact Nat.le_of_eq rfl) (hb hby at_89) (fun _ _ => ⟨rfl, e257, (by decide : 2 + 0 ≤ _), (by decide : 6 + 0 ≤ _)⟩)
    dsimp only [Pt.U, Pt.locs, Pt.cells, Pt.slots] at X289 l289 y289 z289 st289 hQ289
    subst l289 y289 z289
    obtain ⟨h289, e289⟩ : ∃ z, T289.heap = z := ⟨_, rfl⟩
    rw [e289] at hQ289
    obtain ⟨rfl, N289q, K289, Fs289, Fn289, Vn289⟩ := hQ289
    replace E_b256 := E_b256.keep K289
    replace E_A257 := E_A257.keep K289
    replace Z0 := Nat.le_trans Z0 K289.1
    have F_size_b256 : Fld Z h289 b256 "com/example/hard_delay_bounds/harddelaybounds/analysis/FlowSet$Builder" "size" "I" (.int (1 : Int32)) := Fs289
    have F_numbers_b256 : Fld Z h289 b256 "com/example/hard_delay_bounds/harddelaybounds/analysis/FlowSet$Builder" "numbers" "[I" (.ref A257) := Fn289
    have V_A257 : Arv Z h289 A257 k257 .int (4 : Int32) [(.int z0), (.int (0 : Int32)), (.int (0 : Int32)), (.int (0 : Int32))] (.int (0 : Int32)) := Vn289
    have N289 := Fr.app N257 N289q
    obtain ⟨cq290, kq290, q290a, q290b, q290c⟩ := isOf hZ e289 E_b256
    obtain ⟨_, _, ⟨T290, L290, k290, n290⟩, -, X290, ⟨Lc290, hQ290, l290, y290, z290⟩, st290⟩ := X289.virtualBack hx (y := mn2) (z := mn2) hown (mvT hZ (ww hw 19 rfl)) (mvT hZ (ww hw 20 rfl)) (notFace_of_selects (args := #[]) (mvT hZ (ww hw 22 rfl))) (mvT hZ (ww hw 22 rfl)) (mvT hZ (ww hw 21 rfl)) (by decide) (backOf (W := 0) (rm4_1 l Z a0 hw [] b256 z1 A257 k257 z0 h289 n0 Z0 lt1 E_b256 F_numbers_b256 F_size_b256 E_A257 V_A257 g_b256 g_A257 ne_b256_A257) hZ (ww hw 23 rfl) (ww hw 9 rfl) (by decide) (by decide)) q290a q290c (g := (mkF m 104 (lo0_26 p1 p2 p3 p4 p5 p6 z0 z1 z2 z3 z4 b256) [(.int z1), (.ref b256)])) rfl (by rw [hml]; rfl) (Steps.refl _) (argsL := [(.int z1)]) (rest := []) (lenOf pd_6 rfl) rfl (by show 2 * 0 + _ ≤ _; exact Nat.le_of_eq rfl) (hb hby at_104) (fun _ _ => ⟨rfl, e289, (by decide : 2 + 0 ≤ _), (by decide : 6 + 0 ≤ _)⟩)
    dsimp only [Pt.U, Pt.locs, Pt.cells, Pt.slots] at X290 l290 y290 z290 st290 hQ290
    subst l290 y290 z290
    obtain ⟨h290, e290⟩ : ∃ z, T290.heap = z := ⟨_, rfl⟩
    rw [e290] at hQ290
    obtain ⟨rfl, N290q, K290, Fs290, Fn290, Vn290⟩ := hQ290
    replace E_b256 := E_b256.keep K290
    replace E_A257 := E_A257.keep K290
    replace Z0 := Nat.le_trans Z0 K290.1
    have F_size_b256 : Fld Z h290 b256 "com/example/hard_delay_bounds/harddelaybounds/analysis/FlowSet$Builder" "size" "I" (.int (2 : Int32)) := Fs290
    have F_numbers_b256 : Fld Z h290 b256 "com/example/hard_delay_bounds/harddelaybounds/analysis/FlowSet$Builder" "numbers" "[I" (.ref A257) := Fn290
    have V_A257 : Arv Z h290 A257 k257 .int (4 : Int32) [(.int z0), (.int z1), (.int (0 : Int32)), (.int (0 : Int32))] (.int (0 : Int32)) := Vn290
    have N290 := Fr.app N289 N290q
    obtain ⟨cq291, kq291, q291a, q291b, q291c⟩ := isOf hZ e290 E_b256
    obtain ⟨_, _, ⟨T291, L291, k291, n291⟩, -, X291, ⟨Lc291, hQ291, l291, y291, z291⟩, st291⟩ := X290.virtualBack hx (y := mn2) (z := mn2) hown (mvT hZ (ww hw 19 rfl)) (mvT hZ (ww hw 20 rfl)) (notFace_of_selects (args := #[]) (mvT hZ (ww hw 22 rfl))) (mvT hZ (ww hw 22 rfl)) (mvT hZ (ww hw 21 rfl)) (by decide) (backOf (W := 0) (rm4_2 l Z a0 hw [] b256 z2 A257 k257 z0 z1 h290 n0 Z0 lt2 E_b256 F_numbers_b256 F_size_b256 E_A257 V_A257 g_b256 g_A257 ne_b256_A257) hZ (ww hw 23 rfl) (ww hw 9 rfl) (by decide) (by decide)) q291a q291c (g := (mkF m 119 (lo0_26 p1 p2 p3 p4 p5 p6 z0 z1 z2 z3 z4 b256) [(.int z2), (.ref b256)])) rfl (by rw [hml]; rfl) (Steps.refl _) (argsL := [(.int z2)]) (rest := []) (lenOf pd_6 rfl) rfl (by show 2 * 0 + _ ≤ _; exact Nat.le_of_eq rfl) (hb hby at_119) (fun _ _ => ⟨rfl, e290, (by decide : 2 + 0 ≤ _), (by decide : 6 + 0 ≤ _)⟩)
    dsimp only [Pt.U, Pt.locs, Pt.cells, Pt.slots] at X291 l291 y291 z291 st291 hQ291
    subst l291 y291 z291
    obtain ⟨h291, e291⟩ : ∃ z, T291.heap = z := ⟨_, rfl⟩
    rw [e291] at hQ291
    obtain ⟨rfl, N291q, K291, Fs291, Fn291, Vn291⟩ := hQ291
    replace E_b256 := E_b256.keep K291
    replace E_A257 := E_A257.keep K291
    replace Z0 := Nat.le_trans Z0 K291.1
    have F_size_b256 : Fld Z h291 b256 "com/example/hard_delay_bounds/harddelaybounds/analysis/FlowSet$Builder" "size" "I" (.int (3 : Int32)) := Fs291
    have F_numbers_b256 : Fld Z h291 b256 "com/example/hard_delay_bounds/harddelaybounds/analysis/FlowSet$Builder" "numbers" "[I" (.ref A257) := Fn291
    have V_A257 : Arv Z h291 A257 k257 .int (4 : Int32) [(.int z0), (.int z1), (.int z2), (.int (0 : Int32))] (.int (0 : Int32)) := Vn291
    have N291 := Fr.app N290 N291q
    obtain ⟨cq292, kq292, q292a, q292b, q292c⟩ := isOf hZ e291 E_b256
    obtain ⟨_, _, ⟨T292, L292, k292, n292⟩, -, X292, ⟨Lc292, hQ292, l292, y292, z292⟩, st292⟩ := X291.virtualBack hx (y := mn2) (z := mn2) hown (mvT hZ (ww hw 19 rfl)) (mvT hZ (ww hw 20 rfl)) (notFace_of_selects (args := #[]) (mvT hZ (ww hw 22 rfl))) (mvT hZ (ww hw 22 rfl)) (mvT hZ (ww hw 21 rfl)) (by decide) (backOf (W := 0) (rm4_3 l Z a0 hw [] b256 z3 A257 k257 z0 z1 z2 h291 n0 Z0 lt3 E_b256 F_numbers_b256 F_size_b256 E_A257 V_A257 g_b256 g_A257 ne_b256_A257) hZ (ww hw 23 rfl) (ww hw 9 rfl) (by decide) (by decide)) q292a q292c (g := (mkF m 134 (lo0_26 p1 p2 p3 p4 p5 p6 z0 z1 z2 z3 z4 b256) [(.int z3), (.ref b256)])) rfl (by rw [hml]; rfl) (Steps.refl _) (argsL := [(.int z3)]) (rest := []) (lenOf pd_6 rfl) rfl (by show 2 * 0 + _ ≤ _; exact Nat.le_of_eq rfl) (hb hby at_134) (fun _ _ => ⟨rfl, e291, (by decide : 2 + 0 ≤ _), (by decide : 6 + 0 ≤ _)⟩)
    dsimp only [Pt.U, Pt.locs, Pt.cells, Pt.slots] at X292 l292 y292 z292 st292 hQ292
    subst l292 y292 z292
    obtain ⟨h292, e292⟩ : ∃ z, T292.heap = z := ⟨_, rfl⟩
    rw [e292] at hQ292
    obtain ⟨rfl, N292q, K292, Fs292, Fn292, Vn292⟩ := hQ292
    replace E_b256 := E_b256.keep K292
    replace E_A257 := E_A257.keep K292
    replace Z0 := Nat.le_trans Z0 K292.1
    have F_size_b256 : Fld Z h292 b256 "com/example/hard_delay_bounds/harddelaybounds/analysis/FlowSet$Builder" "size" "I" (.int (4 : Int32)) := Fs292
    have F_numbers_b256 : Fld Z h292 b256 "com/example/hard_delay_bounds/harddelaybounds/analysis/FlowSet$Builder" "numbers" "[I" (.ref A257) := Fn292
    have V_A257 : Arv Z h292 A257 k257 .int (4 : Int32) [(.int z0), (.int z1), (.int z2), (.int z3)] (.int (0 : Int32)) := Vn292
    have N292 := Fr.app N291 N292q
    obtain ⟨cq293, kq293, q293a, q293b, q293c⟩ := isOf hZ e292 E_b256
    obtain ⟨_, _, ⟨T293, L293, k293, n293⟩, -, X293, ⟨Lc293, hQ293, l293, y293, z293⟩, st293⟩ := X292.virtualBack hx (y := mn2) (z := mn2) hown (mvT hZ (ww hw 19 rfl)) (mvT hZ (ww hw 20 rfl)) (notFace_of_selects (args := #[]) (mvT hZ (ww hw 22 rfl))) (mvT hZ (ww hw 22 rfl)) (mvT hZ (ww hw 21 rfl)) (by decide) (backOf (W := 0) (rm4_4 l Z a0 hw [] b256 z4 A257 k257 z0 z1 z2 z3 h292 n0 Z0 lt4 E_b256 F_numbers_b256 F_size_b256 E_A257 V_A257 g_b256 ne_b256_A257) hZ (ww hw 23 rfl) (ww hw 9 rfl) (by decide) (by decide)) q293a q293c (g := (mkF m 149 (lo0_26 p1 p2 p3 p4 p5 p6 z0 z1 z2 z3 z4 b256) [(.int z4), (.ref b256)])) rfl (by rw [hml]; rfl) (Steps.refl _) (argsL := [(.int z4)]) (rest := []) (lenOf pd_6 rfl) rfl (by show 2 * 0 + _ ≤ _; exact Nat.le_of_eq rfl) (hb hby at_149) (fun _ _ => ⟨rfl, e292, (by decide : 2 + 1 ≤ _), (by decide : 6 + 8 ≤ _)⟩)
    dsimp only [Pt.U, Pt.locs, Pt.cells, Pt.slots] at X293 l293 y293 z293 st293 hQ293
    subst l293 y293 z293
    obtain ⟨h293, e293⟩ : ∃ z, T293.heap = z := ⟨_, rfl⟩
    rw [e293] at hQ293
    obtain ⟨b293, k293, rfl, N293q, K293, s293, Fs293, Fn293, Vn293, En293⟩ := hQ293
    have g_b293 : n0 ≤ b293 := Nat.le_trans Z0 s293
    have ne_b256_b293 : b256 ≠ b293 := Nat.ne_of_lt (Nat.lt_of_lt_of_le E_b256.lt s293)
    have ne_A257_b293 : A257 ≠ b293 := Nat.ne_of_lt (Nat.lt_of_lt_of_le V_A257.lt s293)
    replace E_b256 := E_b256.keep K293
    replace V_A257 := V_A257.keep K293 (ninS (Ne.symm ne_b256_A257) nin0)
    replace E_A257 := E_A257.keep K293
    replace Z0 := Nat.le_trans Z0 K293.1
    have E_b293 := En293
    have F_size_b256 : Fld Z h293 b256 "com/example/hard_delay_bounds/harddelaybounds/analysis/FlowSet$Builder" "size" "I" (.int (5 : Int32)) := Fs293
    have F_numbers_b256 : Fld Z h293 b256 "com/example/hard_delay_bounds/harddelaybounds/analysis/FlowSet$Builder" "numbers" "[I" (.ref b293) := Fn293
    have V_b293 : Arv Z h293 b293 k293 .int (8 : Int32) [(.int z0), (.int z1), (.int z2), (.int z3), (.int z4), (.int (0 : Int32)), (.int (0 : Int32)), (.int (0 : Int32))] (.int (0 : Int32)) := Vn293
    have N293 := Fr.app N292 N293q
    obtain ⟨cq294, kq294, q294a, q294b, q294c⟩ := isOf hZ e293 E_b256
    obtain ⟨_, _, ⟨T294, L294, k294, n294⟩, -, X294, ⟨Lc294, hQ294, l294, y294, z294⟩, st294⟩ := X293.virtualBack hx (y := mn5) (z := mn5) hown (mvT hZ (ww hw 26 rfl)) (mvT hZ (ww hw 27 rfl)) (notFace_of_selects (args := #[]) (mvT hZ (ww hw 29 rfl))) (mvT hZ (ww hw 29 rfl)) (mvT hZ (ww hw 28 rfl)) (by decide) (backOf (W := 0) (rm5_5 l Z a0 hw [] b256 b293 k293 z0 z1 z2 z3 z4 h293 n0 Z0 E_b256 F_numbers_b256 F_size_b256 E_b293 V_b293 ne_b256_b293) hZ (ww hw 30 rfl) (ww hw 9 rfl) (by decide) (by decide)) q294a q294c (g := (mkF m 156 (lo0_26 p1 p2 p3 p4 p5 p6 z0 z1 z2 z3 z4 b256) [(.ref b256)])) rfl (by rw [hml]; rfl) (Steps.refl _) (argsL := []) (rest := []) (lenOf pd_4 rfl) rfl (by show 2 * 0 + _ ≤ _; exact Nat.le_of_eq rfl) (hb hby at_156) (fun _ _ => ⟨rfl, e293, (by decide : 3 + 2 ≤ _), (by decide : 14 + 7 ≤ _)⟩)
    dsimp only [Pt.U, Pt.locs, Pt.cells, Pt.slots] at X294 l294 y294 z294 st294 hQ294
    subst l294 y294 z294
    obtain ⟨h294, e294⟩ : ∃ z, T294.heap = z := ⟨_, rfl⟩
    rw [e294] at hQ294
    obtain ⟨b294, B294, k294, rfl, N294q, K294, s294, t294, En294, Fn294, Vn294⟩ := hQ294
    have g_b294 : n0 ≤ b294 := Nat.le_trans Z0 s294
    have ne_b256_b294 : b256 ≠ b294 := Nat.ne_of_lt (Nat.lt_of_lt_of_le E_b256.lt s294)
    have ne_A257_b294 : A257 ≠ b294 := Nat.ne_of_lt (Nat.lt_of_lt_of_le V_A257.lt s294)
    have ne_b293_b294 : b293 ≠ b294 := Nat.ne_of_lt (Nat.lt_of_lt_of_le E_b293.lt s294)
    replace E_b256 := E_b256.keep K294
    replace F_numbers_b256 := F_numbers_b256.keep K294 nin0
    replace F_size_b256 := F_size_b256.keep K294 nin0
    replace V_A257 := V_A257.keep K294 nin0
    replace E_A257 := E_A257.keep K294
    replace E_b293 := E_b293.keep K294
    replace V_b293 := V_b293.keep K294 nin0
    replace Z0 := Nat.le_trans Z0 K294.1
    have E_b294 : Exa Z h294 b294 "com/example/hard_delay_bounds/harddelaybounds/analysis/FlowSet" := En294
    have F_numbers_b294 : Fld Z h294 b294 "com/example/hard_delay_bounds/harddelaybounds/analysis/FlowSet" "numbers" "[I" (.ref B294) := Fn294
    have V_B294 : Arv Z h294 B294 k294 .int (5 : Int32) [(.int z0), (.int z1), (.int z2), (.int z3), (.int z4)] (.int (0 : Int32)) := Vn294
    have N294 := Fr.app N293 N294q
    obtain ⟨cq295, kq295, q295a, q295b, q295c⟩ := isOf hZ e294 E_b294
    obtain ⟨_, _, ⟨T295, L295, k295, n295⟩, -, X295, ⟨Lc295, hQ295, l295, y295, z295⟩, st295⟩ := X294.virtualBack hx (y := mn6) (z := mn6) hown (mvT hZ (ww hw 52 rfl)) (mvT hZ (ww hw 53 rfl)) (notFace_of_selects (args := #[]) (mvT hZ (ww hw 55 rfl))) (mvT hZ (ww hw 55 rfl)) (mvT hZ (ww hw 54 rfl)) (by decide) (backOf (W := 0) (rm8_5 l Z a0 hw [] b294 B294 k294 z0 z1 z2 z3 z4 h294 n0 Z0 F_numbers_b294 V_B294) hZ (ww hw 56 rfl) (ww hw 33 rfl) (by decide) (by decide)) q295a q295c (g := (mkF m 170 (lo0_27 p1 p2 p3 p4 p5 p6 z0 z1 z2 z3 z4 b256 b294) [(.ref b294)])) rfl (by rw [hml]; rfl) (Steps.refl _) (argsL := []) (rest := []) (lenOf pd_5 rfl) rfl (by show 2 * 0 + _ ≤ _; exact Nat.le_of_eq rfl) (hb hby at_170) (fun _ _ => ⟨rfl, e294, (by decide : 5 + 0 ≤ _), (by decide : 21 + 0 ≤ _)⟩)
    dsimp only [Pt.U, Pt.locs, Pt.cells, Pt.slots] at X295 l295 y295 z295 st295 hQ295
    subst l295 y295 z295
    obtain ⟨rfl, N295q, e295⟩ := hQ295
    have N295 := Fr.app N294 N295q
    obtain ⟨cq296, kq296, q296a, q296b, q296c⟩ := isOf hZ e295 E_b294
    obtain ⟨_, _, ⟨T296, L296, k296, n296⟩, -, X296, ⟨Lc296, hQ296, l296, y296, z296⟩, st296⟩ := X295.virtualBack hx (y := mn7) (z := mn7) hown (mvT hZ (ww hw 57 rfl)) (mvT hZ (ww hw 58 rfl)) (notFace_of_selects (args := #[]) (mvT hZ (ww hw 60 rfl))) (mvT hZ (ww hw 60 rfl)) (mvT hZ (ww hw 59 rfl)) (by decide) (backOf (W := 0) (rm9_5_0 l Z a0 hw [] b294 B294 k294 z0 z1 z2 z3 z4 h294 n0 Z0 F_numbers_b294 V_B294) hZ (ww hw 61 rfl) (ww hw 33 rfl) (by decide) (by decide)) q296a q296c (g := (mkF m 198 (lo0_28 p1 p2 p3 p4 p5 p6 z0 z1 z2 z3 z4 b256 b294) [(.int (0 : Int32)), (.ref b294)])) rfl (by rw [hml]; rfl) (Steps.refl _) (argsL := [(.int (0 : Int32))]) (rest := []) (lenOf pd_7 rfl) rfl (by show 2 * 0 + _ ≤ _; exact Nat.le_of_eq rfl) (hb hby at_198) (fun _ _ => ⟨rfl, e295, (by decide : 5 + 0 ≤ _), (by decide : 21 + 0 ≤ _)⟩)
    dsimp only [Pt.U, Pt.locs, Pt.cells, Pt.slots] at X296 l296 y296 z296 st296 hQ296
    subst l296 y296 z296
    obtain ⟨rfl, N296q, e296⟩ := hQ296
    have N296 := Fr.app N295 N296q
    obtain ⟨cq297, kq297, q297a, q297b, q297c⟩ := isOf hZ e296 E_b294
    obtain ⟨_, _, ⟨T297, L297, k297, n297⟩, -, X297, ⟨Lc297, hQ297, l297, y297, z297⟩, st297⟩ := X296.virtualBack hx (y := mn7) (z := mn7) hown (mvT hZ (ww hw 57 rfl)) (mvT hZ (ww hw 58 rfl)) (notFace_of_selects (args := #[]) (mvT hZ (ww hw 60 rfl))) (mvT hZ (ww hw 60 rfl)) (mvT hZ (ww hw 59 rfl)) (by decide) (backOf (W := 0) (rm9_5_1 l Z a0 hw [] b294 B294 k294 z0 z1 z2 z3 z4 h294 n0 Z0 F_numbers_b294 V_B294) hZ (ww hw 61 rfl) (ww hw 33 rfl) (by decide) (by decide)) q297a q297c (g := (mkF m 227 (lo0_28 p1 p2 p3 p4 p5 p6 z0 z1 z2 z3 z4 b256 b294) [(.int (1 : Int32)), (.ref b294)])) rfl (by rw [hml]; rfl) (Steps.refl _) (argsL := [(.int (1 : Int32))]) (rest := []) (lenOf pd_7 rfl) rfl (by show 2 * 0 + _ ≤ _; exact Nat.le_of_eq rfl) (hb hby at_227) (fun _ _ => ⟨rfl, e296, (by decide : 5 + 0 ≤ _), (by decide : 21 + 0 ≤ _)⟩)
    dsimp only [Pt.U, Pt.locs, Pt.cells, Pt.slots] at X297 l297 y297 z297 st297 hQ297
    subst l297 y297 z297
    obtain ⟨rfl, N297q, e297⟩ := hQ297
    have N297 := Fr.app N296 N297q
    obtain ⟨cq298, kq298, q298a, q298b, q298c⟩ := isOf hZ e297 E_b294
    obtain ⟨_, _, ⟨T298, L298, k298, n298⟩, -, X298, ⟨Lc298, hQ298, l298, y298, z298⟩, st298⟩ := X297.virtualBack hx (y := mn7) (z := mn7) hown (mvT hZ (ww hw 57 rfl)) (mvT hZ (ww hw 58 rfl)) (notFace_of_selects (args := #[]) (mvT hZ (ww hw 60 rfl))) (mvT hZ (ww hw 60 rfl)) (mvT hZ (ww hw 59 rfl)) (by decide) (backOf (W := 0) (rm9_5_2 l Z a0 hw [] b294 B294 k294 z0 z1 z2 z3 z4 h294 n0 Z0 F_numbers_b294 V_B294) hZ (ww hw 61 rfl) (ww hw 33 rfl) (by decide) (by decide)) q298a q298c (g := (mkF m 256 (lo0_28 p1 p2 p3 p4 p5 p6 z0 z1 z2 z3 z4 b256 b294) [(.int (2 : Int32)), (.ref b294)])) rfl (by rw [hml]; rfl) (Steps.refl _) (argsL := [(.int (2 : Int32))]) (rest := []) (lenOf pd_7 rfl) rfl (by show 2 * 0 + _ ≤ _; exact Nat.le_of_eq rfl) (hb hby at_256) (fun _ _ => ⟨rfl, e297, (by decide : 5 + 0 ≤ _), (by decide : 21 + 0 ≤ _)⟩)
    dsimp only [Pt.U, Pt.locs, Pt.cells, Pt.slots] at X298 l298 y298 z298 st298 hQ298
    subst l298 y298 z298
    obtain ⟨rfl, N298q, e298⟩ := hQ298
    have N298 := Fr.app N297 N298q
    obtain ⟨cq299, kq299, q299a, q299b, q299c⟩ := isOf hZ e298 E_b294
    obtain ⟨_, _, ⟨T299, L299, k299, n299⟩, -, X299, ⟨Lc299, hQ299, l299, y299, z299⟩, st299⟩ := X298.virtualBack hx (y := mn7) (z := mn7) hown (mvT hZ (ww hw 57 rfl)) (mvT hZ (ww hw 58 rfl)) (notFace_of_selects (args := #[]) (mvT hZ (ww hw 60 rfl))) (mvT hZ (ww hw 60 rfl)) (mvT hZ (ww hw 59 rfl)) (by decide) (backOf (W := 0) (rm9_5_3 l Z a0 hw [] b294 B294 k294 z0 z1 z2 z3 z4 h294 n0 Z0 F_numbers_b294 V_B294) hZ (ww hw 61 rfl) (ww hw 33 rfl) (by decide) (by decide)) q299a q299c (g := (mkF m 285 (lo0_28 p1 p2 p3 p4 p5 p6 z0 z1 z2 z3 z4 b256 b294) [(.int (3 : Int32)), (.ref b294)])) rfl (by rw [hml]; rfl) (Steps.refl _) (argsL := [(.int (3 : Int32))]) (rest := []) (lenOf pd_7 rfl) rfl (by show 2 * 0 + _ ≤ _; exact Nat.le_of_eq rfl) (hb hby at_285) (fun _ _ => ⟨rfl, e298, (by decide : 5 + 0 ≤ _), (by decide : 21 + 0 ≤ _)⟩)
    dsimp only [Pt.U, Pt.locs, Pt.cells, Pt.slots] at X299 l299 y299 z299 st299 hQ299
    subst l299 y299 z299
    obtain ⟨rfl, N299q, e299⟩ := hQ299
    have N299 := Fr.app N298 N299q
    obtain ⟨cq300, kq300, q300a, q300b, q300c⟩ := isOf hZ e299 E_b294
    obtain ⟨_, _, ⟨T300, L300, k300, n300⟩, -, X300, ⟨Lc300, hQ300, l300, y300, z300⟩, st300⟩ := X299.virtualBack hx (y := mn7) (z := mn7) hown (mvT hZ (ww hw 57 rfl)) (mvT hZ (ww hw 58 rfl)) (notFace_of_selects (args := #[]) (mvT hZ (ww hw 60 rfl))) (mvT hZ (ww hw 60 rfl)) (mvT hZ (ww hw 59 rfl)) (by decide) (backOf (W := 0) (rm9_5_4 l Z a0 hw [] b294 B294 k294 z0 z1 z2 z3 z4 h294 n0 Z0 F_numbers_b294 V_B294) hZ (ww hw 61 rfl) (ww hw 33 rfl) (by decide) (by decide)) q300a q300c (g := (mkF m 314 (lo0_28 p1 p2 p3 p4 p5 p6 z0 z1 z2 z3 z4 b256 b294) [(.int (4 : Int32)), (.ref b294)])) rfl (by rw [hml]; rfl) (Steps.refl _) (argsL := [(.int (4 : Int32))]) (rest := []) (lenOf pd_7 rfl) rfl (by show 2 * 0 + _ ≤ _; exact Nat.le_of_eq rfl) (hb hby at_314) (fun _ _ => ⟨rfl, e299, (by decide : 5 + 0 ≤ _), (by decide : 21 + 0 ≤ _)⟩)
    dsimp only [Pt.U, Pt.locs, Pt.cells, Pt.slots] at X300 l300 y300 z300 st300 hQ300
    subst l300 y300 z300
    obtain ⟨rfl, N300q, e300⟩ := hQ300
    have N300 := Fr.app N299 N300q
    obtain ⟨fs, hr, hrun, hended, hW, hsame⟩ := X300.leave (v := some (.int (1 : Int32))) (fun h => by rw [Bd.returns] at h; cases h)
    refine ⟨_, _, pre258 _ ?_, hrun, hended, _, _, rfl, ?_, ⟨_, rfl⟩, hW, hsame.mono (by decide) (by decide)⟩
    · refine y_iload X257.here hx (hb hby at_80) rfl ?_
      refine y_ifNo X257.here hx (hb hby at_82) ((if0 _ _).trans (tlt (by decide)).2.2.2) ?_
      refine y_aload X257.here hx (hb hby at_85) rfl rfl ?_
      refine y_iload X257.here hx (hb hby at_87) rfl ?_
      refine st289.trans ?_
      show Steps p.tables e below (T289.setTop (mkF m 92 (lo0_26 p1 p2 p3 p4 p5 p6 z0 z1 z2 z3 z4 b256) [(.ref b256)])) _
      refine y_astore X289.here hx (hb hby at_92) rfl (l' := (lo0_26 p1 p2 p3 p4 p5 p6 z0 z1 z2 z3 z4 b256)) rfl ?_
      refine y_iload X289.here hx (hb hby at_94) rfl ?_
      refine y_iconst X289.here hx (v := (1 : Int32)) (hb hby at_96) rfl ?_
      refine y_icmpNo X289.here hx (hb hby at_97) (tlt (by decide)).2.2.2 ?_
      refine y_aload X289.here hx (hb hby at_100) rfl rfl ?_
      refine y_iload X289.here hx (hb hby at_102) rfl ?_
      refine st290.trans ?_
      show Steps p.tables e below (T290.setTop (mkF m 107 (lo0_26 p1 p2 p3 p4 p5 p6 z0 z1 z2 z3 z4 b256) [(.ref b256)])) _
      refine y_astore X290.here hx (hb hby at_107) rfl (l' := (lo0_26 p1 p2 p3 p4 p5 p6 z0 z1 z2 z3 z4 b256)) rfl ?_
      refine y_iload X290.here hx (hb hby at_109) rfl ?_
      refine y_iconst X290.here hx (v := (2 : Int32)) (hb hby at_111) rfl ?_
      refine y_icmpNo X290.here hx (hb hby at_112) (tlt (by decide)).2.2.2 ?_
      refine y_aload X290.here hx (hb hby at_115) rfl rfl ?_
      refine y_iload X290.here hx (hb hby at_117) rfl ?_
      refine st291.trans ?_
      show Steps p.tables e below (T291.setTop (mkF m 122 (lo0_26 p1 p2 p3 p4 p5 p6 z0 z1 z2 z3 z4 b256) [(.ref b256)])) _
      refine y_astore X291.here hx (hb hby at_122) rfl (l' := (lo0_26 p1 p2 p3 p4 p5 p6 z0 z1 z2 z3 z4 b256)) rfl ?_
      refine y_iload X291.here hx (hb hby at_124) rfl ?_
      refine y_iconst X291.here hx (v := (3 : Int32)) (hb hby at_126) rfl ?_
      refine y_icmpNo X291.here hx (hb hby at_127) (tlt (by decide)).2.2.2 ?_
      refine y_aload X291.here hx (hb hby at_130) rfl rfl ?_
      refine y_iload X291.here hx (hb hby at_132) rfl ?_
      refine st292.trans ?_
      show Steps p.tables e below (T292.setTop (mkF m 137 (lo0_26 p1 p2 p3 p4 p5 p6 z0 z1 z2 z3 z4 b256) [(.ref b256)])) _
      refine y_astore X292.here hx (hb hby at_137) rfl (l' := (lo0_26 p1 p2 p3 p4 p5 p6 z0 z1 z2 z3 z4 b256)) rfl ?_
      refine y_iload X292.here hx (hb hby at_139) rfl ?_
      refine y_iconst X292.here hx (v := (4 : Int32)) (hb hby at_141) rfl ?_
      refine y_icmpNo X292.here hx (hb hby at_142) (tlt (by decide)).2.2.2 ?_
      refine y_aload X292.here hx (hb hby at_145) rfl rfl ?_
      refine y_iload X292.here hx (hb hby at_147) rfl ?_
      refine st293.trans ?_
      show Steps p.tables e below (T293.setTop (mkF m 152 (lo0_26 p1 p2 p3 p4 p5 p6 z0 z1 z2 z3 z4 b256) [(.ref b256)])) _
      refine y_astore X293.here hx (hb hby at_152) rfl (l' := (lo0_26 p1 p2 p3 p4 p5 p6 z0 z1 z2 z3 z4 b256)) rfl ?_
      refine y_aload X293.here hx (hb hby at_154) rfl rfl ?_
      refine st294.trans ?_
      show Steps p.tables e below (T294.setTop (mkF m 159 (lo0_26 p1 p2 p3 p4 p5 p6 z0 z1 z2 z3 z4 b256) [(.ref b294)])) _
      refine y_astore X294.here hx (hb hby at_159) rfl (l' := (lo0_27 p1 p2 p3 p4 p5 p6 z0 z1 z2 z3 z4 b256 b294)) rfl ?_
      refine y_aload X294.here hx (hb hby at_161) rfl rfl ?_
      refine y_aload X294.here hx (hb hby at_163) rfl rfl ?_
      show Steps p.tables e below (T294.setTop (mkF m 165 (lo0_27 p1 p2 p3 p4 p5 p6 z0 z1 z2 z3 z4 b256 b294) [(.ref b256), (.ref b256)])) _
      refine Jvm.RoadKit.acmp (g := (mkF m 165 (lo0_27 p1 p2 p3 p4 p5 p6 z0 z1 z2 z3 z4 b256 b294) [(.ref b256), (.ref b256)])) X294 hx rfl rfl rfl (pc0 := 165) (pc' := 168) (same := true) rfl (hb hby at_165) rfl (decide_eq_true (congrArg Value.ref rfl)) (by decide) (by decide) ?_
      show Steps p.tables e below (T294.setTop (mkF m 168 (lo0_27 p1 p2 p3 p4 p5 p6 z0 z1 z2 z3 z4 b256 b294) [])) _
      refine y_aload X294.here hx (hb hby at_168) rfl rfl ?_
      refine st295.trans ?_
      show Steps p.tables e below (T295.setTop (mkF m 173 (lo0_27 p1 p2 p3 p4 p5 p6 z0 z1 z2 z3 z4 b256 b294) [(.int (5 : Int32))])) _
      refine y_iload X295.here hx (hb hby at_173) rfl ?_
      refine y_icmpNo X295.here hx (hb hby at_175) (teq rfl).2 ?_
      refine y_iconst X295.here hx (v := (1 : Int32)) (hb hby at_178) rfl ?_
      refine y_goto X295.here hx (pc' := 183) (hb hby at_179) (by decide) (by decide) ?_
      refine y_istore X295.here hx (hb hby at_183) (l' := (lo0_28 p1 p2 p3 p4 p5 p6 z0 z1 z2 z3 z4 b256 b294)) rfl ?_
      refine y_iload X295.here hx (hb hby at_185) rfl ?_
      refine y_ifNo X295.here hx (hb hby at_187) ((if0 _ _).trans (feq (by decide)).1) ?_
      refine y_iload X295.here hx (hb hby at_190) rfl ?_
      refine y_ifNo X295.here hx (hb hby at_192) ((if0 _ _).trans (tlt (by decide)).2.2.2) ?_
      refine y_aload X295.here hx (hb hby at_195) rfl rfl ?_
      refine y_iconst X295.here hx (v := (0 : Int32)) (hb hby at_197) rfl ?_
      refine st296.trans ?_
      show Steps p.tables e below (T296.setTop (mkF m 201 (lo0_28 p1 p2 p3 p4 p5 p6 z0 z1 z2 z3 z4 b256 b294) [(.int z0)])) _
      refine y_iload X296.here hx (hb hby at_201) rfl ?_
      refine y_icmpNo X296.here hx (hb hby at_203) (teq rfl).2 ?_
      refine y_iconst X296.here hx (v := (1 : Int32)) (hb hby at_206) rfl ?_
      refine y_goto X296.here hx (pc' := 211) (hb hby at_207) (by decide) (by decide) ?_
      refine y_istore X296.here hx (hb hby at_211) (l' := (lo0_28 p1 p2 p3 p4 p5 p6 z0 z1 z2 z3 z4 b256 b294)) rfl ?_
      refine y_iload X296.here hx (hb hby at_213) rfl ?_
      refine y_ifNo X296.here hx (hb hby at_215) ((if0 _ _).trans (feq (by decide)).1) ?_
      refine y_iload X296.here hx (hb hby at_218) rfl ?_
      refine y_iconst X296.here hx (v := (1 : Int32)) (hb hby at_220) rfl ?_
      refine y_icmpNo X296.here hx (hb hby at_221) (tlt (by decide)).2.2.2 ?_
      refine y_aload X296.here hx (hb hby at_224) rfl rfl ?_
      refine y_iconst X296.here hx (v := (1 : Int32)) (hb hby at_226) rfl ?_
      refine st297.trans ?_
      show Steps p.tables e below (T297.setTop (mkF m 230 (lo0_28 p1 p2 p3 p4 p5 p6 z0 z1 z2 z3 z4 b256 b294) [(.int z1)])) _
      refine y_iload X297.here hx (hb hby at_230) rfl ?_
      refine y_icmpNo X297.here hx (hb hby at_232) (teq rfl).2 ?_
      refine y_iconst X297.here hx (v := (1 : Int32)) (hb hby at_235) rfl ?_
      refine y_goto X297.here hx (pc' := 240) (hb hby at_236) (by decide) (by decide) ?_
      refine y_istore X297.here hx (hb hby at_240) (l' := (lo0_28 p1 p2 p3 p4 p5 p6 z0 z1 z2 z3 z4 b256 b294)) rfl ?_
      refine y_iload X297.here hx (hb hby at_242) rfl ?_
      refine y_ifNo X297.here hx (hb hby at_244) ((if0 _ _).trans (feq (by decide)).1) ?_
      refine y_iload X297.here hx (hb hby at_247) rfl ?_
      refine y_iconst X297.here hx (v := (2 : Int32)) (hb hby at_249) rfl ?_
      refine y_icmpNo X297.here hx (hb hby at_250) (tlt (by decide)).2.2.2 ?_
      refine y_aload X297.here hx (hb hby at_253) rfl rfl ?_
      refine y_iconst X297.here hx (v := (2 : Int32)) (hb hby at_255) rfl ?_
      refine st298.trans ?_
      show Steps p.tables e below (T298.setTop (mkF m 259 (lo0_28 p1 p2 p3 p4 p5 p6 z0 z1 z2 z3 z4 b256 b294) [(.int z2)])) _
      refine y_iload X298.here hx (hb hby at_259) rfl ?_
      refine y_icmpNo X298.here hx (hb hby at_261) (teq rfl).2 ?_
      refine y_iconst X298.here hx (v := (1 : Int32)) (hb hby at_264) rfl ?_
      refine y_goto X298.here hx (pc' := 269) (hb hby at_265) (by decide) (by decide) ?_
      refine y_istore X298.here hx (hb hby at_269) (l' := (lo0_28 p1 p2 p3 p4 p5 p6 z0 z1 z2 z3 z4 b256 b294)) rfl ?_
      refine y_iload X298.here hx (hb hby at_271) rfl ?_
      refine y_ifNo X298.here hx (hb hby at_273) ((if0 _ _).trans (feq (by decide)).1) ?_
      refine y_iload X298.here hx (hb hby at_276) rfl ?_
      refine y_iconst X298.here hx (v := (3 : Int32)) (hb hby at_278) rfl ?_
      refine y_icmpNo X298.here hx (hb hby at_279) (tlt (by decide)).2.2.2 ?_
      refine y_aload X298.here hx (hb hby at_282) rfl rfl ?_
      refine y_iconst X298.here hx (v := (3 : Int32)) (hb hby at_284) rfl ?_
      refine st299.trans ?_
      show Steps p.tables e below (T299.setTop (mkF m 288 (lo0_28 p1 p2 p3 p4 p5 p6 z0 z1 z2 z3 z4 b256 b294) [(.int z3)])) _
      refine y_iload X299.here hx (hb hby at_288) rfl ?_
      refine y_icmpNo X299.here hx (hb hby at_290) (teq rfl).2 ?_
      refine y_iconst X299.here hx (v := (1 : Int32)) (hb hby at_293) rfl ?_
      refine y_goto X299.here hx (pc' := 298) (hb hby at_294) (by decide) (by decide) ?_
      refine y_istore X299.here hx (hb hby at_298) (l' := (lo0_28 p1 p2 p3 p4 p5 p6 z0 z1 z2 z3 z4 b256 b294)) rfl ?_
      refine y_iload X299.here hx (hb hby at_300) rfl ?_
      refine y_ifNo X299.here hx (hb hby at_302) ((if0 _ _).trans (feq (by decide)).1) ?_
      refine y_iload X299.here hx (hb hby at_305) rfl ?_
      refine y_iconst X299.here hx (v := (4 : Int32)) (hb hby at_307) rfl ?_
      refine y_icmpNo X299.here hx (hb hby at_308) (tlt (by decide)).2.2.2 ?_
      refine y_aload X299.here hx (hb hby at_311) rfl rfl ?_
      refine y_iconst X299.here hx (v := (4 : Int32)) (hb hby at_313) rfl ?_
      refine st300.trans ?_
      show Steps p.tables e below (T300.setTop (mkF m 317 (lo0_28 p1 p2 p3 p4 p5 p6 z0 z1 z2 z3 z4 b256 b294) [(.int z4)])) _
      refine y_iload X300.here hx (hb hby at_317) rfl ?_
      refine y_icmpNo X300.here hx (hb hby at_319) (teq rfl).2 ?_
      refine y_iconst X300.here hx (v := (1 : Int32)) (hb hby at_322) rfl ?_
      refine y_goto X300.here hx (pc' := 327) (hb hby at_323) (by decide) (by decide) ?_
      refine y_istore X300.here hx (hb hby at_327) (l' := (lo0_28 p1 p2 p3 p4 p5 p6 z0 z1 z2 z3 z4 b256 b294)) rfl ?_
      refine y_iload X300.here hx (hb hby at_329) rfl ?_
      exact retN X300 hx (t := .boolean) Bd.returns (by simp) (hb hby at_331) hr
    · exact ⟨rfl, N300⟩
set_option maxRecDepth 65536 in
set_option maxHeartbeats 40000000 in
theorem comes_1 {Post : Tables → Env → Array Value → State → Outcome → State → Prop} (hpost : ∀ tb e args s v u, (limb_1_1.after args s (.returned v) u = true ∧ limb_1_2.after args s (.returned v) u = true ∧ True) → FrameEnd s (.returned v) u (Jvm.fieldLocs frame_1_writes args s ++ Jvm.arrayLocs frame_1_arrays args s ++ Jvm.staticLocs frame_1_statics s) 24 128 → Post tb e args s (.returned v) u) :
    ArmFor flags0 classFile x code maxLocals ret World_1 tables_1 room_1 Calls_1 rest_1 Pre_1 Post := by
  intro l hfl _ _ p e ha hc hk s m args below hf hA hF happ hP
  obtain ⟨hcalls, hrest, hpre⟩ := hP
  obtain ⟨-, -, -, hnamed, -, -, -, hat⟩ := (Spec.applies_iff hf).mp happ
  obtain ⟨hg, hn⟩ := and_e (Cond.before_iff.mp (show (Jvm.Cond.and given_1 narrow_1).before args s = true from hpre))
  obtain ⟨gc, gr0⟩ := and_e hg
  obtain ⟨g0, gr1⟩ := and_e gr0
  obtain ⟨g1, gr2⟩ := and_e gr1
  obtain ⟨g2, gr3⟩ := and_e gr2
  obtain ⟨g3, gr4⟩ := and_e gr3
  obtain ⟨g4, gr5⟩ := and_e gr4
  obtain ⟨w0, w1, w2, w3, w4, w5, rfl⟩ : ∃ w0 w1 w2 w3 w4 w5 : Value, args = #[w0, w1, w2, w3, w4, w5] := by
    have hs : args.size = 6 := by simpa [Cond.value, given_1] using gc
    obtain ⟨L⟩ := args
    match L, hs with
    | [w0, w1, w2, w3, w4, w5], _ => exact ⟨w0, w1, w2, w3, w4, w5, rfl⟩
  have hw := fun d (hd : d ∈ tables_1) => atoms_spec (ws := Jvm.Cond.code x code maxLocals ret :: tables_1) hat d (List.mem_cons_of_mem _ hd)
  have hfit : Fit s := fun {y c} hc i hi => by
    obtain ⟨ha, rfl⟩ := Array.getElem?_eq_some_iff.mp hc
    have q := List.all_eq_true.mp ((Array.all_eq_true_iff_forall_mem.mp hF) _ (Array.getElem_mem ha)) i (List.mem_range.mpr hi)
    simpa [Array.getElem?_eq_getElem hi] using q
  obtain ⟨i0, ei0⟩ := is_v g0
  obtain rfl : w0 = (.int i0) := Option.some.inj ei0
  obtain ⟨i1, ei1⟩ := is_v g1
  obtain rfl : w1 = (.int i1) := Option.some.inj ei1
  obtain ⟨i2, ei2⟩ := is_v g2
  obtain rfl : w2 = (.int i2) := Option.some.inj ei2
  obtain ⟨i3, ei3⟩ := is_v g3
  obtain rfl : w3 = (.int i3) := Option.some.inj ei3
  obtain ⟨i4, ei4⟩ := is_v g4
  obtain rfl : w4 = (.int i4) := Option.some.inj ei4
  obtain ⟨i5, ei5⟩ := is_v gr5
  obtain rfl : w5 = (.int i5) := Option.some.inj ei5
  obtain ⟨n, o, h1, h2, h3, _, L, rfl, ⟨rfl, N⟩, hq⟩ := rm0 l s _ hw tables_1 i0 i1 i2 i3 i4 i5 s.heap s.heap.size (Nat.le_refl _)  p e ha hc hk s m _ below hf ((Spec.applies_iff_loose hf).mp happ).1 ⟨rfl, State.Warmed39.refl s, rfl⟩ trivial
  refine ⟨n, _, h1, h2, h3, hpost _ _ _ _ _ _ ⟨Cond.after_iff.mpr rfl, Cond.after_iff.mpr (eq_i res_at (Term.int_eval (1)) rfl), trivial⟩ ⟨hq.1, hq.2.1, (hq.2.2.sift fun y hy => Or.inr (N y hy)).mono (by decide) (by decide)⟩⟩
theorem main_1_1 : Claimed_1_1 := comes_1 fun _ _ _ _ _ _ h hF => ⟨h.1, hF⟩
theorem main_1_2 : Claimed_1_2 := comes_1 fun _ _ _ _ _ _ h hF => ⟨h.2.1, hF⟩
end Jvm.Pilot.@@N@@
namespace Jvm.Pilot.@@N@@
open Jvm Jvm.ClassFile Sem Op Lib Jvm.Free Jvm.Stand Jvm.Pilot.@@N@@.Jvm.D
/-! MADE BY PROGRAM (witnessworld.py) out of the Statement's table words and the real class files: 13 classes; the members and pool entries that the words name. The judged class is class 1, her method 1. -/
namespace start1
open Jvm.ClassFile
def u (s : String) : CpInfo := .utf8 (stringToUtf16 s)
/-- a pool by its gaps: so many unusable entries, then the entry; so many at the end -/
def gap : Nat → List CpInfo → List CpInfo
  | 0, r => r
  | n + 1, r => .unusable :: gap n r
def poolList (es : List (Nat × CpInfo)) (last : Nat) : List CpInfo := es.foldr (fun e r => gap e.1 (e.2 :: r)) (gap last [])
def pool (es : List (Nat × CpInfo)) (last : Nat) : Array CpInfo := ⟨poolList es last⟩
def fileOf (pool : Array CpInfo) (this : Nat) (attrs : Array Attribute := #[]) (ms : Array MethodInfo := #[]) (fl : Nat := 33) (sup : Nat := 0) (ifs : Array Nat := #[]) (fds : Array FieldInfo := #[]) : ClassFile where
  minorVersion := 0
  majorVersion := 65
  constantPool := pool
  accessFlags := fl
  thisClass := this
  superClass := sup
  interfaces := ifs
  fields := fds
  methods := ms
  attributes := attrs
def plain (name : String) (sup : Option ClassId) : Class where
  name := name
  kind := .ordinary
  loader := none
  accessFlags := 33
  super := sup
  interfaces := #[]
  cf := none
  fields := #[]
  methods := #[]
  instanceTypes := #[]
  staticTypes := #[]
  resolved := #[]
  callSites := []
  init := .initialized
  statics := none
  mirror := none

def pool0 : Array CpInfo := pool [(5, u "<init>"), (0, u "()V"), (1, .class_ 10), (1, u "java/lang/Object"), (85, u "clone"), (0, u "()Ljava/lang/Object;")] 26

def k0c0 : Code := { maxStack := 0, maxLocals := 1, code := object_method_1_code, exceptionTable := #[], attributes := #[] }
def k0m0 : Method := { name := "<init>", desc := "()V", sig := { parameters := [], returnType := none }, accessFlags := 1, code := some k0c0 }
def k0m1 : Method := { name := "clone", desc := "()Ljava/lang/Object;", sig := { parameters := [], returnType := some (.object "java/lang/Object") }, accessFlags := 260, code := none }
/-- java/lang/Object -/
def k0 : Class := { plain "java/lang/Object" none with
  accessFlags := 33
  interfaces := #[]
  cf := some (fileOf pool0 8 #[] #[{ accessFlags := 1, nameIndex := 5, descriptorIndex := 6, attributes := #[] }, { accessFlags := 260, nameIndex := 96, descriptorIndex := 97, attributes := #[] }] 33 0 #[] #[])
  fields := #[]
  methods := #[k0m0, k0m1]
  instanceTypes := #[]
  staticTypes := #[]
  resolved := Array.replicate 124 none
  statics := none }

def pool1 : Array CpInfo := pool [(2, .class_ 4), (0, .nameAndType 5 6), (0, u "java/lang/Object"), (0, u "<init>"), (0, u "()V"), (0, .integer 2147483647), (2, .integer 2147221503), (0, .methodref 12 13), (0, .class_ 14), (0, .nameAndType 15 16), (0, u "java/lang/Math"), (0, u "min"), (0, u "(II)I"), (0, .integer 65535), (0, .class_ 19), (0, u "com/example/hard_delay_bounds/harddelaybounds/analysis/FlowSet$Builder"), (0, .methodref 18 3), (0, .methodref 18 22), (0, .nameAndType 23 24), (0, u "add"), (0, u "(I)Lcom/example/hard_delay_bounds/harddelaybounds/analysis/FlowSet$Builder;"), (0, .methodref 18 26), (0, .nameAndType 27 28), (0, u "build"), (0, u "()Lcom/example/hard_delay_bounds/harddelaybounds/analysis/FlowSet;"), (0, .methodref 30 31), (0, .class_ 32), (0, .nameAndType 33 34), (0, u "com/example/hard_delay_bounds/harddelaybounds/analysis/FlowSet"), (0, u "size"), (0, u "()I"), (0, .methodref 30 36), (0, .nameAndType 37 38), (0, u "number"), (0, u "(I)I"), (0, .class_ 40), (0, u "com/example/hard_delay_bounds/harddelaybounds/analysis/BuilderAddPinLaw"), (2, u "law"), (0, u "(IIIIII)Z")] 5

def k1m0 : Method := { name := "<init>", desc := "()V", sig := { parameters := [], returnType := none }, accessFlags := 1, code := none }
def k1c1 : Code := { maxStack := 3, maxLocals := 17, code := code, exceptionTable := #[], attributes := #[] }
def k1m1 : Method := { name := "law", desc := "(IIIIII)Z", sig := { parameters := [.int, .int, .int, .int, .int, .int], returnType := some .boolean }, accessFlags := 9, code := some k1c1 }
/-- com/example/hard_delay_bounds/harddelaybounds/analysis/BuilderAddPinLaw -/
def k1 : Class := { plain "com/example/hard_delay_bounds/harddelaybounds/analysis/BuilderAddPinLaw" (some 0) with
  accessFlags := 49
  interfaces := #[]
  cf := some (fileOf pool1 39 #[] #[{ accessFlags := 1, nameIndex := 5, descriptorIndex := 6, attributes := #[] }, { accessFlags := 9, nameIndex := 43, descriptorIndex := 44, attributes := #[] }] 49 2 #[] #[])
  fields := #[]
  methods := #[k1m0, k1m1]
  instanceTypes := #[]
  staticTypes := #[]
  resolved := Array.replicate 50 none
  statics := none }

def pool2 : Array CpInfo := pool [(1, .class_ 2), (0, u "java/lang/Math"), (1, .class_ 6), (1, u "java/lang/Object"), (0, u "<init>"), (0, u "()V"), (89, .class_ 100), (1, u "java/lang/Math$RandomNumberGeneratorHolder"), (71, u "negativeZeroFloatBits"), (0, u "J"), (2, u "negativeZeroDoubleBits"), (24, u "min"), (43, u "$assertionsDisabled"), (0, u "Z"), (88, u "(II)I"), (2, u "twoToTheDoubleScaleDown"), (0, u "D"), (4, u "twoToTheDoubleScaleUp"), (9, u "E"), (3, u "PI"), (2, u "TAU"), (2, u "DEGREES_TO_RADIANS"), (0, u "RADIANS_TO_DEGREES")] 94

def k2m0 : Method := { name := "<init>", desc := "()V", sig := { parameters := [], returnType := none }, accessFlags := 2, code := none }
def k2c1 : Code := { maxStack := 2, maxLocals := 2, code := jdk_29_method_69_code, exceptionTable := #[], attributes := #[] }
def k2m1 : Method := { name := "min", desc := "(II)I", sig := { parameters := [.int, .int], returnType := some .int }, accessFlags := 9, code := some k2c1 }
/-- java/lang/Math -/
def k2 : Class := { plain "java/lang/Math" (some 0) with
  accessFlags := 49
  interfaces := #[]
  cf := some (fileOf pool2 1 #[.nestMembers #[98]] #[{ accessFlags := 2, nameIndex := 7, descriptorIndex := 8, attributes := #[] }, { accessFlags := 9, nameIndex := 201, descriptorIndex := 335, attributes := #[] }] 49 4 #[] #[{ accessFlags := 25, nameIndex := 354, descriptorIndex := 339, attributes := #[] }, { accessFlags := 25, nameIndex := 358, descriptorIndex := 339, attributes := #[] }, { accessFlags := 25, nameIndex := 361, descriptorIndex := 339, attributes := #[] }, { accessFlags := 26, nameIndex := 364, descriptorIndex := 339, attributes := #[] }, { accessFlags := 26, nameIndex := 365, descriptorIndex := 339, attributes := #[] }, { accessFlags := 26, nameIndex := 172, descriptorIndex := 173, attributes := #[] }, { accessFlags := 26, nameIndex := 176, descriptorIndex := 173, attributes := #[] }, { accessFlags := 8, nameIndex := 344, descriptorIndex := 339, attributes := #[] }, { accessFlags := 8, nameIndex := 338, descriptorIndex := 339, attributes := #[] }, { accessFlags := 4120, nameIndex := 245, descriptorIndex := 246, attributes := #[] }])
  fields := #[{ name := "E", type := .double, accessFlags := 25, slot := 0, constantValue := 0 }, { name := "PI", type := .double, accessFlags := 25, slot := 1, constantValue := 0 }, { name := "TAU", type := .double, accessFlags := 25, slot := 2, constantValue := 0 }, { name := "DEGREES_TO_RADIANS", type := .double, accessFlags := 26, slot := 3, constantValue := 0 }, { name := "RADIANS_TO_DEGREES", type := .double, accessFlags := 26, slot := 4, constantValue := 0 }, { name := "negativeZeroFloatBits", type := .long, accessFlags := 26, slot := 5, constantValue := 0 }, { name := "negativeZeroDoubleBits", type := .long, accessFlags := 26, slot := 6, constantValue := 0 }, { name := "twoToTheDoubleScaleUp", type := .double, accessFlags := 8, slot := 7, constantValue := 0 }, { name := "twoToTheDoubleScaleDown", type := .double, accessFlags := 8, slot := 8, constantValue := 0 }, { name := "$assertionsDisabled", type := .boolean, accessFlags := 4120, slot := 9, constantValue := 0 }]
  methods := #[k2m0, k2m1]
  instanceTypes := #[]
  staticTypes := #[.double, .double, .double, .double, .double, .long, .long, .double, .double, .boolean]
  resolved := Array.replicate 460 none
  statics := none }

def pool3 : Array CpInfo := pool [(1, .methodref 2 3), (0, .class_ 4), (0, .nameAndType 5 6), (0, u "java/lang/Object"), (0, u "<init>"), (0, u "()V"), (0, .fieldref 8 9), (0, .class_ 10), (0, .nameAndType 11 12), (0, u "com/example/hard_delay_bounds/harddelaybounds/analysis/FlowSet$Builder"), (0, u "numbers"), (0, u "[I"), (0, .fieldref 8 14), (0, .nameAndType 15 16), (0, u "size"), (0, u "I"), (7, .methodref 25 26), (0, .class_ 27), (0, .nameAndType 28 29), (0, u "java/util/Arrays"), (0, u "copyOf"), (0, u "([II)[I"), (0, .class_ 31), (0, u "com/example/hard_delay_bounds/harddelaybounds/analysis/FlowSet"), (0, .methodref 30 33), (0, .nameAndType 5 34), (0, u "([I)V"), (2, u "add"), (0, u "(I)Lcom/example/hard_delay_bounds/harddelaybounds/analysis/FlowSet$Builder;"), (1, u "build"), (0, u "()Lcom/example/hard_delay_bounds/harddelaybounds/analysis/FlowSet;")] 5

def k3c0 : Code := { maxStack := 2, maxLocals := 1, code := prog_19_method_1_code, exceptionTable := #[], attributes := #[] }
def k3m0 : Method := { name := "<init>", desc := "()V", sig := { parameters := [], returnType := none }, accessFlags := 0, code := some k3c0 }
def k3c1 : Code := { maxStack := 5, maxLocals := 2, code := prog_19_method_2_code, exceptionTable := #[], attributes := #[] }
def k3m1 : Method := { name := "add", desc := "(I)Lcom/example/hard_delay_bounds/harddelaybounds/analysis/FlowSet$Builder;", sig := { parameters := [.int], returnType := some (.object "com/example/hard_delay_bounds/harddelaybounds/analysis/FlowSet$Builder") }, accessFlags := 0, code := some k3c1 }
def k3c2 : Code := { maxStack := 4, maxLocals := 1, code := prog_19_method_3_code, exceptionTable := #[], attributes := #[] }
def k3m2 : Method := { name := "build", desc := "()Lcom/example/hard_delay_bounds/harddelaybounds/analysis/FlowSet;", sig := { parameters := [], returnType := some (.object "com/example/hard_delay_bounds/harddelaybounds/analysis/FlowSet") }, accessFlags := 0, code := some k3c2 }
/-- com/example/hard_delay_bounds/harddelaybounds/analysis/FlowSet$Builder -/
def k3 : Class := { plain "com/example/hard_delay_bounds/harddelaybounds/analysis/FlowSet$Builder" (some 0) with
  accessFlags := 48
  interfaces := #[]
  cf := some (fileOf pool3 8 #[.nestHost 30] #[{ accessFlags := 0, nameIndex := 5, descriptorIndex := 6, attributes := #[] }, { accessFlags := 0, nameIndex := 37, descriptorIndex := 38, attributes := #[] }, { accessFlags := 0, nameIndex := 40, descriptorIndex := 41, attributes := #[] }] 48 2 #[] #[{ accessFlags := 2, nameIndex := 11, descriptorIndex := 12, attributes := #[] }, { accessFlags := 2, nameIndex := 15, descriptorIndex := 16, attributes := #[] }])
  fields := #[{ name := "numbers", type := (.array .int), accessFlags := 2, slot := 0, constantValue := 0 }, { name := "size", type := .int, accessFlags := 2, slot := 1, constantValue := 0 }]
  methods := #[k3m0, k3m1, k3m2]
  instanceTypes := #[(.array .int), .int]
  staticTypes := #[]
  resolved := Array.replicate 47 none
  statics := none }

def pool4 : Array CpInfo := pool [(1, .methodref 2 3), (0, .class_ 4), (0, .nameAndType 5 6), (0, u "java/lang/Object"), (0, u "<init>"), (0, u "()V"), (0, .fieldref 8 9), (0, .class_ 10), (0, .nameAndType 11 12), (0, u "com/example/hard_delay_bounds/harddelaybounds/analysis/FlowSet"), (0, u "numbers"), (0, u "[I"), (0, .integer 2654435761), (0, .fieldref 8 15), (0, .nameAndType 16 17), (0, u "hash"), (0, u "I"), (9, u "(I)I"), (2, u "([I)V"), (12, u "size"), (0, u "()I"), (0, u "number"), (11, .class_ 58), (0, u "com/example/hard_delay_bounds/harddelaybounds/analysis/FlowSet$Builder")] 2

def k4c0 : Code := { maxStack := 3, maxLocals := 7, code := prog_18_method_1_code, exceptionTable := #[], attributes := #[] }
def k4m0 : Method := { name := "<init>", desc := "([I)V", sig := { parameters := [(.array .int)], returnType := none }, accessFlags := 2, code := some k4c0 }
def k4c1 : Code := { maxStack := 1, maxLocals := 1, code := prog_18_method_2_code, exceptionTable := #[], attributes := #[] }
def k4m1 : Method := { name := "size", desc := "()I", sig := { parameters := [], returnType := some .int }, accessFlags := 0, code := some k4c1 }
def k4c2 : Code := { maxStack := 2, maxLocals := 2, code := prog_18_method_3_code, exceptionTable := #[], attributes := #[] }
def k4m2 : Method := { name := "number", desc := "(I)I", sig := { parameters := [.int], returnType := some .int }, accessFlags := 0, code := some k4c2 }
/-- com/example/hard_delay_bounds/harddelaybounds/analysis/FlowSet -/
def k4 : Class := { plain "com/example/hard_delay_bounds/harddelaybounds/analysis/FlowSet" (some 0) with
  accessFlags := 48
  interfaces := #[]
  cf := some (fileOf pool4 8 #[.nestMembers #[57]] #[{ accessFlags := 2, nameIndex := 5, descriptorIndex := 30, attributes := #[] }, { accessFlags := 0, nameIndex := 43, descriptorIndex := 44, attributes := #[] }, { accessFlags := 0, nameIndex := 45, descriptorIndex := 27, attributes := #[] }] 48 2 #[] #[{ accessFlags := 18, nameIndex := 11, descriptorIndex := 12, attributes := #[] }, { accessFlags := 18, nameIndex := 16, descriptorIndex := 17, attributes := #[] }])
  fields := #[{ name := "numbers", type := (.array .int), accessFlags := 18, slot := 0, constantValue := 0 }, { name := "hash", type := .int, accessFlags := 18, slot := 1, constantValue := 0 }]
  methods := #[k4m0, k4m1, k4m2]
  instanceTypes := #[(.array .int), .int]
  staticTypes := #[]
  resolved := Array.replicate 61 none
  statics := none }

def pool5 : Array CpInfo := pool [(2, .class_ 4), (1, u "java/lang/Object"), (0, u "<init>"), (0, u "()V"), (7, .class_ 16), (1, u "java/util/Arrays"), (57, .class_ 76), (1, u "java/util/Arrays$NaturalOrder"), (32, u "()Ljava/lang/Object;"), (3, .class_ 115), (1, u "java/util/Arrays$LegacyMergeSort"), (1, u "Z"), (10, .nameAndType 129 109), (0, u "clone"), (20, .methodref 151 152), (0, .class_ 153), (0, .nameAndType 154 155), (0, u "java/lang/System"), (0, u "arraycopy"), (0, u "(Ljava/lang/Object;ILjava/lang/Object;II)V"), (146, u "copyOf"), (1, .methodref 305 306), (0, .class_ 307), (0, .nameAndType 308 309), (0, u "java/lang/Math"), (0, u "min"), (0, u "(II)I"), (6, .methodref 317 128), (0, .class_ 318), (0, u "[I"), (56, .class_ 376), (0, u "java/util/Arrays$ArrayList"), (68, u "$assertionsDisabled"), (269, u "MIN_ARRAY_SORT_GRAN"), (0, u "I"), (2, u "INSERTIONSORT_THRESHOLD"), (151, u "([II)[I"), (103, .class_ 976), (0, u "java/util/Arrays$ArrayItr")] 52

def k5m0 : Method := { name := "<init>", desc := "()V", sig := { parameters := [], returnType := none }, accessFlags := 2, code := none }
def k5c1 : Code := { maxStack := 6, maxLocals := 3, code := jdk_65_method_123_code, exceptionTable := #[], attributes := #[] }
def k5m1 : Method := { name := "copyOf", desc := "([II)[I", sig := { parameters := [(.array .int), .int], returnType := some (.array .int) }, accessFlags := 9, code := some k5c1 }
/-- java/util/Arrays -/
def k5 : Class := { plain "java/util/Arrays" (some 0) with
  accessFlags := 49
  interfaces := #[]
  cf := some (fileOf pool5 14 #[.nestMembers #[975, 375, 113, 74]] #[{ accessFlags := 2, nameIndex := 5, descriptorIndex := 6, attributes := #[] }, { accessFlags := 9, nameIndex := 302, descriptorIndex := 871, attributes := #[] }] 49 2 #[] #[{ accessFlags := 26, nameIndex := 715, descriptorIndex := 716, attributes := #[] }, { accessFlags := 26, nameIndex := 719, descriptorIndex := 716, attributes := #[] }, { accessFlags := 4120, nameIndex := 445, descriptorIndex := 117, attributes := #[] }])
  fields := #[{ name := "MIN_ARRAY_SORT_GRAN", type := .int, accessFlags := 26, slot := 0, constantValue := 0 }, { name := "INSERTIONSORT_THRESHOLD", type := .int, accessFlags := 26, slot := 1, constantValue := 0 }, { name := "$assertionsDisabled", type := .boolean, accessFlags := 4120, slot := 2, constantValue := 0 }]
  methods := #[k5m0, k5m1]
  instanceTypes := #[]
  staticTypes := #[.int, .int, .boolean]
  resolved := Array.replicate 1029 none
  statics := none }

def pool6 : Array CpInfo := pool [(2, .class_ 4), (1, u "java/lang/Object"), (0, u "<init>"), (0, u "()V"), (1, .class_ 10), (1, u "java/lang/System"), (0, u "allowSecurityManager"), (0, u "I"), (16, u "cons"), (0, u "Ljava/io/Console;"), (77, .class_ 110), (1, u "java/lang/System$CallersHolder"), (43, u "initialErrStream"), (0, u "Ljava/io/PrintStream;"), (19, u "security"), (0, u "Ljava/lang/SecurityManager;"), (31, .class_ 209), (0, u "java/lang/System$1"), (7, u "props"), (0, u "Ljava/util/Properties;"), (2, u "lineSeparator"), (0, u "Ljava/lang/String;"), (96, .class_ 321), (1, u "java/lang/System$LoggerFinder"), (5, .class_ 328), (0, u "java/lang/System$Logger"), (67, u "err"), (2, u "out"), (91, u "notSupportedJnuEncoding"), (15, u "in"), (17, u "initialIn"), (0, u "Ljava/io/InputStream;"), (35, u "bootLayer"), (0, u "Ljava/lang/ModuleLayer;"), (99, .class_ 664), (0, u "java/lang/System$2"), (9, u "NEVER"), (2, u "MAYBE"), (49, u "arraycopy"), (0, u "(Ljava/lang/Object;ILjava/lang/Object;II)V"), (72, .class_ 802), (0, u "java/lang/System$Logger$Level")] 31

def k6m0 : Method := { name := "<init>", desc := "()V", sig := { parameters := [], returnType := none }, accessFlags := 2, code := none }
def k6m1 : Method := { name := "arraycopy", desc := "(Ljava/lang/Object;ILjava/lang/Object;II)V", sig := { parameters := [(.object "java/lang/Object"), .int, (.object "java/lang/Object"), .int, .int], returnType := none }, accessFlags := 265, code := none }
/-- java/lang/System -/
def k6 : Class := { plain "java/lang/System" (some 0) with
  accessFlags := 49
  interfaces := #[]
  cf := some (fileOf pool6 8 #[.nestMembers #[319, 327, 801, 108, 663, 208]] #[{ accessFlags := 2, nameIndex := 5, descriptorIndex := 6, attributes := #[] }, { accessFlags := 265, nameIndex := 727, descriptorIndex := 728, attributes := #[] }] 49 2 #[] #[{ accessFlags := 25, nameIndex := 507, descriptorIndex := 526, attributes := #[] }, { accessFlags := 25, nameIndex := 399, descriptorIndex := 155, attributes := #[] }, { accessFlags := 25, nameIndex := 396, descriptorIndex := 155, attributes := #[] }, { accessFlags := 10, nameIndex := 525, descriptorIndex := 526, attributes := #[] }, { accessFlags := 26, nameIndex := 674, descriptorIndex := 12, attributes := #[] }, { accessFlags := 26, nameIndex := 677, descriptorIndex := 12, attributes := #[] }, { accessFlags := 10, nameIndex := 11, descriptorIndex := 12, attributes := #[] }, { accessFlags := 74, nameIndex := 175, descriptorIndex := 176, attributes := #[] }, { accessFlags := 10, nameIndex := 491, descriptorIndex := 222, attributes := #[] }, { accessFlags := 74, nameIndex := 29, descriptorIndex := 30, attributes := #[] }, { accessFlags := 74, nameIndex := 154, descriptorIndex := 155, attributes := #[] }, { accessFlags := 10, nameIndex := 217, descriptorIndex := 218, attributes := #[] }, { accessFlags := 10, nameIndex := 221, descriptorIndex := 222, attributes := #[] }, { accessFlags := 8, nameIndex := 562, descriptorIndex := 563, attributes := #[] }])
  fields := #[{ name := "in", type := (.object "java/io/InputStream"), accessFlags := 25, slot := 0, constantValue := 0 }, { name := "out", type := (.object "java/io/PrintStream"), accessFlags := 25, slot := 1, constantValue := 0 }, { name := "err", type := (.object "java/io/PrintStream"), accessFlags := 25, slot := 2, constantValue := 0 }, { name := "initialIn", type := (.object "java/io/InputStream"), accessFlags := 10, slot := 3, constantValue := 0 }, { name := "NEVER", type := .int, accessFlags := 26, slot := 4, constantValue := 0 }, { name := "MAYBE", type := .int, accessFlags := 26, slot := 5, constantValue := 0 }, { name := "allowSecurityManager", type := .int, accessFlags := 10, slot := 6, constantValue := 0 }, { name := "security", type := (.object "java/lang/SecurityManager"), accessFlags := 74, slot := 7, constantValue := 0 }, { name := "notSupportedJnuEncoding", type := (.object "java/lang/String"), accessFlags := 10, slot := 8, constantValue := 0 }, { name := "cons", type := (.object "java/io/Console"), accessFlags := 74, slot := 9, constantValue := 0 }, { name := "initialErrStream", type := (.object "java/io/PrintStream"), accessFlags := 74, slot := 10, constantValue := 0 }, { name := "props", type := (.object "java/util/Properties"), accessFlags := 10, slot := 11, constantValue := 0 }, { name := "lineSeparator", type := (.object "java/lang/String"), accessFlags := 10, slot := 12, constantValue := 0 }, { name := "bootLayer", type := (.object "java/lang/ModuleLayer"), accessFlags := 8, slot := 13, constantValue := 0 }]
  methods := #[k6m0, k6m1]
  instanceTypes := #[]
  staticTypes := #[(.object "java/io/InputStream"), (.object "java/io/PrintStream"), (.object "java/io/PrintStream"), (.object "java/io/InputStream"), .int, .int, .int, (.object "java/lang/SecurityManager"), (.object "java/lang/String"), (.object "java/io/Console"), (.object "java/io/PrintStream"), (.object "java/util/Properties"), (.object "java/lang/String"), (.object "java/lang/ModuleLayer")]
  resolved := Array.replicate 834 none
  statics := none }

def pool7 : Array CpInfo := pool [(1, .class_ 2), (0, u "java/lang/Cloneable"), (0, .class_ 4), (0, u "java/lang/Object")] 2

/-- java/lang/Cloneable -/
def k7 : Class := { plain "java/lang/Cloneable" (some 0) with
  accessFlags := 1537
  interfaces := #[]
  cf := some (fileOf pool7 1 #[] #[] 1537 3 #[] #[])
  fields := #[]
  methods := #[]
  instanceTypes := #[]
  staticTypes := #[]
  resolved := Array.replicate 7 none
  statics := none }

def pool8 : Array CpInfo := pool [(1, u "java/io/Serializable"), (0, .class_ 1), (0, u "java/lang/Object"), (0, .class_ 3)] 3

/-- java/io/Serializable -/
def k8 : Class := { plain "java/io/Serializable" (some 0) with
  accessFlags := 1537
  interfaces := #[]
  cf := some (fileOf pool8 2 #[] #[] 1537 4 #[] #[])
  fields := #[]
  methods := #[]
  instanceTypes := #[]
  staticTypes := #[]
  resolved := Array.replicate 8 none
  statics := none }

/-- the primitive byte -/
def k9 : Class := { plain "byte" none with kind := .primitive 'B', accessFlags := 0x411 }
/-- [B -/
def k10 : Class := { plain "[B" (some 0) with kind := .array 9 .byte, interfaces := #[7, 8], accessFlags := 1041 }

/-- the primitive int -/
def k11 : Class := { plain "int" none with kind := .primitive 'I', accessFlags := 0x411 }
/-- [I -/
def k12 : Class := { plain "[I" (some 0) with kind := .array 11 .int, interfaces := #[7, 8], accessFlags := 1041 }

def heap : Heap := #[]
def classes : Array Class := #[k0, k1, k2, k3, k4, k5, k6, k7, k8, k9, k10, k11, k12]
def interned : List (Array UInt16 × Addr) := []
def slotsUsed : Nat := 0
def theMethod : MethodId := ⟨1, 1⟩
def args0 : Array Value := #[.int 5, .int 7, .int 3, .int 4, .int 6, .int 3]
def aboutOver (below : List Frame) : State where
  vm := { classes := classes, interned := interned.toArray }
  heap := heap
  slotsUsed := slotsUsed
  threads := #[{ frames := .invoking theMethod args0 :: below }]
def below0 : List Frame := [.native { method := ⟨0, 0⟩, args := #[] }]
def about1 : State := aboutOver below0
def p0 : Program := .bare "" "" ""
def e0 : Env := launch0.env 0 0 0
theorem w_frames : about1.frames = Frame.invoking theMethod args0 :: below0 := rfl
set_option maxRecDepth 65536 in
theorem w_args : argsFit about1.vm theMethod args0 = true := by decide +kernel
set_option maxRecDepth 65536 in
theorem w_heap : heapFits about1 = true := by decide +kernel
set_option maxRecDepth 65536 in
theorem w_runnable : about1.curStatus? = some .runnable := by decide +kernel
set_option maxRecDepth 65536 in
theorem w_alone : about1.alone = true := by decide +kernel
set_option maxRecDepth 65536 in
theorem w_named : about1.methodNamed? x = some theMethod := by decide +kernel
set_option maxRecDepth 65536 in
theorem w_hears : about1.hears theMethod below0 = true := by decide +kernel
set_option maxRecDepth 65536 in
theorem w_ripe : about1.ripe theMethod args0 below0 = true := by decide +kernel
theorem w_running : about1.status = .running := rfl
set_option maxRecDepth 65536 in
theorem w_room : about1.hasRoom e0.platform room_1 = true :=
  launch0.hasRoom_least _ room_1 (by decide +kernel) (by decide +kernel) (by decide +kernel) (by decide +kernel) (by decide +kernel) (by decide +kernel)
theorem allAtoms_all (ts : List Jvm.Cond) (a : Array Jvm.Value) (st : Jvm.State) : (allAtoms ts).before a st = ts.all (fun c => c.before a st) := by
  induction ts with
  | nil => rfl
  | cons c t ih =>
    show (Jvm.Cond.and c (allAtoms t)).before a st = _
    rw [Jvm.Cond.before_and, ih, List.all_cons]
def words1 : List Jvm.Cond := Jvm.Cond.code x code maxLocals ret :: tables_1
/-- a 'code' word, met by the world's own term for the bytes: nothing is compared byte by byte -/
theorem code_word {y : MethodName} {bytes : ByteArray} {mx : Nat} {rt : Option FieldType} {a : Array Value} {s : State} {m : MethodId} {meth : Method} {c : Code} (h1 : s.methodNamed? y = some m) (h2 : s.vm.method? m = some meth) (h3 : meth.code = some c) (h4 : c.code = bytes)
    (h5 : (c.maxLocals == mx && c.exceptionTable.isEmpty && decide (c.maxStack ≤ mostOperands) && decide (meth.sig.returnType = rt) && !meth.locks && decide (parseMethodDescriptor y.desc = some meth.sig)) = true) : (Jvm.Cond.code y bytes mx rt).before a s = true := by
  simp only [Bool.and_eq_true, beq_iff_eq, Bool.not_eq_true', decide_eq_true_eq] at h5
  obtain ⟨⟨⟨⟨⟨g1, g2⟩, g3⟩, g4⟩, g5⟩, g6⟩ := h5
  simp [Cond.before, Cond.holds, Cond.value, h1, h2, h3, h4, g1, g2, g3, g4, g5, g6]
def isCode : Jvm.Cond → Bool
  | .code _ _ _ _ => true
  | _ => false
theorem all_split {L : List Jvm.Cond} {P : Jvm.Cond → Bool} (h1 : L.all (fun c => isCode c || P c) = true) (h2 : ∀ c ∈ L.filter isCode, P c = true) : L.all P = true := by
  refine List.all_eq_true.mpr fun c hc => ?_
  have h := List.all_eq_true.mp h1 c hc
  rcases Bool.eq_false_or_eq_true (isCode c) with hi | hi
  · exact h2 c (List.mem_filter.mpr ⟨hc, hi⟩)
  · simpa [hi] using h
set_option maxRecDepth 65536 in
theorem w_c0 : (Jvm.Cond.code x code maxLocals ret).before args0 about1 = true := code_word (m := ⟨1, 1⟩) (meth := k1m1) (c := k1c1) (by decide +kernel) rfl rfl rfl (by decide +kernel)
set_option maxRecDepth 65536 in
theorem w_c1 : (Jvm.Cond.code ({ cls := "java/lang/Math", name := "min", desc := "(II)I" } : Jvm.MethodName) jdk_29_method_69_code (2 : Nat) (Option.some Jvm.ClassFile.FieldType.int)).before args0 about1 = true := code_word (m := ⟨2, 1⟩) (meth := k2m1) (c := k2c1) (by decide +kernel) rfl rfl rfl (by decide +kernel)
set_option maxRecDepth 65536 in
theorem w_c2 : (Jvm.Cond.code ({ cls := "com/example/hard_delay_bounds/harddelaybounds/analysis/FlowSet$Builder", name := "<init>", desc := "()V" } : Jvm.MethodName) prog_19_method_1_code (1 : Nat) (Option.none : Option Jvm.ClassFile.FieldType)).before args0 about1 = true := code_word (m := ⟨3, 0⟩) (meth := k3m0) (c := k3c0) (by decide +kernel) rfl rfl rfl (by decide +kernel)
set_option maxRecDepth 65536 in
theorem w_c3 : (Jvm.Cond.code ({ cls := "java/lang/Object", name := "<init>", desc := "()V" } : Jvm.MethodName) object_method_1_code (1 : Nat) (Option.none : Option Jvm.ClassFile.FieldType)).before args0 about1 = true := code_word (m := ⟨0, 0⟩) (meth := k0m0) (c := k0c0) (by decide +kernel) rfl rfl rfl (by decide +kernel)
set_option maxRecDepth 65536 in
theorem w_c4 : (Jvm.Cond.code ({ cls := "com/example/hard_delay_bounds/harddelaybounds/analysis/FlowSet$Builder", name := "add", desc := "(I)Lcom/example/hard_delay_bounds/harddelaybounds/analysis/FlowSet$Builder;" } : Jvm.MethodName) prog_19_method_2_code (2 : Nat) (Option.some (Jvm.ClassFile.FieldType.object "com/example/hard_delay_bounds/harddelaybounds/analysis/FlowSet$Builder"))).before args0 about1 = true := code_word (m := ⟨3, 1⟩) (meth := k3m1) (c := k3c1) (by decide +kernel) rfl rfl rfl (by decide +kernel)
set_option maxRecDepth 65536 in
theorem w_c5 : (Jvm.Cond.code ({ cls := "com/example/hard_delay_bounds/harddelaybounds/analysis/FlowSet$Builder", name := "build", desc := "()Lcom/example/hard_delay_bounds/harddelaybounds/analysis/FlowSet;" } : Jvm.MethodName) prog_19_method_3_code (1 : Nat) (Option.some (Jvm.ClassFile.FieldType.object "com/example/hard_delay_bounds/harddelaybounds/analysis/FlowSet"))).before args0 about1 = true := code_word (m := ⟨3, 2⟩) (meth := k3m2) (c := k3c2) (by decide +kernel) rfl rfl rfl (by decide +kernel)
set_option maxRecDepth 65536 in
theorem w_c6 : (Jvm.Cond.code ({ cls := "java/util/Arrays", name := "copyOf", desc := "([II)[I" } : Jvm.MethodName) jdk_65_method_123_code (3 : Nat) (Option.some (Jvm.ClassFile.FieldType.array Jvm.ClassFile.FieldType.int))).before args0 about1 = true := code_word (m := ⟨5, 1⟩) (meth := k5m1) (c := k5c1) (by decide +kernel) rfl rfl rfl (by decide +kernel)
set_option maxRecDepth 65536 in
theorem w_c7 : (Jvm.Cond.code ({ cls := "com/example/hard_delay_bounds/harddelaybounds/analysis/FlowSet", name := "<init>", desc := "([I)V" } : Jvm.MethodName) prog_18_method_1_code (7 : Nat) (Option.none : Option Jvm.ClassFile.FieldType)).before args0 about1 = true := code_word (m := ⟨4, 0⟩) (meth := k4m0) (c := k4c0) (by decide +kernel) rfl rfl rfl (by decide +kernel)
set_option maxRecDepth 65536 in
theorem w_c8 : (Jvm.Cond.code ({ cls := "com/example/hard_delay_bounds/harddelaybounds/analysis/FlowSet", name := "size", desc := "()I" } : Jvm.MethodName) prog_18_method_2_code (1 : Nat) (Option.some Jvm.ClassFile.FieldType.int)).before args0 about1 = true := code_word (m := ⟨4, 1⟩) (meth := k4m1) (c := k4c1) (by decide +kernel) rfl rfl rfl (by decide +kernel)
set_option maxRecDepth 65536 in
theorem w_c9 : (Jvm.Cond.code ({ cls := "com/example/hard_delay_bounds/harddelaybounds/analysis/FlowSet", name := "number", desc := "(I)I" } : Jvm.MethodName) prog_18_method_3_code (2 : Nat) (Option.some Jvm.ClassFile.FieldType.int)).before args0 about1 = true := code_word (m := ⟨4, 2⟩) (meth := k4m2) (c := k4c2) (by decide +kernel) rfl rfl rfl (by decide +kernel)
def codes1 : List Jvm.Cond := [Jvm.Cond.code x code maxLocals ret, Jvm.Cond.code ({ cls := "java/lang/Math", name := "min", desc := "(II)I" } : Jvm.MethodName) jdk_29_method_69_code (2 : Nat) (Option.some Jvm.ClassFile.FieldType.int), Jvm.Cond.code ({ cls := "com/example/hard_delay_bounds/harddelaybounds/analysis/FlowSet$Builder", name := "<init>", desc := "()V" } : Jvm.MethodName) prog_19_method_1_code (1 : Nat) (Option.none : Option Jvm.ClassFile.FieldType), Jvm.Cond.code ({ cls := "java/lang/Object", name := "<init>", desc := "()V" } : Jvm.MethodName) object_method_1_code (1 : Nat) (Option.none : Option Jvm.ClassFile.FieldType), Jvm.Cond.code ({ cls := "com/example/hard_delay_bounds/harddelaybounds/analysis/FlowSet$Builder", name := "add", desc := "(I)Lcom/example/hard_delay_bounds/harddelaybounds/analysis/FlowSet$Builder;" } : Jvm.MethodName) prog_19_method_2_code (2 : Nat) (Option.some (Jvm.ClassFile.FieldType.object "com/example/hard_delay_bounds/harddelaybounds/analysis/FlowSet$Builder")), Jvm.Cond.code ({ cls := "com/example/hard_delay_bounds/harddelaybounds/analysis/FlowSet$Builder", name := "build", desc := "()Lcom/example/hard_delay_bounds/harddelaybounds/analysis/FlowSet;" } : Jvm.MethodName) prog_19_method_3_code (1 : Nat) (Option.some (Jvm.ClassFile.FieldType.object "com/example/hard_delay_bounds/harddelaybounds/analysis/FlowSet")), Jvm.Cond.code ({ cls := "java/util/Arrays", name := "copyOf", desc := "([II)[I" } : Jvm.MethodName) jdk_65_method_123_code (3 : Nat) (Option.some (Jvm.ClassFile.FieldType.array Jvm.ClassFile.FieldType.int)), Jvm.Cond.code ({ cls := "com/example/hard_delay_bounds/harddelaybounds/analysis/FlowSet", name := "<init>", desc := "([I)V" } : Jvm.MethodName) prog_18_method_1_code (7 : Nat) (Option.none : Option Jvm.ClassFile.FieldType), Jvm.Cond.code ({ cls := "com/example/hard_delay_bounds/harddelaybounds/analysis/FlowSet", name := "size", desc := "()I" } : Jvm.MethodName) prog_18_method_2_code (1 : Nat) (Option.some Jvm.ClassFile.FieldType.int), Jvm.Cond.code ({ cls := "com/example/hard_delay_bounds/harddelaybounds/analysis/FlowSet", name := "number", desc := "(I)I" } : Jvm.MethodName) prog_18_method_3_code (2 : Nat) (Option.some Jvm.ClassFile.FieldType.int)]
set_option maxRecDepth 65536 in
theorem codes_eq : words1.filter isCode = codes1 := rfl
theorem w_codes : ∀ c ∈ words1.filter isCode, c.before args0 about1 = true := by
  rw [codes_eq]
  intro c hc
  simp only [codes1, List.mem_cons, List.not_mem_nil, or_false] at hc
  rcases hc with rfl | rfl | rfl | rfl | rfl | rfl | rfl | rfl | rfl | rfl
  · exact w_c0
  · exact w_c1
  · exact w_c2
  · exact w_c3
  · exact w_c4
  · exact w_c5
  · exact w_c6
  · exact w_c7
  · exact w_c8
  · exact w_c9
set_option maxRecDepth 65536 in
theorem w_t1 : (words1.take 24).all (fun c => isCode c || c.before args0 about1) = true := by decide +kernel
set_option maxRecDepth 65536 in
theorem w_t2 : ((words1.drop 24).take 24).all (fun c => isCode c || c.before args0 about1) = true := by decide +kernel
set_option maxRecDepth 65536 in
theorem w_t3 : ((words1.drop 24).drop 24).all (fun c => isCode c || c.before args0 about1) = true := by decide +kernel
theorem w_tables : (allAtoms (Jvm.Cond.code x code maxLocals ret :: tables_1)).before args0 about1 = true := by
  rw [allAtoms_all]
  show words1.all (fun c => c.before args0 about1) = true
  refine all_split ?_ w_codes
  rw [← List.take_append_drop 24 words1, List.all_append, w_t1, ← List.take_append_drop 24 (words1.drop 24), List.all_append, w_t2, w_t3]
  rfl
set_option maxRecDepth 65536 in
theorem w_case : (Jvm.Cond.and given_1 narrow_1).before args0 about1 = true := by decide +kernel
theorem w_applies : (headSpec (Jvm.Cond.code x code maxLocals ret :: tables_1) room_1).applies x e0.platform about1 = true :=
  (Spec.applies_iff w_frames).mpr ⟨w_running, w_runnable, w_alone, w_named, w_hears, w_ripe, w_room, w_tables⟩
theorem atStart : AtStart classFile x code maxLocals ret World_1 tables_1 room_1 Calls_1 rest_1 Pre_1 launch0 p0 e0 about1 theMethod args0 below0 :=
  ⟨lists_1, trivial, launch0.admits_env _ _ _, launch0.least_env, fairChoices_fair.cas, fairChoices_fair.clock, w_frames, w_args, w_heap, w_applies, trivial, trivial, w_case⟩
end start1
theorem witness_1 : WitnessClaimed_1 := ⟨start1.p0, start1.e0, start1.about1, start1.theMethod, start1.args0, start1.below0, start1.atStart⟩
end Jvm.Pilot.@@N@@
