import JvmDerived
import JvmDerived.Pilot.@@N@@Statement
import JvmDerived.Pilot.@@N@@Code
set_option linter.unusedVariables false
set_option linter.unusedSimpArgs false
namespace Jvm.RoadKit
open Sem ClassFile Op Lib Jvm.Stand Jvm.Free Jvm.LawKit
section New
variable {p : Program} {l : Launch} {e : Env} {R : Room} {s : State} {m : MethodId} {args : Array Value} {below : List Frame} {meth : Method} {c : Code} {T : State} {locs : List Loc} {cells slots : Nat}
theorem retI (X : Stand p l e R s m args below meth c T locs cells slots) (hx : p.tables.exec = Jvm.exec) {pc : Nat} {Ls : Array Slot} {z : Int32} {rest : List Value} (hret : meth.sig.returnType = some .int) (hd : decode c.code pc = .ok (.ireturn, 1)) {fs : List Frame}
    (hl : ∀ (f : JFrame) (acts : List Action), f.method = m → f.locked = none → f.entered = [] → (doReturn e (T.setTop f) acts (some (.int z))).1 = T.setFrames fs) : Steps p.tables e below (T.setTop (mkF m pc Ls (.int z :: rest))) (T.setFrames fs) := by
  have hm' : T.vm.method? m = some meth := X.method'
  have hn : narrow .int (.int z) = .int z := rfl
  show Steps p.tables e below (T.setTop { method := m, pc := pc, locals := Ls, stack := _ :: rest, locked := none }) _
  jvm_step X.here [X.here.top, hx, hd, hm', hret, hn]
  first | (intro acts; rw [hl _ acts rfl rfl rfl]) | rw [hl _ _ rfl rfl rfl]
  exact Steps.refl _
end New
end Jvm.RoadKit
namespace Jvm.Pilot.@@N@@
open Jvm Jvm.ClassFile Sem Op Lib Jvm.Free Jvm.Stand Jvm.LawKit Jvm.RoadKit Bundle Jvm.Pilot.@@N@@.Jvm.D
def QP (w : Option Value) (h0 : Heap) (n0 : Nat) (v : Option Value) (h : Heap) (L : List Loc) : Prop := v = w ∧ Fr n0 L ∧ h = h0
section YS
variable {p : Program} {l : Launch} {e : Env} {R : Room} {s : State} {args : Array Value} {meth : Method} {locs : List Loc} {cells slots : Nat} {bytes : ByteArray} {below : List Frame} {T target : State} {m : MethodId} {c : Code} {pc : Nat} {Ls : Array Slot} {S : List Value}
theorem y_iload (X : Stand p l e R s m args below meth c T locs cells slots) (hx : p.tables.exec = Jvm.exec) (hby : c.code = bytes) {k : Nat} {v : Int32} (hd : decode bytes pc = .ok (.iload k, 2)) (hl : Ls[k]? = some (.val (.int v))) (hr : Steps p.tables e below (T.setTop (mkF m (pc + 2) Ls (.int v :: S))) target) : Steps p.tables e below (T.setTop (mkF m pc Ls S)) target := XS.iload (g := mkF m pc Ls S) X.here hx rfl (hb hby hd) hl hr
theorem y_iloadN (X : Stand p l e R s m args below meth c T locs cells slots) (hx : p.tables.exec = Jvm.exec) (hby : c.code = bytes) {k : Fin 4} {v : Int32} (hd : decode bytes pc = .ok (.iload_n k, 1)) (hl : Ls[k.val]? = some (.val (.int v))) (hr : Steps p.tables e below (T.setTop (mkF m (pc + 1) Ls (.int v :: S))) target) : Steps p.tables e below (T.setTop (mkF m pc Ls S)) target := XS.iloadN (g := mkF m pc Ls S) X.here hx rfl (hb hby hd) hl hr
theorem y_lload (X : Stand p l e R s m args below meth c T locs cells slots) (hx : p.tables.exec = Jvm.exec) (hby : c.code = bytes) {k : Nat} {v : Int64} (hd : decode bytes pc = .ok (.lload k, 2)) (hl : Ls[k]? = some (.val (.long v))) (hr : Steps p.tables e below (T.setTop (mkF m (pc + 2) Ls (.long v :: S))) target) : Steps p.tables e below (T.setTop (mkF m pc Ls S)) target := XS.lload (g := mkF m pc Ls S) X.here hx rfl (hb hby hd) hl hr
theorem y_lloadN (X : Stand p l e R s m args below meth c T locs cells slots) (hx : p.tables.exec = Jvm.exec) (hby : c.code = bytes) {k : Fin 4} {v : Int64} (hd : decode bytes pc = .ok (.lload_n k, 1)) (hl : Ls[k.val]? = some (.val (.long v))) (hr : Steps p.tables e below (T.setTop (mkF m (pc + 1) Ls (.long v :: S))) target) : Steps p.tables e below (T.setTop (mkF m pc Ls S)) target := XS.lloadN (g := mkF m pc Ls S) X.here hx rfl (hb hby hd) hl hr
theorem y_aload (X : Stand p l e R s m args below meth c T locs cells slots) (hx : p.tables.exec = Jvm.exec) (hby : c.code = bytes) {k : Nat} {v : Value} (hd : decode bytes pc = .ok (.aload k, 2)) (hl : Ls[k]? = some (.val v)) (hv : v.isRef = true) (hr : Steps p.tables e below (T.setTop (mkF m (pc + 2) Ls (v :: S))) target) : Steps p.tables e below (T.setTop (mkF m pc Ls S)) target := XS.aload (g := mkF m pc Ls S) X.here hx rfl (hb hby hd) hl hv hr
theorem y_aloadN (X : Stand p l e R s m args below meth c T locs cells slots) (hx : p.tables.exec = Jvm.exec) (hby : c.code = bytes) {k : Fin 4} {v : Value} (hd : decode bytes pc = .ok (.aload_n k, 1)) (hl : Ls[k.val]? = some (.val v)) (hv : v.isRef = true) (hr : Steps p.tables e below (T.setTop (mkF m (pc + 1) Ls (v :: S))) target) : Steps p.tables e below (T.setTop (mkF m pc Ls S)) target := XS.aloadN (g := mkF m pc Ls S) X.here hx rfl (hb hby hd) hl hv hr
theorem y_istore (X : Stand p l e R s m args below meth c T locs cells slots) (hx : p.tables.exec = Jvm.exec) (hby : c.code = bytes) {k : Nat} {x : Int32} {l' : Array Slot} (hd : decode bytes pc = .ok (.istore k, 2)) (hl : storeLocals Ls k (.int x) = some l') (hr : Steps p.tables e below (T.setTop (mkF m (pc + 2) l' S)) target) : Steps p.tables e below (T.setTop (mkF m pc Ls (.int x :: S))) target := XS.istore (g := mkF m pc Ls (.int x :: S)) X.here hx rfl (hb hby hd) rfl hl hr
theorem y_istoreN (X : Stand p l e R s m args below meth c T locs cells slots) (hx : p.tables.exec = Jvm.exec) (hby : c.code = bytes) {k : Fin 4} {x : Int32} {l' : Array Slot} (hd : decode bytes pc = .ok (.istore_n k, 1)) (hl : storeLocals Ls k.val (.int x) = some l') (hr : Steps p.tables e below (T.setTop (mkF m (pc + 1) l' S)) target) : Steps p.tables e below (T.setTop (mkF m pc Ls (.int x :: S))) target := XS.istoreN (g := mkF m pc Ls (.int x :: S)) X.here hx rfl (hb hby hd) rfl hl hr
theorem y_lstore (X : Stand p l e R s m args below meth c T locs cells slots) (hx : p.tables.exec = Jvm.exec) (hby : c.code = bytes) {k : Nat} {x : Int64} {l' : Array Slot} (hd : decode bytes pc = .ok (.lstore k, 2)) (hl : storeLocals Ls k (.long x) = some l') (hr : Steps p.tables e below (T.setTop (mkF m (pc + 2) l' S)) target) : Steps p.tables e below (T.setTop (mkF m pc Ls (.long x :: S))) target := XS.lstore (g := mkF m pc Ls (.long x :: S)) X.here hx rfl (hb hby hd) rfl hl hr
theorem y_lstoreN (X : Stand p l e R s m args below meth c T locs cells slots) (hx : p.tables.exec = Jvm.exec) (hby : c.code = bytes) {k : Fin 4} {x : Int64} {l' : Array Slot} (hd : decode bytes pc = .ok (.lstore_n k, 1)) (hl : storeLocals Ls k.val (.long x) = some l') (hr : Steps p.tables e below (T.setTop (mkF m (pc + 1) l' S)) target) : Steps p.tables e below (T.setTop (mkF m pc Ls (.long x :: S))) target := XS.lstoreN (g := mkF m pc Ls (.long x :: S)) X.here hx rfl (hb hby hd) rfl hl hr
theorem y_astore (X : Stand p l e R s m args below meth c T locs cells slots) (hx : p.tables.exec = Jvm.exec) (hby : c.code = bytes) {k : Nat} {x : Value} {l' : Array Slot} (hd : decode bytes pc = .ok (.astore k, 2)) (hv : x.isRef = true) (hl : storeLocals Ls k x = some l') (hr : Steps p.tables e below (T.setTop (mkF m (pc + 2) l' S)) target) : Steps p.tables e below (T.setTop (mkF m pc Ls (x :: S))) target := XS.astore (g := mkF m pc Ls (x :: S)) X.here hx rfl (hb hby hd) rfl hv hl hr
theorem y_astoreN (X : Stand p l e R s m args below meth c T locs cells slots) (hx : p.tables.exec = Jvm.exec) (hby : c.code = bytes) {k : Fin 4} {x : Value} {l' : Array Slot} (hd : decode bytes pc = .ok (.astore_n k, 1)) (hv : x.isRef = true) (hl : storeLocals Ls k.val x = some l') (hr : Steps p.tables e below (T.setTop (mkF m (pc + 1) l' S)) target) : Steps p.tables e below (T.setTop (mkF m pc Ls (x :: S))) target := XS.astoreN (g := mkF m pc Ls (x :: S)) X.here hx rfl (hb hby hd) rfl hv hl hr
theorem y_iconst (X : Stand p l e R s m args below meth c T locs cells slots) (hx : p.tables.exec = Jvm.exec) (hby : c.code = bytes) {i : Int} {v : Int32} (hd : decode bytes pc = .ok (.iconst i, 1)) (hv : Int32.ofInt i = v) (hr : Steps p.tables e below (T.setTop (mkF m (pc + 1) Ls (.int v :: S))) target) : Steps p.tables e below (T.setTop (mkF m pc Ls S)) target := XS.iconst (g := mkF m pc Ls S) X.here hx rfl (hb hby hd) (by subst hv; exact hr)
theorem y_bipush (X : Stand p l e R s m args below meth c T locs cells slots) (hx : p.tables.exec = Jvm.exec) (hby : c.code = bytes) {i : Int} {v : Int32} (hd : decode bytes pc = .ok (.bipush i, 2)) (hv : (Int8.ofInt i).toInt32 = v) (hr : Steps p.tables e below (T.setTop (mkF m (pc + 2) Ls (.int v :: S))) target) : Steps p.tables e below (T.setTop (mkF m pc Ls S)) target := XS.bipush (g := mkF m pc Ls S) X.here hx rfl (hb hby hd) (by subst hv; exact hr)
theorem y_sipush (X : Stand p l e R s m args below meth c T locs cells slots) (hx : p.tables.exec = Jvm.exec) (hby : c.code = bytes) {i : Int} {v : Int32} (hd : decode bytes pc = .ok (.sipush i, 3)) (hv : (Int16.ofInt i).toInt32 = v) (hr : Steps p.tables e below (T.setTop (mkF m (pc + 3) Ls (.int v :: S))) target) : Steps p.tables e below (T.setTop (mkF m pc Ls S)) target := XS.sipush (g := mkF m pc Ls S) X.here hx rfl (hb hby hd) (by subst hv; exact hr)
theorem y_lconst (X : Stand p l e R s m args below meth c T locs cells slots) (hx : p.tables.exec = Jvm.exec) (hby : c.code = bytes) {k : Fin 2} {v : Int64} (hd : decode bytes pc = .ok (.lconst k, 1)) (hv : Int64.ofNat k = v) (hr : Steps p.tables e below (T.setTop (mkF m (pc + 1) Ls (.long v :: S))) target) : Steps p.tables e below (T.setTop (mkF m pc Ls S)) target := XS.lconst (g := mkF m pc Ls S) X.here hx rfl (hb hby hd) (by subst hv; exact hr)
theorem y_aconstNull (X : Stand p l e R s m args below meth c T locs cells slots) (hx : p.tables.exec = Jvm.exec) (hby : c.code = bytes)  (hd : decode bytes pc = .ok (.aconst_null, 1)) (hr : Steps p.tables e below (T.setTop (mkF m (pc + 1) Ls (.null :: S))) target) : Steps p.tables e below (T.setTop (mkF m pc Ls S)) target := XS.aconstNull (g := mkF m pc Ls S) X.here hx rfl (hb hby hd) hr
theorem y_iadd (X : Stand p l e R s m args below meth c T locs cells slots) (hx : p.tables.exec = Jvm.exec) (hby : c.code = bytes) {x y : Int32} (hd : decode bytes pc = .ok (.iadd, 1)) (hr : Steps p.tables e below (T.setTop (mkF m (pc + 1) Ls (.int (x + y) :: S))) target) : Steps p.tables e below (T.setTop (mkF m pc Ls (.int y :: .int x :: S))) target := XS.iadd (g := mkF m pc Ls (.int y :: .int x :: S)) X.here hx rfl (hb hby hd) rfl hr
theorem y_isub (X : Stand p l e R s m args below meth c T locs cells slots) (hx : p.tables.exec = Jvm.exec) (hby : c.code = bytes) {x y : Int32} (hd : decode bytes pc = .ok (.isub, 1)) (hr : Steps p.tables e below (T.setTop (mkF m (pc + 1) Ls (.int (x - y) :: S))) target) : Steps p.tables e below (T.setTop (mkF m pc Ls (.int y :: .int x :: S))) target := XS.isub (g := mkF m pc Ls (.int y :: .int x :: S)) X.here hx rfl (hb hby hd) rfl hr
theorem y_imul (X : Stand p l e R s m args below meth c T locs cells slots) (hx : p.tables.exec = Jvm.exec) (hby : c.code = bytes) {x y : Int32} (hd : decode bytes pc = .ok (.imul, 1)) (hr : Steps p.tables e below (T.setTop (mkF m (pc + 1) Ls (.int (x * y) :: S))) target) : Steps p.tables e below (T.setTop (mkF m pc Ls (.int y :: .int x :: S))) target := XS.imul (g := mkF m pc Ls (.int y :: .int x :: S)) X.here hx rfl (hb hby hd) rfl hr
theorem y_iand (X : Stand p l e R s m args below meth c T locs cells slots) (hx : p.tables.exec = Jvm.exec) (hby : c.code = bytes) {x y : Int32} (hd : decode bytes pc = .ok (.iand, 1)) (hr : Steps p.tables e below (T.setTop (mkF m (pc + 1) Ls (.int (x &&& y) :: S))) target) : Steps p.tables e below (T.setTop (mkF m pc Ls (.int y :: .int x :: S))) target := XS.iand (g := mkF m pc Ls (.int y :: .int x :: S)) X.here hx rfl (hb hby hd) rfl hr
theorem y_ior (X : Stand p l e R s m args below meth c T locs cells slots) (hx : p.tables.exec = Jvm.exec) (hby : c.code = bytes) {x y : Int32} (hd : decode bytes pc = .ok (.ior, 1)) (hr : Steps p.tables e below (T.setTop (mkF m (pc + 1) Ls (.int (x ||| y) :: S))) target) : Steps p.tables e below (T.setTop (mkF m pc Ls (.int y :: .int x :: S))) target := XS.ior (g := mkF m pc Ls (.int y :: .int x :: S)) X.here hx rfl (hb hby hd) rfl hr
theorem y_ixor (X : Stand p l e R s m args below meth c T locs cells slots) (hx : p.tables.exec = Jvm.exec) (hby : c.code = bytes) {x y : Int32} (hd : decode bytes pc = .ok (.ixor, 1)) (hr : Steps p.tables e below (T.setTop (mkF m (pc + 1) Ls (.int (x ^^^ y) :: S))) target) : Steps p.tables e below (T.setTop (mkF m pc Ls (.int y :: .int x :: S))) target := XS.ixor (g := mkF m pc Ls (.int y :: .int x :: S)) X.here hx rfl (hb hby hd) rfl hr
theorem y_ishl (X : Stand p l e R s m args below meth c T locs cells slots) (hx : p.tables.exec = Jvm.exec) (hby : c.code = bytes) {x y : Int32} (hd : decode bytes pc = .ok (.ishl, 1)) (hr : Steps p.tables e below (T.setTop (mkF m (pc + 1) Ls (.int (x <<< (y &&& 31)) :: S))) target) : Steps p.tables e below (T.setTop (mkF m pc Ls (.int y :: .int x :: S))) target := XS.ishl (g := mkF m pc Ls (.int y :: .int x :: S)) X.here hx rfl (hb hby hd) rfl hr
theorem y_ishr (X : Stand p l e R s m args below meth c T locs cells slots) (hx : p.tables.exec = Jvm.exec) (hby : c.code = bytes) {x y : Int32} (hd : decode bytes pc = .ok (.ishr, 1)) (hr : Steps p.tables e below (T.setTop (mkF m (pc + 1) Ls (.int (x >>> (y &&& 31)) :: S))) target) : Steps p.tables e below (T.setTop (mkF m pc Ls (.int y :: .int x :: S))) target := XS.ishr (g := mkF m pc Ls (.int y :: .int x :: S)) X.here hx rfl (hb hby hd) rfl hr
theorem y_iushr (X : Stand p l e R s m args below meth c T locs cells slots) (hx : p.tables.exec = Jvm.exec) (hby : c.code = bytes) {x y : Int32} (hd : decode bytes pc = .ok (.iushr, 1)) (hr : Steps p.tables e below (T.setTop (mkF m (pc + 1) Ls (.int ((x.toUInt32 >>> (y &&& 31).toUInt32).toInt32) :: S))) target) : Steps p.tables e below (T.setTop (mkF m pc Ls (.int y :: .int x :: S))) target := XS.iushr (g := mkF m pc Ls (.int y :: .int x :: S)) X.here hx rfl (hb hby hd) rfl hr
theorem y_ladd (X : Stand p l e R s m args below meth c T locs cells slots) (hx : p.tables.exec = Jvm.exec) (hby : c.code = bytes) {x y : Int64} (hd : decode bytes pc = .ok (.ladd, 1)) (hr : Steps p.tables e below (T.setTop (mkF m (pc + 1) Ls (.long (x + y) :: S))) target) : Steps p.tables e below (T.setTop (mkF m pc Ls (.long y :: .long x :: S))) target := XS.ladd (g := mkF m pc Ls (.long y :: .long x :: S)) X.here hx rfl (hb hby hd) rfl hr
theorem y_lsub (X : Stand p l e R s m args below meth c T locs cells slots) (hx : p.tables.exec = Jvm.exec) (hby : c.code = bytes) {x y : Int64} (hd : decode bytes pc = .ok (.lsub, 1)) (hr : Steps p.tables e below (T.setTop (mkF m (pc + 1) Ls (.long (x - y) :: S))) target) : Steps p.tables e below (T.setTop (mkF m pc Ls (.long y :: .long x :: S))) target := XS.lsub (g := mkF m pc Ls (.long y :: .long x :: S)) X.here hx rfl (hb hby hd) rfl hr
theorem y_lmul (X : Stand p l e R s m args below meth c T locs cells slots) (hx : p.tables.exec = Jvm.exec) (hby : c.code = bytes) {x y : Int64} (hd : decode bytes pc = .ok (.lmul, 1)) (hr : Steps p.tables e below (T.setTop (mkF m (pc + 1) Ls (.long (x * y) :: S))) target) : Steps p.tables e below (T.setTop (mkF m pc Ls (.long y :: .long x :: S))) target := XS.lmul (g := mkF m pc Ls (.long y :: .long x :: S)) X.here hx rfl (hb hby hd) rfl hr
theorem y_land (X : Stand p l e R s m args below meth c T locs cells slots) (hx : p.tables.exec = Jvm.exec) (hby : c.code = bytes) {x y : Int64} (hd : decode bytes pc = .ok (.land, 1)) (hr : Steps p.tables e below (T.setTop (mkF m (pc + 1) Ls (.long (x &&& y) :: S))) target) : Steps p.tables e below (T.setTop (mkF m pc Ls (.long y :: .long x :: S))) target := XS.land (g := mkF m pc Ls (.long y :: .long x :: S)) X.here hx rfl (hb hby hd) rfl hr
theorem y_lor (X : Stand p l e R s m args below meth c T locs cells slots) (hx : p.tables.exec = Jvm.exec) (hby : c.code = bytes) {x y : Int64} (hd : decode bytes pc = .ok (.lor, 1)) (hr : Steps p.tables e below (T.setTop (mkF m (pc + 1) Ls (.long (x ||| y) :: S))) target) : Steps p.tables e below (T.setTop (mkF m pc Ls (.long y :: .long x :: S))) target := XS.lor (g := mkF m pc Ls (.long y :: .long x :: S)) X.here hx rfl (hb hby hd) rfl hr
theorem y_lxor (X : Stand p l e R s m args below meth c T locs cells slots) (hx : p.tables.exec = Jvm.exec) (hby : c.code = bytes) {x y : Int64} (hd : decode bytes pc = .ok (.lxor, 1)) (hr : Steps p.tables e below (T.setTop (mkF m (pc + 1) Ls (.long (x ^^^ y) :: S))) target) : Steps p.tables e below (T.setTop (mkF m pc Ls (.long y :: .long x :: S))) target := XS.lxor (g := mkF m pc Ls (.long y :: .long x :: S)) X.here hx rfl (hb hby hd) rfl hr
theorem y_ldiv (X : Stand p l e R s m args below meth c T locs cells slots) (hx : p.tables.exec = Jvm.exec) (hby : c.code = bytes) {x y : Int64} (hd : decode bytes pc = .ok (.ldiv, 1)) (hy : y ≠ 0) (hr : Steps p.tables e below (T.setTop (mkF m (pc + 1) Ls (.long (x / y) :: S))) target) : Steps p.tables e below (T.setTop (mkF m pc Ls (.long y :: .long x :: S))) target := XS.ldiv (g := mkF m pc Ls (.long y :: .long x :: S)) X.here hx rfl (hb hby hd) rfl hy hr
theorem y_lrem (X : Stand p l e R s m args below meth c T locs cells slots) (hx : p.tables.exec = Jvm.exec) (hby : c.code = bytes) {x y : Int64} (hd : decode bytes pc = .ok (.lrem, 1)) (hy : y ≠ 0) (hr : Steps p.tables e below (T.setTop (mkF m (pc + 1) Ls (.long (x - (x / y) * y) :: S))) target) : Steps p.tables e below (T.setTop (mkF m pc Ls (.long y :: .long x :: S))) target := XS.lrem (g := mkF m pc Ls (.long y :: .long x :: S)) X.here hx rfl (hb hby hd) rfl hy hr
theorem y_idiv (X : Stand p l e R s m args below meth c T locs cells slots) (hx : p.tables.exec = Jvm.exec) (hby : c.code = bytes) {x y : Int32} (hd : decode bytes pc = .ok (.idiv, 1)) (hy : y ≠ 0) (hr : Steps p.tables e below (T.setTop (mkF m (pc + 1) Ls (.int (x / y) :: S))) target) : Steps p.tables e below (T.setTop (mkF m pc Ls (.int y :: .int x :: S))) target := XS.idiv (g := mkF m pc Ls (.int y :: .int x :: S)) X.here hx rfl (hb hby hd) rfl hy hr
theorem y_ineg (X : Stand p l e R s m args below meth c T locs cells slots) (hx : p.tables.exec = Jvm.exec) (hby : c.code = bytes) {x : Int32} (hd : decode bytes pc = .ok (.ineg, 1)) (hr : Steps p.tables e below (T.setTop (mkF m (pc + 1) Ls (.int (-x) :: S))) target) : Steps p.tables e below (T.setTop (mkF m pc Ls (.int x :: S))) target := XS.ineg (g := mkF m pc Ls (.int x :: S)) X.here hx rfl (hb hby hd) rfl hr
theorem y_i2l (X : Stand p l e R s m args below meth c T locs cells slots) (hx : p.tables.exec = Jvm.exec) (hby : c.code = bytes) {x : Int32} (hd : decode bytes pc = .ok (.i2l, 1)) (hr : Steps p.tables e below (T.setTop (mkF m (pc + 1) Ls (.long (x.toInt64) :: S))) target) : Steps p.tables e below (T.setTop (mkF m pc Ls (.int x :: S))) target := XS.i2l (g := mkF m pc Ls (.int x :: S)) X.here hx rfl (hb hby hd) rfl hr
theorem y_l2i (X : Stand p l e R s m args below meth c T locs cells slots) (hx : p.tables.exec = Jvm.exec) (hby : c.code = bytes) {x : Int64} (hd : decode bytes pc = .ok (.l2i, 1)) (hr : Steps p.tables e below (T.setTop (mkF m (pc + 1) Ls (.int (x.toInt32) :: S))) target) : Steps p.tables e below (T.setTop (mkF m pc Ls (.long x :: S))) target := XS.l2i (g := mkF m pc Ls (.long x :: S)) X.here hx rfl (hb hby hd) rfl hr
theorem y_i2b (X : Stand p l e R s m args below meth c T locs cells slots) (hx : p.tables.exec = Jvm.exec) (hby : c.code = bytes) {x : Int32} (hd : decode bytes pc = .ok (.i2b, 1)) (hr : Steps p.tables e below (T.setTop (mkF m (pc + 1) Ls (.int (x.toInt8.toInt32) :: S))) target) : Steps p.tables e below (T.setTop (mkF m pc Ls (.int x :: S))) target := XS.i2b (g := mkF m pc Ls (.int x :: S)) X.here hx rfl (hb hby hd) rfl hr
theorem y_i2c (X : Stand p l e R s m args below meth c T locs cells slots) (hx : p.tables.exec = Jvm.exec) (hby : c.code = bytes) {x : Int32} (hd : decode bytes pc = .ok (.i2c, 1)) (hr : Steps p.tables e below (T.setTop (mkF m (pc + 1) Ls (.int (x.toUInt32.toUInt16.toUInt32.toInt32) :: S))) target) : Steps p.tables e below (T.setTop (mkF m pc Ls (.int x :: S))) target := XS.i2c (g := mkF m pc Ls (.int x :: S)) X.here hx rfl (hb hby hd) rfl hr
theorem y_i2s (X : Stand p l e R s m args below meth c T locs cells slots) (hx : p.tables.exec = Jvm.exec) (hby : c.code = bytes) {x : Int32} (hd : decode bytes pc = .ok (.i2s, 1)) (hr : Steps p.tables e below (T.setTop (mkF m (pc + 1) Ls (.int (x.toInt16.toInt32) :: S))) target) : Steps p.tables e below (T.setTop (mkF m pc Ls (.int x :: S))) target := XS.i2s (g := mkF m pc Ls (.int x :: S)) X.here hx rfl (hb hby hd) rfl hr
theorem y_lcmp (X : Stand p l e R s m args below meth c T locs cells slots) (hx : p.tables.exec = Jvm.exec) (hby : c.code = bytes) {x y : Int64} (hd : decode bytes pc = .ok (.lcmp, 1)) (hr : Steps p.tables e below (T.setTop (mkF m (pc + 1) Ls (.int (lcmpW x y) :: S))) target) : Steps p.tables e below (T.setTop (mkF m pc Ls (.long y :: .long x :: S))) target := XS.lcmp (g := mkF m pc Ls (.long y :: .long x :: S)) X.here hx rfl (hb hby hd) rfl hr
theorem y_iinc (X : Stand p l e R s m args below meth c T locs cells slots) (hx : p.tables.exec = Jvm.exec) (hby : c.code = bytes) {k : Nat} {d : Int} {x : Int32} {l' : Array Slot} (hd : decode bytes pc = .ok (.iinc k d, 3)) (hl : Ls[k]? = some (.val (.int x))) (hl' : storeLocals Ls k (.int (x + Int32.ofInt d)) = some l') (hr : Steps p.tables e below (T.setTop (mkF m (pc + 3) l' S)) target) : Steps p.tables e below (T.setTop (mkF m pc Ls S)) target := XS.iinc (g := mkF m pc Ls S) X.here hx rfl (hb hby hd) hl hl' hr
theorem y_dup (X : Stand p l e R s m args below meth c T locs cells slots) (hx : p.tables.exec = Jvm.exec) (hby : c.code = bytes) {x : Value} (hd : decode bytes pc = .ok (.dup, 1)) (hc : x.category = 1) (hr : Steps p.tables e below (T.setTop (mkF m (pc + 1) Ls (x :: x :: S))) target) : Steps p.tables e below (T.setTop (mkF m pc Ls (x :: S))) target := XS.dup (g := mkF m pc Ls (x :: S)) X.here hx rfl (hb hby hd) rfl hc hr
theorem y_pop (X : Stand p l e R s m args below meth c T locs cells slots) (hx : p.tables.exec = Jvm.exec) (hby : c.code = bytes) {x : Value} (hd : decode bytes pc = .ok (.pop, 1)) (hc : x.category = 1) (hr : Steps p.tables e below (T.setTop (mkF m (pc + 1) Ls S)) target) : Steps p.tables e below (T.setTop (mkF m pc Ls (x :: S))) target := XS.pop (g := mkF m pc Ls (x :: S)) X.here hx rfl (hb hby hd) rfl hc hr
theorem y_dupX1 (X : Stand p l e R s m args below meth c T locs cells slots) (hx : p.tables.exec = Jvm.exec) (hby : c.code = bytes) {x y : Value} (hd : decode bytes pc = .ok (.dup_x1, 1)) (hc : x.category = 1) (hc' : y.category = 1) (hr : Steps p.tables e below (T.setTop (mkF m (pc + 1) Ls (x :: y :: x :: S))) target) : Steps p.tables e below (T.setTop (mkF m pc Ls (x :: y :: S))) target := XS.dupX1 (g := mkF m pc Ls (x :: y :: S)) X.here hx rfl (hb hby hd) rfl hc hc' hr
theorem y_goto (X : Stand p l e R s m args below meth c T locs cells slots) (hx : p.tables.exec = Jvm.exec) (hby : c.code = bytes)  {o : Int} {pc' : Nat} (hd : decode bytes pc = .ok (.goto o, 3))  (ho : 0 ≤ (pc : Int) + o) (hp : ((pc : Int) + o).toNat = pc') (hr : Steps p.tables e below (T.setTop (mkF m pc' Ls S)) target) : Steps p.tables e below (T.setTop (mkF m pc Ls S)) target := XS.goto (g := mkF m pc Ls S) X.here hx rfl rfl (hb hby hd)  ho hp hr
theorem y_ifYes (X : Stand p l e R s m args below meth c T locs cells slots) (hx : p.tables.exec = Jvm.exec) (hby : c.code = bytes) {cd : ClassFile.Cond} {x : Int32} {o : Int} {pc' : Nat} (hd : decode bytes pc = .ok (.ifCond cd o, 3)) (hc : ifCond.holds cd x = true) (ho : 0 ≤ (pc : Int) + o) (hp : ((pc : Int) + o).toNat = pc') (hr : Steps p.tables e below (T.setTop (mkF m pc' Ls S)) target) : Steps p.tables e below (T.setTop (mkF m pc Ls (.int x :: S))) target := XS.ifYes (g := mkF m pc Ls (.int x :: S)) X.here hx rfl rfl (hb hby hd) rfl hc ho hp hr
theorem y_icmpYes (X : Stand p l e R s m args below meth c T locs cells slots) (hx : p.tables.exec = Jvm.exec) (hby : c.code = bytes) {cd : ClassFile.Cond} {x y : Int32} {o : Int} {pc' : Nat} (hd : decode bytes pc = .ok (.if_icmp cd o, 3)) (hc : if_icmp.holds cd x y = true) (ho : 0 ≤ (pc : Int) + o) (hp : ((pc : Int) + o).toNat = pc') (hr : Steps p.tables e below (T.setTop (mkF m pc' Ls S)) target) : Steps p.tables e below (T.setTop (mkF m pc Ls (.int y :: .int x :: S))) target := XS.icmpYes (g := mkF m pc Ls (.int y :: .int x :: S)) X.here hx rfl rfl (hb hby hd) rfl hc ho hp hr
theorem y_ifnullYes (X : Stand p l e R s m args below meth c T locs cells slots) (hx : p.tables.exec = Jvm.exec) (hby : c.code = bytes)  {o : Int} {pc' : Nat} (hd : decode bytes pc = .ok (.ifnull o, 3))  (ho : 0 ≤ (pc : Int) + o) (hp : ((pc : Int) + o).toNat = pc') (hr : Steps p.tables e below (T.setTop (mkF m pc' Ls S)) target) : Steps p.tables e below (T.setTop (mkF m pc Ls (.null :: S))) target := XS.ifnullYes (g := mkF m pc Ls (.null :: S)) X.here hx rfl rfl (hb hby hd) rfl ho hp hr
theorem y_ifnonnullYes (X : Stand p l e R s m args below meth c T locs cells slots) (hx : p.tables.exec = Jvm.exec) (hby : c.code = bytes) {b : Addr} {o : Int} {pc' : Nat} (hd : decode bytes pc = .ok (.ifnonnull o, 3))  (ho : 0 ≤ (pc : Int) + o) (hp : ((pc : Int) + o).toNat = pc') (hr : Steps p.tables e below (T.setTop (mkF m pc' Ls S)) target) : Steps p.tables e below (T.setTop (mkF m pc Ls (.ref b :: S))) target := XS.ifnonnullYes (g := mkF m pc Ls (.ref b :: S)) X.here hx rfl rfl (hb hby hd) rfl ho hp hr
theorem y_ifNo (X : Stand p l e R s m args below meth c T locs cells slots) (hx : p.tables.exec = Jvm.exec) (hby : c.code = bytes) {cd : ClassFile.Cond} {o : Int} {x : Int32} (hd : decode bytes pc = .ok (.ifCond cd o, 3)) (hc : ifCond.holds cd x = false) (hr : Steps p.tables e below (T.setTop (mkF m (pc + 3) Ls S)) target) : Steps p.tables e below (T.setTop (mkF m pc Ls (.int x :: S))) target := XS.ifNo (g := mkF m pc Ls (.int x :: S)) X.here hx rfl (hb hby hd) rfl hc hr
theorem y_icmpNo (X : Stand p l e R s m args below meth c T locs cells slots) (hx : p.tables.exec = Jvm.exec) (hby : c.code = bytes) {cd : ClassFile.Cond} {o : Int} {x y : Int32} (hd : decode bytes pc = .ok (.if_icmp cd o, 3)) (hc : if_icmp.holds cd x y = false) (hr : Steps p.tables e below (T.setTop (mkF m (pc + 3) Ls S)) target) : Steps p.tables e below (T.setTop (mkF m pc Ls (.int y :: .int x :: S))) target := XS.icmpNo (g := mkF m pc Ls (.int y :: .int x :: S)) X.here hx rfl (hb hby hd) rfl hc hr
theorem y_ifnullNo (X : Stand p l e R s m args below meth c T locs cells slots) (hx : p.tables.exec = Jvm.exec) (hby : c.code = bytes) {o : Int} {b : Addr} (hd : decode bytes pc = .ok (.ifnull o, 3)) (hr : Steps p.tables e below (T.setTop (mkF m (pc + 3) Ls S)) target) : Steps p.tables e below (T.setTop (mkF m pc Ls (.ref b :: S))) target := XS.ifnullNo (g := mkF m pc Ls (.ref b :: S)) X.here hx rfl (hb hby hd) rfl hr
theorem y_ifnonnullNo (X : Stand p l e R s m args below meth c T locs cells slots) (hx : p.tables.exec = Jvm.exec) (hby : c.code = bytes) {o : Int} (hd : decode bytes pc = .ok (.ifnonnull o, 3)) (hr : Steps p.tables e below (T.setTop (mkF m (pc + 3) Ls S)) target) : Steps p.tables e below (T.setTop (mkF m pc Ls (.null :: S))) target := XS.ifnonnullNo (g := mkF m pc Ls (.null :: S)) X.here hx rfl (hb hby hd) rfl hr
end YS
theorem ww {Z : State} {a0 : Array Value} (hw : ∀ d ∈ tables_1, d.before a0 Z = true) (i : Nat) {d : Jvm.Cond} (h : tables_1[i]? = some d) : d.before a0 Z = true := hw _ (List.mem_of_getElem? h)
abbrev HW (a0 : Array Value) (Z : State) : Prop := ∀ d ∈ tables_1, d.before a0 Z = true
abbrev GO (p : Program) (e : Env) (below : List Frame) (A B : State) : Prop := ∀ t, Steps p.tables e below A t → Steps p.tables e below B t
abbrev MF (l : Launch) (y : MethodName) (bytes : ByteArray) (maxL : Nat) (ret : Option FieldType) (ws : List Jvm.Cond) (rm : Room) (as' : Array Value) (Z : State) (h0 : Heap) (Q : Option Value → Heap → List Loc → Prop) : Prop := MetFree l y (head1 (Jvm.Cond.code y bytes maxL ret :: ws) rm) (fun a U => a = as' ∧ Z.Warmed39 U.vm ∧ U.heap = h0) (fun _ _ _ _ _ => True) (fun _ U o U' => ∃ v L, o = .returned v ∧ Q v U'.heap L ∧ FrameEnd U o U' L rm.cells rm.slots)
def QL (w : Option Value) (n0 : Nat) (v : Option Value) (h : Heap) (L : List Loc) : Prop := v = w ∧ Fr n0 L
theorem own_mvMN {Z s : State} {a0 args : Array Value} {own host : String} {y : MethodName} {index : Nat} (hZ : Z.Warmed39 s.vm) (w : (Jvm.Cond.methodLinkNest own index y host).before a0 Z = true) : (Jvm.Cond.methodLinkNest own index y host).before args s = true := (Cond.methodLinkNest_wide hZ w :)
def QN (Z : State) (b : Addr) (h0 : Heap) (n0 : Nat) (v : Option Value) (h : Heap) (L : List Loc) : Prop := v = none ∧ Fr n0 L ∧ Keep h0 h [b] ∧ Exa Z h b "com/example/hard_delay_bounds/harddelaybounds/analysis/FlowSet$Builder" ∧ Fld Z h b "com/example/hard_delay_bounds/harddelaybounds/analysis/FlowSet$Builder" "size" "I" (.int (0 : Int32)) ∧ ∃ A k, h0.size ≤ A ∧ Fld Z h b "com/example/hard_delay_bounds/harddelaybounds/analysis/FlowSet$Builder" "numbers" "[I" (.ref A) ∧ Arv Z h A k .int (4 : Int32) [(.int (0 : Int32)), (.int (0 : Int32)), (.int (0 : Int32)), (.int (0 : Int32))] (.int (0 : Int32)) ∧ Exa Z h A "[I"
def QC (Z : State) (n : Int32) (vs : List Value) (h0 : Heap) (n0 : Nat) (v : Option Value) (h : Heap) (L : List Loc) : Prop := ∃ B k, v = some (.ref B) ∧ Fr n0 L ∧ Keep h0 h [] ∧ h0.size ≤ B ∧ Arv Z h B k .int n vs (.int (0 : Int32)) ∧ Exa Z h B "[I"
def QA (Z : State) (b A : Addr) (k : ClassId) (cap sz : Int32) (vs : List Value) (h0 : Heap) (n0 : Nat) (v : Option Value) (h : Heap) (L : List Loc) : Prop := v = some (.ref b) ∧ Fr n0 L ∧ Keep h0 h [b, A] ∧ Fld Z h b "com/example/hard_delay_bounds/harddelaybounds/analysis/FlowSet$Builder" "size" "I" (.int sz) ∧ Fld Z h b "com/example/hard_delay_bounds/harddelaybounds/analysis/FlowSet$Builder" "numbers" "[I" (.ref A) ∧ Arv Z h A k .int cap vs (.int (0 : Int32))
def QG (Z : State) (b : Addr) (cap sz : Int32) (vs : List Value) (h0 : Heap) (n0 : Nat) (v : Option Value) (h : Heap) (L : List Loc) : Prop := ∃ A k, v = some (.ref b) ∧ Fr n0 L ∧ Keep h0 h [b] ∧ h0.size ≤ A ∧ Fld Z h b "com/example/hard_delay_bounds/harddelaybounds/analysis/FlowSet$Builder" "size" "I" (.int sz) ∧ Fld Z h b "com/example/hard_delay_bounds/harddelaybounds/analysis/FlowSet$Builder" "numbers" "[I" (.ref A) ∧ Arv Z h A k .int cap vs (.int (0 : Int32)) ∧ Exa Z h A "[I"
def QI (Z : State) (b A : Addr) (h0 : Heap) (n0 : Nat) (v : Option Value) (h : Heap) (L : List Loc) : Prop := v = none ∧ Fr n0 L ∧ Keep h0 h [b] ∧ Fld Z h b "com/example/hard_delay_bounds/harddelaybounds/analysis/FlowSet" "numbers" "[I" (.ref A)
def QS (Z : State) (n : Int32) (vs : List Value) (h0 : Heap) (n0 : Nat) (v : Option Value) (h : Heap) (L : List Loc) : Prop := ∃ b B k, v = some (.ref b) ∧ Fr n0 L ∧ Keep h0 h [] ∧ h0.size ≤ b ∧ h0.size ≤ B ∧ Exa Z h b "com/example/hard_delay_bounds/harddelaybounds/analysis/FlowSet" ∧ Fld Z h b "com/example/hard_delay_bounds/harddelaybounds/analysis/FlowSet" "numbers" "[I" (.ref B) ∧ Arv Z h B k .int n vs (.int (0 : Int32))
theorem d1_0 : decode jdk_29_method_69_code 0 = .ok (.iload_n 0, 1) := by decide +kernel
theorem d1_1 : decode jdk_29_method_69_code 1 = .ok (.iload_n 1, 1) := by decide +kernel
theorem d1_2 : decode jdk_29_method_69_code 2 = .ok (.if_icmp .gt 7, 3) := by decide +kernel
theorem d1_9 : decode jdk_29_method_69_code 9 = .ok (.iload_n 1, 1) := by decide +kernel
theorem d1_10 : decode jdk_29_method_69_code 10 = .ok (.ireturn, 1) := by decide +kernel
theorem d1_5 : decode jdk_29_method_69_code 5 = .ok (.iload_n 0, 1) := by decide +kernel
theorem d1_6 : decode jdk_29_method_69_code 6 = .ok (.goto 4, 3) := by decide +kernel
abbrev mn0 : MethodName := ⟨"java/lang/Math", "min", "(II)I"⟩
theorem ef_1 (m : MethodId) (x0 : Int32) (x1 : Int32) : entryFrame m #[(.int x0), (.int x1)] 2 = mkF m 0 #[.val (.int x0), .val (.int x1)] [] := by first | (simp [entryFrame, mkF, argsToLocals, Value.category]; done) | rfl
def f1 (p1 p2 : Int32) : Int32 := (if p2 < p1 then p2 else p1)
set_option maxRecDepth 65536 in
set_option maxHeartbeats 40000000 in
theorem rm1 (l : Launch) (Z : State) (a0 : Array Value) (hw : HW a0 Z) (ws : List Jvm.Cond) (p1 p2 : Int32) (h0 : Heap) (n0 : Nat) (Z0 : n0 ≤ h0.size) :
    MF l mn0 jdk_29_method_69_code 2 (some .int) ws ({ frames := 0, cells := 0, slots := 0, locals := 0 } : Room) #[(.int p1), (.int p2)] Z h0 (QP (some (.int (f1 p1 p2))) h0 n0) := by
  refine MetFree.of_bodySF (Jvm.Free.JP.mathPlain rfl (by decide +kernel)) hisR ?_
  intro p e s m args below meth c s₁ Bd hml0 hP hK
  obtain ⟨rfl, hZ, hh⟩ := hP
  have hx := Bd.exec
  have hby := Bd.bytes
  have hml : c.maxLocals = 2 := hml0
  have hown : s.vm.findClass "java/lang/Math" = some m.cls := findClass_of_methodNamed Bd.named
  have hnm := (name_of_methodNamed Bd.named Bd.method).1
  have X0 : Stand p l e ({ frames := 0, cells := 0, slots := 0, locals := 0 } : Room) s m #[(.int p1), (.int p2)] below meth c s₁ [] 0 0 := Stand.of_body Bd
  have e0 : s₁.heap = h0 := by rw [← hh, Bd.state]; rfl
  have N0 := Fr.nil n0
  have pre0 : GO p e below (s₁.setTop (mkF m 0 #[.val (.int p1), .val (.int p2)] [])) (s₁.setTop (entryFrame m #[(.int p1), (.int p2)] 2)) := fun t k => castTop (ef_1 m p1 p2) k
  have pre2 : GO p e below (s₁.setTop (mkF m 2 #[.val (.int p1), .val (.int p2)] [(.int p2), (.int p1)])) (s₁.setTop (entryFrame m #[(.int p1), (.int p2)] 2)) := fun t k => by
    refine pre0 _ ?_
    refine y_iloadN X0 hx hby d1_0 rfl ?_
    refine y_iloadN X0 hx hby d1_1 rfl ?_
    exact k
  by_cases hc1 : p2 < p1
  · obtain ⟨fs, hr, hrun, hended, hW, hsame⟩ := X0.leave (v := some (.int p2)) (fun h => by rw [Bd.returns] at h; cases h)
    refine ⟨_, _, pre2 _ ?_, hrun, hended, _, _, rfl, ?_, ⟨_, rfl⟩, hW, hsame.mono (by decide) (by decide)⟩
    · refine y_icmpYes X0 hx hby (pc' := 9) d1_2 (tlt hc1).2.2.1 (by decide) (by decide) ?_
      refine y_iloadN X0 hx hby d1_9 rfl ?_
      exact retI X0 hx Bd.returns (hb hby d1_10) hr
    · show QP _ h0 n0 _ s₁.heap _
      rw [e0, show f1 p1 p2 = p2 from by unfold f1; rw [if_pos hc1]]
      exact ⟨rfl, N0, rfl⟩
  · obtain ⟨fs, hr, hrun, hended, hW, hsame⟩ := X0.leave (v := some (.int p1)) (fun h => by rw [Bd.returns] at h; cases h)
    refine ⟨_, _, pre2 _ ?_, hrun, hended, _, _, rfl, ?_, ⟨_, rfl⟩, hW, hsame.mono (by decide) (by decide)⟩
    · refine y_icmpNo X0 hx hby d1_2 (flt hc1).2.2.1 ?_
      refine y_iloadN X0 hx hby d1_5 rfl ?_
      refine y_goto X0 hx hby (pc' := 10) d1_6 (by decide) (by decide) ?_
      exact retI X0 hx Bd.returns (hb hby d1_10) hr
    · show QP _ h0 n0 _ s₁.heap _
      rw [e0, show f1 p1 p2 = p1 from by unfold f1; rw [if_neg hc1]]
      exact ⟨rfl, N0, rfl⟩
theorem d9_0 : decode method_2_code 0 = .ok (.iload_n 0, 1) := by decide +kernel
theorem d9_1 : decode method_2_code 1 = .ok (.ifCond .ne 5, 3) := by decide +kernel
theorem d9_4 : decode method_2_code 4 = .ok (.lload_n 1, 1) := by decide +kernel
theorem d9_5 : decode method_2_code 5 = .ok (.lreturn, 1) := by decide +kernel
theorem d9_6 : decode method_2_code 6 = .ok (.iload_n 0, 1) := by decide +kernel
theorem d9_7 : decode method_2_code 7 = .ok (.iconst 1, 1) := by decide +kernel
theorem d9_8 : decode method_2_code 8 = .ok (.if_icmp .ne 5, 3) := by decide +kernel
theorem d9_11 : decode method_2_code 11 = .ok (.lload_n 3, 1) := by decide +kernel
theorem d9_12 : decode method_2_code 12 = .ok (.lreturn, 1) := by decide +kernel
theorem d9_13 : decode method_2_code 13 = .ok (.iload_n 0, 1) := by decide +kernel
theorem d9_14 : decode method_2_code 14 = .ok (.iconst 2, 1) := by decide +kernel
theorem d9_15 : decode method_2_code 15 = .ok (.if_icmp .ne 6, 3) := by decide +kernel
theorem d9_18 : decode method_2_code 18 = .ok (.lload 5, 2) := by decide +kernel
theorem d9_20 : decode method_2_code 20 = .ok (.lreturn, 1) := by decide +kernel
theorem d9_21 : decode method_2_code 21 = .ok (.iload_n 0, 1) := by decide +kernel
theorem d9_22 : decode method_2_code 22 = .ok (.iconst 3, 1) := by decide +kernel
theorem d9_23 : decode method_2_code 23 = .ok (.if_icmp .ne 6, 3) := by decide +kernel
theorem d9_26 : decode method_2_code 26 = .ok (.lload 7, 2) := by decide +kernel
theorem d9_28 : decode method_2_code 28 = .ok (.lreturn, 1) := by decide +kernel
theorem d9_29 : decode method_2_code 29 = .ok (.iload_n 0, 1) := by decide +kernel
theorem d9_30 : decode method_2_code 30 = .ok (.iconst 4, 1) := by decide +kernel
theorem d9_31 : decode method_2_code 31 = .ok (.if_icmp .ne 6, 3) := by decide +kernel
theorem d9_34 : decode method_2_code 34 = .ok (.lload 9, 2) := by decide +kernel
theorem d9_36 : decode method_2_code 36 = .ok (.lreturn, 1) := by decide +kernel
theorem d9_37 : decode method_2_code 37 = .ok (.lload 11, 2) := by decide +kernel
theorem d9_39 : decode method_2_code 39 = .ok (.lreturn, 1) := by decide +kernel
abbrev mn1 : MethodName := ⟨"com/example/hard_delay_bounds/harddelaybounds/analysis/FlowSetBuildPinLaw", "pick", "(IJJJJJJ)J"⟩
theorem pn_9 : plainName "com/example/hard_delay_bounds/harddelaybounds/analysis/FlowSetBuildPinLaw" = true := by first | (simp [plainName, overriddenIn]; done) | decide +kernel
theorem ef_9 (m : MethodId) (x0 : Int32) (x1 : Int64) (x2 : Int64) (x3 : Int64) (x4 : Int64) (x5 : Int64) (x6 : Int64) : entryFrame m #[(.int x0), (.long x1), (.long x2), (.long x3), (.long x4), (.long x5), (.long x6)] 13 = mkF m 0 #[.val (.int x0), .val (.long x1), .second, .val (.long x2), .second, .val (.long x3), .second, .val (.long x4), .second, .val (.long x5), .second, .val (.long x6), .second] [] := by first | (simp [entryFrame, mkF, argsToLocals, Value.category]; done) | rfl
abbrev lo9_0 (p1 : Int32) (q2 q3 q4 q5 q6 q7 : Int64) : Array Slot := #[.val (.int p1), .val (.long q2), .second, .val (.long q3), .second, .val (.long q4), .second, .val (.long q5), .second, .val (.long q6), .second, .val (.long q7), .second]
def f9 (p1 : Int32) (q2 q3 q4 q5 q6 q7 : Int64) : Int64 := (if p1 = (0 : Int32) then q2 else (if p1 = (1 : Int32) then q3 else (if p1 = (2 : Int32) then q4 else (if p1 = (3 : Int32) then q5 else (if p1 = (4 : Int32) then q6 else q7)))))
set_option maxRecDepth 65536 in
set_option maxHeartbeats 40000000 in
theorem rm9 (l : Launch) (Z : State) (a0 : Array Value) (hw : HW a0 Z) (ws : List Jvm.Cond) (p1 : Int32) (q2 q3 q4 q5 q6 q7 : Int64) (h0 : Heap) (n0 : Nat) (Z0 : n0 ≤ h0.size) :
    MF l mn1 method_2_code 13 (some .long) ws ({ frames := 0, cells := 0, slots := 0, locals := 0 } : Room) #[(.int p1), (.long q2), (.long q3), (.long q4), (.long q5), (.long q6), (.long q7)] Z h0 (QP (some (.long (f9 p1 q2 q3 q4 q5 q6 q7))) h0 n0) := by
  refine MetFree.of_bodySF (plainFor_of_name pn_9) hisR ?_
  intro p e s m args below meth c s₁ Bd hml0 hP hK
  obtain ⟨rfl, hZ, hh⟩ := hP
  have hx := Bd.exec
  have hby := Bd.bytes
  have hml : c.maxLocals = 13 := hml0
  have hown : s.vm.findClass "com/example/hard_delay_bounds/harddelaybounds/analysis/FlowSetBuildPinLaw" = some m.cls := findClass_of_methodNamed Bd.named
  have hnm := (name_of_methodNamed Bd.named Bd.method).1
  have X0 : Stand p l e ({ frames := 0, cells := 0, slots := 0, locals := 0 } : Room) s m #[(.int p1), (.long q2), (.long q3), (.long q4), (.long q5), (.long q6), (.long q7)] below meth c s₁ [] 0 0 := Stand.of_body Bd
  have e0 : s₁.heap = h0 := by rw [← hh, Bd.state]; rfl
  have N0 := Fr.nil n0
  have pre0 : GO p e below (s₁.setTop (mkF m 0 #[.val (.int p1), .val (.long q2), .second, .val (.long q3), .second, .val (.long q4), .second, .val (.long q5), .second, .val (.long q6), .second, .val (.long q7), .second] [])) (s₁.setTop (entryFrame m #[(.int p1), (.long q2), (.long q3), (.long q4), (.long q5), (.long q6), (.long q7)] 13)) := fun t k => castTop (ef_9 m p1 q2 q3 q4 q5 q6 q7) k
  have pre4 : GO p e below (s₁.setTop (mkF m 1 (lo9_0 p1 q2 q3 q4 q5 q6 q7) [(.int p1)])) (s₁.setTop (entryFrame m #[(.int p1), (.long q2), (.long q3), (.long q4), (.long q5), (.long q6), (.long q7)] 13)) := fun t k => by
    refine pre0 _ ?_
    refine y_iloadN X0 hx hby d9_0 rfl ?_
    exact k
  by_cases hc3 : p1 = (0 : Int32)
  · obtain ⟨fs, hr, hrun, hended, hW, hsame⟩ := X0.leave (v := some (.long q2)) (fun h => by rw [Bd.returns] at h; cases h)
    refine ⟨_, _, pre4 _ ?_, hrun, hended, _, _, rfl, ?_, ⟨_, rfl⟩, hW, hsame.mono (by decide) (by decide)⟩
    · refine y_ifNo X0 hx hby d9_1 ((if0 _ _).trans (teq hc3).2) ?_
      refine y_lloadN X0 hx hby d9_4 rfl ?_
      show Steps p.tables e below (s₁.setTop (mkF m 5 (lo9_0 p1 q2 q3 q4 q5 q6 q7) [(.long q2)])) _
      exact X0.lreturnOut hx Bd.returns (hb hby d9_5) hr
    · show QP _ h0 n0 _ s₁.heap _
      rw [e0, show f9 p1 q2 q3 q4 q5 q6 q7 = q2 from by unfold f9; rw [if_pos hc3]]
      exact ⟨rfl, N0, rfl⟩
  · have pre6 : GO p e below (s₁.setTop (mkF m 8 (lo9_0 p1 q2 q3 q4 q5 q6 q7) [(.int (1 : Int32)), (.int p1)])) (s₁.setTop (entryFrame m #[(.int p1), (.long q2), (.long q3), (.long q4), (.long q5), (.long q6), (.long q7)] 13)) := fun t k => by
      refine pre4 _ ?_
      refine y_ifYes X0 hx hby (pc' := 6) d9_1 ((if0 _ _).trans (feq hc3).2) (by decide) (by decide) ?_
      refine y_iloadN X0 hx hby d9_6 rfl ?_
      refine y_iconst X0 hx hby (v := (1 : Int32)) d9_7 rfl ?_
      exact k
    by_cases hc5 : p1 = (1 : Int32)
    · obtain ⟨fs, hr, hrun, hended, hW, hsame⟩ := X0.leave (v := some (.long q3)) (fun h => by rw [Bd.returns] at h; cases h)
      refine ⟨_, _, pre6 _ ?_, hrun, hended, _, _, rfl, ?_, ⟨_, rfl⟩, hW, hsame.mono (by decide) (by decide)⟩
      · refine y_icmpNo X0 hx hby d9_8 (teq hc5).2 ?_
        refine y_lloadN X0 hx hby d9_11 rfl ?_
        show Steps p.tables e below (s₁.setTop (mkF m 12 (lo9_0 p1 q2 q3 q4 q5 q6 q7) [(.long q3)])) _
        exact X0.lreturnOut hx Bd.returns (hb hby d9_12) hr
      · show QP _ h0 n0 _ s₁.heap _
        rw [e0, show f9 p1 q2 q3 q4 q5 q6 q7 = q3 from by unfold f9; rw [if_neg hc3, if_pos hc5]]
        exact ⟨rfl, N0, rfl⟩
    · have pre8 : GO p e below (s₁.setTop (mkF m 15 (lo9_0 p1 q2 q3 q4 q5 q6 q7) [(.int (2 : Int32)), (.int p1)])) (s₁.setTop (entryFrame m #[(.int p1), (.long q2), (.long q3), (.long q4), (.long q5), (.long q6), (.long q7)] 13)) := fun t k => by
        refine pre6 _ ?_
        refine y_icmpYes X0 hx hby (pc' := 13) d9_8 (feq hc5).2 (by decide) (by decide) ?_
        refine y_iloadN X0 hx hby d9_13 rfl ?_
        refine y_iconst X0 hx hby (v := (2 : Int32)) d9_14 rfl ?_
        exact k
      by_cases hc7 : p1 = (2 : Int32)
      · obtain ⟨fs, hr, hrun, hended, hW, hsame⟩ := X0.leave (v := some (.long q4)) (fun h => by rw [Bd.returns] at h; cases h)
        refine ⟨_, _, pre8 _ ?_, hrun, hended, _, _, rfl, ?_, ⟨_, rfl⟩, hW, hsame.mono (by decide) (by decide)⟩
        · refine y_icmpNo X0 hx hby d9_15 (teq hc7).2 ?_
          refine y_lload X0 hx hby d9_18 rfl ?_
          show Steps p.tables e below (s₁.setTop (mkF m 20 (lo9_0 p1 q2 q3 q4 q5 q6 q7) [(.long q4)])) _
          exact X0.lreturnOut hx Bd.returns (hb hby d9_20) hr
        · show QP _ h0 n0 _ s₁.heap _
          rw [e0, show f9 p1 q2 q3 q4 q5 q6 q7 = q4 from by unfold f9; rw [if_neg hc3, if_neg hc5, if_pos hc7]]
          exact ⟨rfl, N0, rfl⟩
      · have pre10 : GO p e below (s₁.setTop (mkF m 23 (lo9_0 p1 q2 q3 q4 q5 q6 q7) [(.int (3 : Int32)), (.int p1)])) (s₁.setTop (entryFrame m #[(.int p1), (.long q2), (.long q3), (.long q4), (.long q5), (.long q6), (.long q7)] 13)) := fun t k => by
          refine pre8 _ ?_
          refine y_icmpYes X0 hx hby (pc' := 21) d9_15 (feq hc7).2 (by decide) (by decide) ?_
          refine y_iloadN X0 hx hby d9_21 rfl ?_
          refine y_iconst X0 hx hby (v := (3 : Int32)) d9_22 rfl ?_
          exact k
        by_cases hc9 : p1 = (3 : Int32)
        · obtain ⟨fs, hr, hrun, hended, hW, hsame⟩ := X0.leave (v := some (.long q5)) (fun h => by rw [Bd.returns] at h; cases h)
          refine ⟨_, _, pre10 _ ?_, hrun, hended, _, _, rfl, ?_, ⟨_, rfl⟩, hW, hsame.mono (by decide) (by decide)⟩
          · refine y_icmpNo X0 hx hby d9_23 (teq hc9).2 ?_
            refine y_lload X0 hx hby d9_26 rfl ?_
            show Steps p.tables e below (s₁.setTop (mkF m 28 (lo9_0 p1 q2 q3 q4 q5 q6 q7) [(.long q5)])) _
            exact X0.lreturnOut hx Bd.returns (hb hby d9_28) hr
          · show QP _ h0 n0 _ s₁.heap _
            rw [e0, show f9 p1 q2 q3 q4 q5 q6 q7 = q5 from by unfold f9; rw [if_neg hc3, if_neg hc5, if_neg hc7, if_pos hc9]]
            exact ⟨rfl, N0, rfl⟩
        · have pre12 : GO p e below (s₁.setTop (mkF m 31 (lo9_0 p1 q2 q3 q4 q5 q6 q7) [(.int (4 : Int32)), (.int p1)])) (s₁.setTop (entryFrame m #[(.int p1), (.long q2), (.long q3), (.long q4), (.long q5), (.long q6), (.long q7)] 13)) := fun t k => by
            refine pre10 _ ?_
            refine y_icmpYes X0 hx hby (pc' := 29) d9_23 (feq hc9).2 (by decide) (by decide) ?_
            refine y_iloadN X0 hx hby d9_29 rfl ?_
            refine y_iconst X0 hx hby (v := (4 : Int32)) d9_30 rfl ?_
            exact k
          by_cases hc11 : p1 = (4 : Int32)
          · obtain ⟨fs, hr, hrun, hended, hW, hsame⟩ := X0.leave (v := some (.long q6)) (fun h => by rw [Bd.returns] at h; cases h)
            refine ⟨_, _, pre12 _ ?_, hrun, hended, _, _, rfl, ?_, ⟨_, rfl⟩, hW, hsame.mono (by decide) (by decide)⟩
            · refine y_icmpNo X0 hx hby d9_31 (teq hc11).2 ?_
              refine y_lload X0 hx hby d9_34 rfl ?_
              show Steps p.tables e below (s₁.setTop (mkF m 36 (lo9_0 p1 q2 q3 q4 q5 q6 q7) [(.long q6)])) _
              exact X0.lreturnOut hx Bd.returns (hb hby d9_36) hr
            · show QP _ h0 n0 _ s₁.heap _
              rw [e0, show f9 p1 q2 q3 q4 q5 q6 q7 = q6 from by unfold f9; rw [if_neg hc3, if_neg hc5, if_neg hc7, if_neg hc9, if_pos hc11]]
              exact ⟨rfl, N0, rfl⟩
          · obtain ⟨fs, hr, hrun, hended, hW, hsame⟩ := X0.leave (v := some (.long q7)) (fun h => by rw [Bd.returns] at h; cases h)
            refine ⟨_, _, pre12 _ ?_, hrun, hended, _, _, rfl, ?_, ⟨_, rfl⟩, hW, hsame.mono (by decide) (by decide)⟩
            · refine y_icmpYes X0 hx hby (pc' := 37) d9_31 (feq hc11).2 (by decide) (by decide) ?_
              refine y_lload X0 hx hby d9_37 rfl ?_
              show Steps p.tables e below (s₁.setTop (mkF m 39 (lo9_0 p1 q2 q3 q4 q5 q6 q7) [(.long q7)])) _
              exact X0.lreturnOut hx Bd.returns (hb hby d9_39) hr
            · show QP _ h0 n0 _ s₁.heap _
              rw [e0, show f9 p1 q2 q3 q4 q5 q6 q7 = q7 from by unfold f9; rw [if_neg hc3, if_neg hc5, if_neg hc7, if_neg hc9, if_neg hc11]]
              exact ⟨rfl, N0, rfl⟩
theorem d8_0 : decode jdk_29_method_65_code 0 = .ok (.iload_n 0, 1) := by decide +kernel
theorem d8_1 : decode jdk_29_method_65_code 1 = .ok (.iload_n 1, 1) := by decide +kernel
theorem d8_2 : decode jdk_29_method_65_code 2 = .ok (.if_icmp .lt 7, 3) := by decide +kernel
theorem d8_9 : decode jdk_29_method_65_code 9 = .ok (.iload_n 1, 1) := by decide +kernel
theorem d8_10 : decode jdk_29_method_65_code 10 = .ok (.ireturn, 1) := by decide +kernel
theorem d8_5 : decode jdk_29_method_65_code 5 = .ok (.iload_n 0, 1) := by decide +kernel
theorem d8_6 : decode jdk_29_method_65_code 6 = .ok (.goto 4, 3) := by decide +kernel
abbrev mn2 : MethodName := ⟨"java/lang/Math", "max", "(II)I"⟩
theorem ef_8 (m : MethodId) (x0 : Int32) (x1 : Int32) : entryFrame m #[(.int x0), (.int x1)] 2 = mkF m 0 #[.val (.int x0), .val (.int x1)] [] := by first | (simp [entryFrame, mkF, argsToLocals, Value.category]; done) | rfl
def f8 (p1 p2 : Int32) : Int32 := (if p1 < p2 then p2 else p1)
set_option maxRecDepth 65536 in
set_option maxHeartbeats 40000000 in
theorem rm8 (l : Launch) (Z : State) (a0 : Array Value) (hw : HW a0 Z) (ws : List Jvm.Cond) (p1 p2 : Int32) (h0 : Heap) (n0 : Nat) (Z0 : n0 ≤ h0.size) :
    MF l mn2 jdk_29_method_65_code 2 (some .int) ws ({ frames := 0, cells := 0, slots := 0, locals := 0 } : Room) #[(.int p1), (.int p2)] Z h0 (QP (some (.int (f8 p1 p2))) h0 n0) := by
  refine MetFree.of_bodySF (Jvm.Free.JP.mathPlain rfl (by decide +kernel)) hisR ?_
  intro p e s m args below meth c s₁ Bd hml0 hP hK
  obtain ⟨rfl, hZ, hh⟩ := hP
  have hx := Bd.exec
  have hby := Bd.bytes
  have hml : c.maxLocals = 2 := hml0
  have hown : s.vm.findClass "java/lang/Math" = some m.cls := findClass_of_methodNamed Bd.named
  have hnm := (name_of_methodNamed Bd.named Bd.method).1
  have X0 : Stand p l e ({ frames := 0, cells := 0, slots := 0, locals := 0 } : Room) s m #[(.int p1), (.int p2)] below meth c s₁ [] 0 0 := Stand.of_body Bd
  have e0 : s₁.heap = h0 := by rw [← hh, Bd.state]; rfl
  have N0 := Fr.nil n0
  have pre0 : GO p e below (s₁.setTop (mkF m 0 #[.val (.int p1), .val (.int p2)] [])) (s₁.setTop (entryFrame m #[(.int p1), (.int p2)] 2)) := fun t k => castTop (ef_8 m p1 p2) k
  have pre14 : GO p e below (s₁.setTop (mkF m 2 #[.val (.int p1), .val (.int p2)] [(.int p2), (.int p1)])) (s₁.setTop (entryFrame m #[(.int p1), (.int p2)] 2)) := fun t k => by
    refine pre0 _ ?_
    refine y_iloadN X0 hx hby d8_0 rfl ?_
    refine y_iloadN X0 hx hby d8_1 rfl ?_
    exact k
  by_cases hc13 : p1 < p2
  · obtain ⟨fs, hr, hrun, hended, hW, hsame⟩ := X0.leave (v := some (.int p2)) (fun h => by rw [Bd.returns] at h; cases h)
    refine ⟨_, _, pre14 _ ?_, hrun, hended, _, _, rfl, ?_, ⟨_, rfl⟩, hW, hsame.mono (by decide) (by decide)⟩
    · refine y_icmpYes X0 hx hby (pc' := 9) d8_2 (tlt hc13).1 (by decide) (by decide) ?_
      refine y_iloadN X0 hx hby d8_9 rfl ?_
      exact retI X0 hx Bd.returns (hb hby d8_10) hr
    · show QP _ h0 n0 _ s₁.heap _
      rw [e0, show f8 p1 p2 = p2 from by unfold f8; rw [if_pos hc13]]
      exact ⟨rfl, N0, rfl⟩
  · obtain ⟨fs, hr, hrun, hended, hW, hsame⟩ := X0.leave (v := some (.int p1)) (fun h => by rw [Bd.returns] at h; cases h)
    refine ⟨_, _, pre14 _ ?_, hrun, hended, _, _, rfl, ?_, ⟨_, rfl⟩, hW, hsame.mono (by decide) (by decide)⟩
    · refine y_icmpNo X0 hx hby d8_2 (flt hc13).1 ?_
      refine y_iloadN X0 hx hby d8_5 rfl ?_
      refine y_goto X0 hx hby (pc' := 10) d8_6 (by decide) (by decide) ?_
      exact retI X0 hx Bd.returns (hb hby d8_10) hr
    · show QP _ h0 n0 _ s₁.heap _
      rw [e0, show f8 p1 p2 = p1 from by unfold f8; rw [if_neg hc13]]
      exact ⟨rfl, N0, rfl⟩
theorem d2_0 : decode prog_18_method_1_code 0 = .ok (.aload_n 0, 1) := by decide +kernel
theorem d2_1 : decode prog_18_method_1_code 1 = .ok (.invokespecial 1, 3) := by decide +kernel
theorem d2_4 : decode prog_18_method_1_code 4 = .ok (.aload_n 0, 1) := by decide +kernel
theorem d2_5 : decode prog_18_method_1_code 5 = .ok (.iconst 4, 1) := by decide +kernel
theorem d2_6 : decode prog_18_method_1_code 6 = .ok (.newarray .int, 2) := by decide +kernel
theorem d2_8 : decode prog_18_method_1_code 8 = .ok (.putfield 7, 3) := by decide +kernel
theorem d2_11 : decode prog_18_method_1_code 11 = .ok (.return_, 1) := by decide +kernel
abbrev mn3 : MethodName := ⟨"com/example/hard_delay_bounds/harddelaybounds/analysis/FlowSet$Builder", "<init>", "()V"⟩
theorem pn_2 : plainName "com/example/hard_delay_bounds/harddelaybounds/analysis/FlowSet$Builder" = true := by first | (simp [plainName, overriddenIn]; done) | decide +kernel
theorem ef_2 (m : MethodId) (x0 : Addr) : entryFrame m #[(.ref x0)] 1 = mkF m 0 #[.val (.ref x0)] [] := by first | (simp [entryFrame, mkF, argsToLocals, Value.category]; done) | rfl
set_option maxRecDepth 65536 in
set_option maxHeartbeats 40000000 in
theorem rm2 (l : Launch) (Z : State) (a0 : Array Value) (hw : HW a0 Z) (ws : List Jvm.Cond) (a1 : Addr) (h0 : Heap) (n0 : Nat) (Z0 : n0 ≤ h0.size) (E_a1 : Exa Z h0 a1 "com/example/hard_delay_bounds/harddelaybounds/analysis/FlowSet$Builder") (F_numbers_a1 : Fld Z h0 a1 "com/example/hard_delay_bounds/harddelaybounds/analysis/FlowSet$Builder" "numbers" "[I" .null) (F_size_a1 : Fld Z h0 a1 "com/example/hard_delay_bounds/harddelaybounds/analysis/FlowSet$Builder" "size" "I" (.int (0 : Int32))) (g_a1 : n0 ≤ a1) :
    MF l mn3 prog_18_method_1_code 1 none ws ({ frames := 1, cells := 1, slots := 4, locals := 12 } : Room) #[(.ref a1)] Z h0 (QN Z a1 h0 n0) := by
  refine MetFree.of_bodySF (plainFor_of_name pn_2) hisR ?_
  intro p e s m args below meth c s₁ Bd hml0 hP hK
  obtain ⟨rfl, hZ, hh⟩ := hP
  have hx := Bd.exec
  have hby := Bd.bytes
  have hml : c.maxLocals = 1 := hml0
  have hown : s.vm.findClass "com/example/hard_delay_bounds/harddelaybounds/analysis/FlowSet$Builder" = some m.cls := findClass_of_methodNamed Bd.named
  have hnm := (name_of_methodNamed Bd.named Bd.method).1
  have X0 : Stand p l e ({ frames := 1, cells := 1, slots := 4, locals := 12 } : Room) s m #[(.ref a1)] below meth c s₁ [] 0 0 := Stand.of_body Bd
  have e0 : s₁.heap = h0 := by rw [← hh, Bd.state]; rfl
  have N0 := Fr.nil n0
  have pre0 : GO p e below (s₁.setTop (mkF m 0 #[.val (.ref a1)] [])) (s₁.setTop (entryFrame m #[(.ref a1)] 1)) := fun t k => castTop (ef_2 m a1) k
  have KK := Keep.refl h0 [a1]
  obtain ⟨T15, X15, e15, st15⟩ := initO X0 hx hZ hown (ww hw 14 rfl) (ww hw 15 rfl) (ww hw 16 rfl) e0 (g := (mkF m 1 #[.val (.ref a1)] [(.ref a1)])) rfl (by rw [hml]; rfl) rfl (hb hby d2_1) (by decide) (W := 0) (by show 2 * 0 + _ ≤ _; exact Nat.le_of_eq rfl) (by decide)
  obtain ⟨T16, h16, k16, X16, e16, E16, A16, Ex16, st16⟩ := newPE X15 hx hZ (ww hw 17 rfl) e15 (g := (mkF m 6 #[.val (.ref a1)] [(.int (4 : Int32)), (.ref a1)])) rfl (hb hby d2_6) rfl (by decide) (cap := 4) (by decide) (by decide) (by decide) (by decide) (ad := "[I") (by first | rfl | decide)
  obtain ⟨b16, g16⟩ : ∃ z, z = h0.size := ⟨_, rfl⟩
  rw [← g16] at A16 Ex16 st16
  have g_b16 : n0 ≤ b16 := Nat.le_trans Z0 (Nat.le_of_eq g16.symm)
  have sz_b16 : h0.size ≤ b16 := Nat.le_trans KK.1 (Nat.le_of_eq g16.symm)
  have ne_a1_b16 : a1 ≠ b16 := Nat.ne_of_lt (Nat.lt_of_lt_of_le E_a1.lt (Nat.le_of_eq g16.symm))
  replace E_a1 := E_a1.ext E16
  replace F_numbers_a1 := F_numbers_a1.ext E16
  replace F_size_a1 := F_size_a1.ext E16
  replace Z0 := Nat.le_trans Z0 E16.1
  replace KK := KK.ext E16
  have V_b16 : Arv Z h16 b16 k16 .int (4 : Int32) [(.int (0 : Int32)), (.int (0 : Int32)), (.int (0 : Int32)), (.int (0 : Int32))] (.int (0 : Int32)) := (Arv.new A16 (by decide)).pad (pad_rep [] (.int (0 : Int32)) 4)
  have E_b16 : Exa Z h16 b16 "[I" := Ex16
  obtain ⟨T17, h17, X17, e17, W17, st17⟩ := putF X16 hx hZ hown (host := "") (Or.inl (ww hw 18 rfl)) Via.refl e16 F_numbers_a1 E_a1 (Or.inl (ww hw 19 rfl)) (ww hw 9 rfl) (ty := (.array .int)) (by decide) rfl rfl (g := (mkF m 8 #[.val (.ref a1)] [(.ref b16), (.ref a1)])) rfl rfl (hb hby d2_8)
  replace E_a1 := E_a1.wr W17
  replace F_numbers_a1 := F_numbers_a1.same W17
  replace F_size_a1 := F_size_a1.other W17 (Or.inr (slot_ne (Or.inl (ww hw 29 rfl)) (Or.inl (ww hw 19 rfl)) (by decide) (t := .int) (t' := (.array .int)) (by decide) (by decide)))
  replace V_b16 := V_b16.other W17 (Ne.symm ne_a1_b16)
  replace E_b16 := E_b16.wr W17
  replace Z0 := Nat.le_trans Z0 (Keep.of_wr W17).1
  replace KK := KK.wr W17 (Or.inl (List.mem_of_getElem? (i := 0) rfl))
  have N17 := Fr.snoc X17 N0 g_a1
  obtain ⟨fs, hr, hrun, hended, hW, hsame⟩ := X17.leave (v := none) (fun _ => rfl)
  refine ⟨_, _, pre0 _ ?_, hrun, hended, _, _, rfl, ?_, ⟨_, rfl⟩, hW, hsame.mono (by decide) (by decide)⟩
  · refine y_aloadN X0 hx hby d2_0 rfl rfl ?_
    refine st15 _ ?_
    show Steps p.tables e below (T15.setTop (mkF m 4 #[.val (.ref a1)] [])) _
    refine y_aloadN X15 hx hby d2_4 rfl rfl ?_
    refine y_iconst X15 hx hby (v := (4 : Int32)) d2_5 rfl ?_
    refine st16 _ ?_
    show Steps p.tables e below (T16.setTop (mkF m 8 #[.val (.ref a1)] [(.ref b16), (.ref a1)])) _
    refine st17 _ ?_
    show Steps p.tables e below (T17.setTop (mkF m 11 #[.val (.ref a1)] [])) _
    exact X17.returnOut hx Bd.returns (hb hby d2_11) hr
  · show QN Z a1 h0 n0 _ T17.heap _
    rw [e17]
    exact ⟨rfl, N17, KK, E_a1, F_size_a1, b16, _, sz_b16, F_numbers_a1, V_b16, E_b16⟩
theorem d14_0 : decode prog_18_method_2_code 0 = .ok (.aload_n 0, 1) := by decide +kernel
theorem d14_1 : decode prog_18_method_2_code 1 = .ok (.getfield 13, 3) := by decide +kernel
theorem d14_4 : decode prog_18_method_2_code 4 = .ok (.ifCond .le 28, 3) := by decide +kernel
theorem d14_32 : decode prog_18_method_2_code 32 = .ok (.aload_n 0, 1) := by decide +kernel
theorem d14_33 : decode prog_18_method_2_code 33 = .ok (.getfield 13, 3) := by decide +kernel
theorem d14_36 : decode prog_18_method_2_code 36 = .ok (.aload_n 0, 1) := by decide +kernel
theorem d14_37 : decode prog_18_method_2_code 37 = .ok (.getfield 7, 3) := by decide +kernel
theorem d14_40 : decode prog_18_method_2_code 40 = .ok (.arraylength, 1) := by decide +kernel
theorem d14_41 : decode prog_18_method_2_code 41 = .ok (.if_icmp .ne 20, 3) := by decide +kernel
theorem d14_61 : decode prog_18_method_2_code 61 = .ok (.aload_n 0, 1) := by decide +kernel
theorem d14_62 : decode prog_18_method_2_code 62 = .ok (.getfield 7, 3) := by decide +kernel
theorem d14_65 : decode prog_18_method_2_code 65 = .ok (.aload_n 0, 1) := by decide +kernel
theorem d14_66 : decode prog_18_method_2_code 66 = .ok (.dup, 1) := by decide +kernel
theorem d14_67 : decode prog_18_method_2_code 67 = .ok (.getfield 13, 3) := by decide +kernel
theorem d14_70 : decode prog_18_method_2_code 70 = .ok (.dup_x1, 1) := by decide +kernel
theorem d14_71 : decode prog_18_method_2_code 71 = .ok (.iconst 1, 1) := by decide +kernel
theorem d14_72 : decode prog_18_method_2_code 72 = .ok (.iadd, 1) := by decide +kernel
theorem d14_73 : decode prog_18_method_2_code 73 = .ok (.putfield 13, 3) := by decide +kernel
theorem d14_76 : decode prog_18_method_2_code 76 = .ok (.iload_n 1, 1) := by decide +kernel
theorem d14_77 : decode prog_18_method_2_code 77 = .ok (.iastore, 1) := by decide +kernel
theorem d14_78 : decode prog_18_method_2_code 78 = .ok (.aload_n 0, 1) := by decide +kernel
theorem d14_79 : decode prog_18_method_2_code 79 = .ok (.areturn, 1) := by decide +kernel
abbrev mn4 : MethodName := ⟨"com/example/hard_delay_bounds/harddelaybounds/analysis/FlowSet$Builder", "add", "(I)Lcom/example/hard_delay_bounds/harddelaybounds/analysis/FlowSet$Builder;"⟩
theorem ef_14 (m : MethodId) (x0 : Addr) (x1 : Int32) : entryFrame m #[(.ref x0), (.int x1)] 2 = mkF m 0 #[.val (.ref x0), .val (.int x1)] [] := by first | (simp [entryFrame, mkF, argsToLocals, Value.category]; done) | rfl
set_option maxRecDepth 65536 in
set_option maxHeartbeats 40000000 in
theorem rm14_0 (l : Launch) (Z : State) (a0 : Array Value) (hw : HW a0 Z) (ws : List Jvm.Cond) (a1 : Addr) (p2 : Int32) (aA : Addr) (kA : ClassId) (h0 : Heap) (n0 : Nat) (Z0 : n0 ≤ h0.size) (E_a1 : Exa Z h0 a1 "com/example/hard_delay_bounds/harddelaybounds/analysis/FlowSet$Builder") (F_numbers_a1 : Fld Z h0 a1 "com/example/hard_delay_bounds/harddelaybounds/analysis/FlowSet$Builder" "numbers" "[I" (.ref aA)) (F_size_a1 : Fld Z h0 a1 "com/example/hard_delay_bounds/harddelaybounds/analysis/FlowSet$Builder" "size" "I" (.int (0 : Int32))) (E_aA : Exa Z h0 aA "[I") (V_aA : Arv Z h0 aA kA .int (4 : Int32) [(.int (0 : Int32)), (.int (0 : Int32)), (.int (0 : Int32)), (.int (0 : Int32))] (.int (0 : Int32))) (g_a1 : n0 ≤ a1) (g_aA : n0 ≤ aA) (ne_a1_aA : a1 ≠ aA) :
    MF l mn4 prog_18_method_2_code 2 (some (.object "com/example/hard_delay_bounds/harddelaybounds/analysis/FlowSet$Builder")) ws ({ frames := 0, cells := 0, slots := 0, locals := 0 } : Room) #[(.ref a1), (.int p2)] Z h0 (QA Z a1 aA kA (4 : Int32) (1 : Int32) [(.int p2), (.int (0 : Int32)), (.int (0 : Int32)), (.int (0 : Int32))] h0 n0) := by
  refine MetFree.of_bodySF (plainFor_of_name pn_2) hisR ?_
  intro p e s m args below meth c s₁ Bd hml0 hP hK
  obtain ⟨rfl, hZ, hh⟩ := hP
  have hx := Bd.exec
  have hby := Bd.bytes
  have hml : c.maxLocals = 2 := hml0
  have hown : s.vm.findClass "com/example/hard_delay_bounds/harddelaybounds/analysis/FlowSet$Builder" = some m.cls := findClass_of_methodNamed Bd.named
  have hnm := (name_of_methodNamed Bd.named Bd.method).1
  have X0 : Stand p l e ({ frames := 0, cells := 0, slots := 0, locals := 0 } : Room) s m #[(.ref a1), (.int p2)] below meth c s₁ [] 0 0 := Stand.of_body Bd
  have e0 : s₁.heap = h0 := by rw [← hh, Bd.state]; rfl
  have N0 := Fr.nil n0
  have pre0 : GO p e below (s₁.setTop (mkF m 0 #[.val (.ref a1), .val (.int p2)] [])) (s₁.setTop (entryFrame m #[(.ref a1), (.int p2)] 2)) := fun t k => castTop (ef_14 m a1 p2) k
  have KK := Keep.refl h0 [a1, aA]
  obtain ⟨T18, X18, e18, st18⟩ := getF X0 hx hZ hown (host := "") (Or.inl (ww hw 28 rfl)) Via.refl e0 F_size_a1 (g := (mkF m 1 #[.val (.ref a1), .val (.int p2)] [(.ref a1)])) rfl rfl (hb hby d14_1)
  obtain ⟨T19, X19, e19, st19⟩ := getF X18 hx hZ hown (host := "") (Or.inl (ww hw 28 rfl)) Via.refl e18 F_size_a1 (g := (mkF m 33 #[.val (.ref a1), .val (.int p2)] [(.ref a1)])) rfl rfl (hb hby d14_33)
  obtain ⟨T20, X20, e20, st20⟩ := getF X19 hx hZ hown (host := "") (Or.inl (ww hw 18 rfl)) Via.refl e19 F_numbers_a1 (g := (mkF m 37 #[.val (.ref a1), .val (.int p2)] [(.ref a1), (.int (0 : Int32))])) rfl rfl (hb hby d14_37)
  obtain ⟨cl21, Ar21, q21, Sz21, Nn21, Hh21, Gg21⟩ := id V_aA
  obtain ⟨T22, X22, e22, st22⟩ := getF X20 hx hZ hown (host := "") (Or.inl (ww hw 18 rfl)) Via.refl e20 F_numbers_a1 (g := (mkF m 62 #[.val (.ref a1), .val (.int p2)] [(.ref a1)])) rfl rfl (hb hby d14_62)
  obtain ⟨T23, X23, e23, st23⟩ := getF X22 hx hZ hown (host := "") (Or.inl (ww hw 28 rfl)) Via.refl e22 F_size_a1 (g := (mkF m 67 #[.val (.ref a1), .val (.int p2)] [(.ref a1), (.ref a1), (.ref aA)])) rfl rfl (hb hby d14_67)
  obtain ⟨T24, h24, X24, e24, W24, st24⟩ := putF X23 hx hZ hown (host := "") (Or.inl (ww hw 28 rfl)) Via.refl e23 F_size_a1 E_a1 (Or.inl (ww hw 29 rfl)) (ww hw 9 rfl) (ty := .int) (by decide) rfl rfl (g := (mkF m 73 #[.val (.ref a1), .val (.int p2)] [(.int (1 : Int32)), (.ref a1), (.int (0 : Int32)), (.ref aA)])) rfl rfl (hb hby d14_73)
  replace E_a1 := E_a1.wr W24
  replace F_numbers_a1 := F_numbers_a1.other W24 (Or.inr (slot_ne (Or.inl (ww hw 19 rfl)) (Or.inl (ww hw 29 rfl)) (by decide) (t := (.array .int)) (t' := .int) (by decide) (by decide)))
  replace F_size_a1 := F_size_a1.same W24
  replace E_aA := E_aA.wr W24
  replace V_aA := V_aA.other W24 (Ne.symm ne_a1_aA)
  replace Z0 := Nat.le_trans Z0 (Keep.of_wr W24).1
  replace KK := KK.wr W24 (Or.inl (List.mem_of_getElem? (i := 0) rfl))
  have N24 := Fr.snoc X24 N0 g_a1
  obtain ⟨cl25, Ar25, q25, Sz25, Nn25, Hh25, Gg25⟩ := V_aA
  have hin25 : ¬ ((0 : Int32) < 0 ∨ cl25.slots.size ≤ ((0 : Int32)).toNatClampNeg) := inb_of Sz25 ⟨by decide, by decide⟩
  obtain ⟨T26, h26, X26, e26, W26, st26⟩ := stI X24 hx hZ e24 Ar25 (j := (0 : Int32)) hin25 (g := (mkF m 77 #[.val (.ref a1), .val (.int p2)] [(.int p2), (.int (0 : Int32)), (.ref aA)])) rfl rfl (hb hby d14_77)
  replace E_a1 := E_a1.wr W26
  replace F_numbers_a1 := F_numbers_a1.other W26 (Or.inl ne_a1_aA)
  replace F_size_a1 := F_size_a1.other W26 (Or.inl ne_a1_aA)
  replace E_aA := E_aA.wr W26
  replace Z0 := Nat.le_trans Z0 (Keep.of_wr W26).1
  replace KK := KK.wr W26 (Or.inl (List.mem_of_getElem? (i := 1) rfl))
  have V_aA : Arv Z h26 aA kA .int (4 : Int32) [(.int p2), (.int (0 : Int32)), (.int (0 : Int32)), (.int (0 : Int32))] (.int (0 : Int32)) := Arv.set Ar25 q25 Sz25 Nn25 Hh25 Gg25 rfl W26 0 rfl (Nat.le_of_ble_eq_true rfl)
  have N26 := Fr.snoc X26 N24 g_aA
  obtain ⟨fs, hr, hrun, hended, hW, hsame⟩ := X26.leave (v := some (.ref a1)) (fun h => by rw [Bd.returns] at h; cases h)
  refine ⟨_, _, pre0 _ ?_, hrun, hended, _, _, rfl, ?_, ⟨_, rfl⟩, hW, hsame.mono (by decide) (by decide)⟩
  · refine y_aloadN X0 hx hby d14_0 rfl rfl ?_
    refine st18 _ ?_
    show Steps p.tables e below (T18.setTop (mkF m 4 #[.val (.ref a1), .val (.int p2)] [(.int (0 : Int32))])) _
    refine y_ifYes X18 hx hby (pc' := 32) d14_4 ((if0 _ _).trans (flt (by decide)).2.2.2) (by decide) (by decide) ?_
    refine y_aloadN X18 hx hby d14_32 rfl rfl ?_
    refine st19 _ ?_
    show Steps p.tables e below (T19.setTop (mkF m 36 #[.val (.ref a1), .val (.int p2)] [(.int (0 : Int32))])) _
    refine y_aloadN X19 hx hby d14_36 rfl rfl ?_
    refine st20 _ ?_
    show Steps p.tables e below (T20.setTop (mkF m 40 #[.val (.ref a1), .val (.int p2)] [(.ref aA), (.int (0 : Int32))])) _
    refine X20.arraylength hx (by rw [e20]; exact Ar21.1) (State.isArrayOf_alike hZ.alike Ar21.2.1) (g := (mkF m 40 #[.val (.ref a1), .val (.int p2)] [(.ref aA), (.int (0 : Int32))])) rfl rfl (hb hby d14_40) _ ?_
    rw [len_of Sz21 Nn21]
    show Steps p.tables e below (T20.setTop (mkF m 41 #[.val (.ref a1), .val (.int p2)] [(.int (4 : Int32)), (.int (0 : Int32))])) _
    refine y_icmpYes X20 hx hby (pc' := 61) d14_41 (feq (by decide)).2 (by decide) (by decide) ?_
    refine y_aloadN X20 hx hby d14_61 rfl rfl ?_
    refine st22 _ ?_
    show Steps p.tables e below (T22.setTop (mkF m 65 #[.val (.ref a1), .val (.int p2)] [(.ref aA)])) _
    refine y_aloadN X22 hx hby d14_65 rfl rfl ?_
    refine y_dup X22 hx hby d14_66 rfl ?_
    refine st23 _ ?_
    show Steps p.tables e below (T23.setTop (mkF m 70 #[.val (.ref a1), .val (.int p2)] [(.int (0 : Int32)), (.ref a1), (.ref aA)])) _
    refine y_dupX1 X23 hx hby d14_70 rfl rfl ?_
    refine y_iconst X23 hx hby (v := (1 : Int32)) d14_71 rfl ?_
    refine y_iadd X23 hx hby d14_72 ?_
    rw [show ((0 : Int32) + (1 : Int32)) = (1 : Int32) from by decide]
    refine st24 _ ?_
    show Steps p.tables e below (T24.setTop (mkF m 76 #[.val (.ref a1), .val (.int p2)] [(.int (0 : Int32)), (.ref aA)])) _
    refine y_iloadN X24 hx hby d14_76 rfl ?_
    refine st26 _ ?_
    show Steps p.tables e below (T26.setTop (mkF m 78 #[.val (.ref a1), .val (.int p2)] [])) _
    refine y_aloadN X26 hx hby d14_78 rfl rfl ?_
    show Steps p.tables e below (T26.setTop (mkF m 79 #[.val (.ref a1), .val (.int p2)] [(.ref a1)])) _
    jvm_step X26.here [X26.here.top, hx, (hb hby d14_79), X26.method', Bd.returns, Value.isRef, FieldType.isReference]
    first | (intro acts; rw [hr _ acts rfl rfl rfl]) | rw [hr _ _ rfl rfl rfl]
    exact Steps.refl _
  · show QA Z a1 aA kA (4 : Int32) (1 : Int32) [(.int p2), (.int (0 : Int32)), (.int (0 : Int32)), (.int (0 : Int32))] h0 n0 _ T26.heap _
    rw [e26]
    exact ⟨rfl, N26, KK, F_size_a1, F_numbers_a1, V_aA⟩
theorem d14_7 : decode prog_18_method_2_code 7 = .ok (.iload_n 1, 1) := by decide +kernel
theorem d14_8 : decode prog_18_method_2_code 8 = .ok (.aload_n 0, 1) := by decide +kernel
theorem d14_9 : decode prog_18_method_2_code 9 = .ok (.getfield 7, 3) := by decide +kernel
theorem d14_12 : decode prog_18_method_2_code 12 = .ok (.aload_n 0, 1) := by decide +kernel
theorem d14_13 : decode prog_18_method_2_code 13 = .ok (.getfield 13, 3) := by decide +kernel
theorem d14_16 : decode prog_18_method_2_code 16 = .ok (.iconst 1, 1) := by decide +kernel
theorem d14_17 : decode prog_18_method_2_code 17 = .ok (.isub, 1) := by decide +kernel
theorem d14_18 : decode prog_18_method_2_code 18 = .ok (.iaload, 1) := by decide +kernel
theorem d14_19 : decode prog_18_method_2_code 19 = .ok (.if_icmp .gt 13, 3) := by decide +kernel
set_option maxRecDepth 65536 in
set_option maxHeartbeats 40000000 in
theorem rm14_1 (l : Launch) (Z : State) (a0 : Array Value) (hw : HW a0 Z) (ws : List Jvm.Cond) (a1 : Addr) (p2 : Int32) (aA : Addr) (kA : ClassId) (x0 : Int32) (h0 : Heap) (n0 : Nat) (Z0 : n0 ≤ h0.size) (hlt : x0 < p2) (E_a1 : Exa Z h0 a1 "com/example/hard_delay_bounds/harddelaybounds/analysis/FlowSet$Builder") (F_numbers_a1 : Fld Z h0 a1 "com/example/hard_delay_bounds/harddelaybounds/analysis/FlowSet$Builder" "numbers" "[I" (.ref aA)) (F_size_a1 : Fld Z h0 a1 "com/example/hard_delay_bounds/harddelaybounds/analysis/FlowSet$Builder" "size" "I" (.int (1 : Int32))) (E_aA : Exa Z h0 aA "[I") (V_aA : Arv Z h0 aA kA .int (4 : Int32) [(.int x0), (.int (0 : Int32)), (.int (0 : Int32)), (.int (0 : Int32))] (.int (0 : Int32))) (g_a1 : n0 ≤ a1) (g_aA : n0 ≤ aA) (ne_a1_aA : a1 ≠ aA) :
    MF l mn4 prog_18_method_2_code 2 (some (.object "com/example/hard_delay_bounds/harddelaybounds/analysis/FlowSet$Builder")) ws ({ frames := 0, cells := 0, slots := 0, locals := 0 } : Room) #[(.ref a1), (.int p2)] Z h0 (QA Z a1 aA kA (4 : Int32) (2 : Int32) [(.int x0), (.int p2), (.int (0 : Int32)), (.int (0 : Int32))] h0 n0) := by
  refine MetFree.of_bodySF (plainFor_of_name pn_2) hisR ?_
  intro p e s m args below meth c s₁ Bd hml0 hP hK
  obtain ⟨rfl, hZ, hh⟩ := hP
  have hx := Bd.exec
  have hby := Bd.bytes
  have hml : c.maxLocals = 2 := hml0
  have hown : s.vm.findClass "com/example/hard_delay_bounds/harddelaybounds/analysis/FlowSet$Builder" = some m.cls := findClass_of_methodNamed Bd.named
  have hnm := (name_of_methodNamed Bd.named Bd.method).1
  have X0 : Stand p l e ({ frames := 0, cells := 0, slots := 0, locals := 0 } : Room) s m #[(.ref a1), (.int p2)] below meth c s₁ [] 0 0 := Stand.of_body Bd
  have e0 : s₁.heap = h0 := by rw [← hh, Bd.state]; rfl
  have N0 := Fr.nil n0
  have pre0 : GO p e below (s₁.setTop (mkF m 0 #[.val (.ref a1), .val (.int p2)] [])) (s₁.setTop (entryFrame m #[(.ref a1), (.int p2)] 2)) := fun t k => castTop (ef_14 m a1 p2) k
  have KK := Keep.refl h0 [a1, aA]
  obtain ⟨T27, X27, e27, st27⟩ := getF X0 hx hZ hown (host := "") (Or.inl (ww hw 28 rfl)) Via.refl e0 F_size_a1 (g := (mkF m 1 #[.val (.ref a1), .val (.int p2)] [(.ref a1)])) rfl rfl (hb hby d14_1)
  obtain ⟨T28, X28, e28, st28⟩ := getF X27 hx hZ hown (host := "") (Or.inl (ww hw 18 rfl)) Via.refl e27 F_numbers_a1 (g := (mkF m 9 #[.val (.ref a1), .val (.int p2)] [(.ref a1), (.int p2)])) rfl rfl (hb hby d14_9)
  obtain ⟨T29, X29, e29, st29⟩ := getF X28 hx hZ hown (host := "") (Or.inl (ww hw 28 rfl)) Via.refl e28 F_size_a1 (g := (mkF m 13 #[.val (.ref a1), .val (.int p2)] [(.ref a1), (.ref aA), (.int p2)])) rfl rfl (hb hby d14_13)
  obtain ⟨cl30, Ar30, q30, Sz30, Nn30, Hh30, Gg30⟩ := id V_aA
  have hin30 : ¬ ((0 : Int32) < 0 ∨ cl30.slots.size ≤ ((0 : Int32)).toNatClampNeg) := inb_of Sz30 ⟨by decide, by decide⟩
  have hat30 : cl30.slots[((0 : Int32)).toNatClampNeg]? = some (.int x0) := Hh30.at hin30 rfl
  obtain ⟨T31, X31, e31, st31⟩ := getF X29 hx hZ hown (host := "") (Or.inl (ww hw 28 rfl)) Via.refl e29 F_size_a1 (g := (mkF m 33 #[.val (.ref a1), .val (.int p2)] [(.ref a1)])) rfl rfl (hb hby d14_33)
  obtain ⟨T32, X32, e32, st32⟩ := getF X31 hx hZ hown (host := "") (Or.inl (ww hw 18 rfl)) Via.refl e31 F_numbers_a1 (g := (mkF m 37 #[.val (.ref a1), .val (.int p2)] [(.ref a1), (.int (1 : Int32))])) rfl rfl (hb hby d14_37)
  obtain ⟨cl33, Ar33, q33, Sz33, Nn33, Hh33, Gg33⟩ := id V_aA
  obtain ⟨T34, X34, e34, st34⟩ := getF X32 hx hZ hown (host := "") (Or.inl (ww hw 18 rfl)) Via.refl e32 F_numbers_a1 (g := (mkF m 62 #[.val (.ref a1), .val (.int p2)] [(.ref a1)])) rfl rfl (hb hby d14_62)
  obtain ⟨T35, X35, e35, st35⟩ := getF X34 hx hZ hown (host := "") (Or.inl (ww hw 28 rfl)) Via.refl e34 F_size_a1 (g := (mkF m 67 #[.val (.ref a1), .val (.int p2)] [(.ref a1), (.ref a1), (.ref aA)])) rfl rfl (hb hby d14_67)
  obtain ⟨T36, h36, X36, e36, W36, st36⟩ := putF X35 hx hZ hown (host := "") (Or.inl (ww hw 28 rfl)) Via.refl e35 F_size_a1 E_a1 (Or.inl (ww hw 29 rfl)) (ww hw 9 rfl) (ty := .int) (by decide) rfl rfl (g := (mkF m 73 #[.val (.ref a1), .val (.int p2)] [(.int (2 : Int32)), (.ref a1), (.int (1 : Int32)), (.ref aA)])) rfl rfl (hb hby d14_73)
  replace E_a1 := E_a1.wr W36
  replace F_numbers_a1 := F_numbers_a1.other W36 (Or.inr (slot_ne (Or.inl (ww hw 19 rfl)) (Or.inl (ww hw 29 rfl)) (by decide) (t := (.array .int)) (t' := .int) (by decide) (by decide)))
  replace F_size_a1 := F_size_a1.same W36
  replace E_aA := E_aA.wr W36
  replace V_aA := V_aA.other W36 (Ne.symm ne_a1_aA)
  replace Z0 := Nat.le_trans Z0 (Keep.of_wr W36).1
  replace KK := KK.wr W36 (Or.inl (List.mem_of_getElem? (i := 0) rfl))
  have N36 := Fr.snoc X36 N0 g_a1
  obtain ⟨cl37, Ar37, q37, Sz37, Nn37, Hh37, Gg37⟩ := V_aA
  have hin37 : ¬ ((1 : Int32) < 0 ∨ cl37.slots.size ≤ ((1 : Int32)).toNatClampNeg) := inb_of Sz37 ⟨by decide, by decide⟩
  obtain ⟨T38, h38, X38, e38, W38, st38⟩ := stI X36 hx hZ e36 Ar37 (j := (1 : Int32)) hin37 (g := (mkF m 77 #[.val (.ref a1), .val (.int p2)] [(.int p2), (.int (1 : Int32)), (.ref aA)])) rfl rfl (hb hby d14_77)
  replace E_a1 := E_a1.wr W38
  replace F_numbers_a1 := F_numbers_a1.other W38 (Or.inl ne_a1_aA)
  replace F_size_a1 := F_size_a1.other W38 (Or.inl ne_a1_aA)
  replace E_aA := E_aA.wr W38
  replace Z0 := Nat.le_trans Z0 (Keep.of_wr W38).1
  replace KK := KK.wr W38 (Or.inl (List.mem_of_getElem? (i := 1) rfl))
  have V_aA : Arv Z h38 aA kA .int (4 : Int32) [(.int x0), (.int p2), (.int (0 : Int32)), (.int (0 : Int32))] (.int (0 : Int32)) := Arv.set Ar37 q37 Sz37 Nn37 Hh37 Gg37 rfl W38 1 rfl (Nat.le_of_ble_eq_true rfl)
  have N38 := Fr.snoc X38 N36 g_aA
  obtain ⟨fs, hr, hrun, hended, hW, hsame⟩ := X38.leave (v := some (.ref a1)) (fun h => by rw [Bd.returns] at h; cases h)
  refine ⟨_, _, pre0 _ ?_, hrun, hended, _, _, rfl, ?_, ⟨_, rfl⟩, hW, hsame.mono (by decide) (by decide)⟩
  · refine y_aloadN X0 hx hby d14_0 rfl rfl ?_
    refine st27 _ ?_
    show Steps p.tables e below (T27.setTop (mkF m 4 #[.val (.ref a1), .val (.int p2)] [(.int (1 : Int32))])) _
    refine y_ifNo X27 hx hby d14_4 ((if0 _ _).trans (tlt (by decide)).2.2.2) ?_
    refine y_iloadN X27 hx hby d14_7 rfl ?_
    refine y_aloadN X27 hx hby d14_8 rfl rfl ?_
    refine st28 _ ?_
    show Steps p.tables e below (T28.setTop (mkF m 12 #[.val (.ref a1), .val (.int p2)] [(.ref aA), (.int p2)])) _
    refine y_aloadN X28 hx hby d14_12 rfl rfl ?_
    refine st29 _ ?_
    show Steps p.tables e below (T29.setTop (mkF m 16 #[.val (.ref a1), .val (.int p2)] [(.int (1 : Int32)), (.ref aA), (.int p2)])) _
    refine y_iconst X29 hx hby (v := (1 : Int32)) d14_16 rfl ?_
    refine y_isub X29 hx hby d14_17 ?_
    rw [show ((1 : Int32) - (1 : Int32)) = (0 : Int32) from by decide]
    refine X29.iaload hx (j := (0 : Int32)) (v := (.int x0)) (by rw [e29]; exact Ar30.1) (State.isArrayOf_alike hZ.alike Ar30.2.1) Ar30.2.2 hin30 hat30 (g := (mkF m 18 #[.val (.ref a1), .val (.int p2)] [(.int (0 : Int32)), (.ref aA), (.int p2)])) rfl rfl (hb hby d14_18) _ ?_
    show Steps p.tables e below (T29.setTop (mkF m 19 #[.val (.ref a1), .val (.int p2)] [(.int x0), (.int p2)])) _
    refine y_icmpYes X29 hx hby (pc' := 32) d14_19 (tlt hlt).2.2.1 (by decide) (by decide) ?_
    refine y_aloadN X29 hx hby d14_32 rfl rfl ?_
    refine st31 _ ?_
    show Steps p.tables e below (T31.setTop (mkF m 36 #[.val (.ref a1), .val (.int p2)] [(.int (1 : Int32))])) _
    refine y_aloadN X31 hx hby d14_36 rfl rfl ?_
    refine st32 _ ?_
    show Steps p.tables e below (T32.setTop (mkF m 40 #[.val (.ref a1), .val (.int p2)] [(.ref aA), (.int (1 : Int32))])) _
    refine X32.arraylength hx (by rw [e32]; exact Ar33.1) (State.isArrayOf_alike hZ.alike Ar33.2.1) (g := (mkF m 40 #[.val (.ref a1), .val (.int p2)] [(.ref aA), (.int (1 : Int32))])) rfl rfl (hb hby d14_40) _ ?_
    rw [len_of Sz33 Nn33]
    show Steps p.tables e below (T32.setTop (mkF m 41 #[.val (.ref a1), .val (.int p2)] [(.int (4 : Int32)), (.int (1 : Int32))])) _
    refine y_icmpYes X32 hx hby (pc' := 61) d14_41 (feq (by decide)).2 (by decide) (by decide) ?_
    refine y_aloadN X32 hx hby d14_61 rfl rfl ?_
    refine st34 _ ?_
    show Steps p.tables e below (T34.setTop (mkF m 65 #[.val (.ref a1), .val (.int p2)] [(.ref aA)])) _
    refine y_aloadN X34 hx hby d14_65 rfl rfl ?_
    refine y_dup X34 hx hby d14_66 rfl ?_
    refine st35 _ ?_
    show Steps p.tables e below (T35.setTop (mkF m 70 #[.val (.ref a1), .val (.int p2)] [(.int (1 : Int32)), (.ref a1), (.ref aA)])) _
    refine y_dupX1 X35 hx hby d14_70 rfl rfl ?_
    refine y_iconst X35 hx hby (v := (1 : Int32)) d14_71 rfl ?_
    refine y_iadd X35 hx hby d14_72 ?_
    rw [show ((1 : Int32) + (1 : Int32)) = (2 : Int32) from by decide]
    refine st36 _ ?_
    show Steps p.tables e below (T36.setTop (mkF m 76 #[.val (.ref a1), .val (.int p2)] [(.int (1 : Int32)), (.ref aA)])) _
    refine y_iloadN X36 hx hby d14_76 rfl ?_
    refine st38 _ ?_
    show Steps p.tables e below (T38.setTop (mkF m 78 #[.val (.ref a1), .val (.int p2)] [])) _
    refine y_aloadN X38 hx hby d14_78 rfl rfl ?_
    show Steps p.tables e below (T38.setTop (mkF m 79 #[.val (.ref a1), .val (.int p2)] [(.ref a1)])) _
    jvm_step X38.here [X38.here.top, hx, (hb hby d14_79), X38.method', Bd.returns, Value.isRef, FieldType.isReference]
    first | (intro acts; rw [hr _ acts rfl rfl rfl]) | rw [hr _ _ rfl rfl rfl]
    exact Steps.refl _
  · show QA Z a1 aA kA (4 : Int32) (2 : Int32) [(.int x0), (.int p2), (.int (0 : Int32)), (.int (0 : Int32))] h0 n0 _ T38.heap _
    rw [e38]
    exact ⟨rfl, N38, KK, F_size_a1, F_numbers_a1, V_aA⟩
set_option maxRecDepth 65536 in
set_option maxHeartbeats 40000000 in
theorem rm14_2 (l : Launch) (Z : State) (a0 : Array Value) (hw : HW a0 Z) (ws : List Jvm.Cond) (a1 : Addr) (p2 : Int32) (aA : Addr) (kA : ClassId) (x0 x1 : Int32) (h0 : Heap) (n0 : Nat) (Z0 : n0 ≤ h0.size) (hlt : x1 < p2) (E_a1 : Exa Z h0 a1 "com/example/hard_delay_bounds/harddelaybounds/analysis/FlowSet$Builder") (F_numbers_a1 : Fld Z h0 a1 "com/example/hard_delay_bounds/harddelaybounds/analysis/FlowSet$Builder" "numbers" "[I" (.ref aA)) (F_size_a1 : Fld Z h0 a1 "com/example/hard_delay_bounds/harddelaybounds/analysis/FlowSet$Builder" "size" "I" (.int (2 : Int32))) (E_aA : Exa Z h0 aA "[I") (V_aA : Arv Z h0 aA kA .int (4 : Int32) [(.int x0), (.int x1), (.int (0 : Int32)), (.int (0 : Int32))] (.int (0 : Int32))) (g_a1 : n0 ≤ a1) (g_aA : n0 ≤ aA) (ne_a1_aA : a1 ≠ aA) :
    MF l mn4 prog_18_method_2_code 2 (some (.object "com/example/hard_delay_bounds/harddelaybounds/analysis/FlowSet$Builder")) ws ({ frames := 0, cells := 0, slots := 0, locals := 0 } : Room) #[(.ref a1), (.int p2)] Z h0 (QA Z a1 aA kA (4 : Int32) (3 : Int32) [(.int x0), (.int x1), (.int p2), (.int (0 : Int32))] h0 n0) := by
  refine MetFree.of_bodySF (plainFor_of_name pn_2) hisR ?_
  intro p e s m args below meth c s₁ Bd hml0 hP hK
  obtain ⟨rfl, hZ, hh⟩ := hP
  have hx := Bd.exec
  have hby := Bd.bytes
  have hml : c.maxLocals = 2 := hml0
  have hown : s.vm.findClass "com/example/hard_delay_bounds/harddelaybounds/analysis/FlowSet$Builder" = some m.cls := findClass_of_methodNamed Bd.named
  have hnm := (name_of_methodNamed Bd.named Bd.method).1
  have X0 : Stand p l e ({ frames := 0, cells := 0, slots := 0, locals := 0 } : Room) s m #[(.ref a1), (.int p2)] below meth c s₁ [] 0 0 := Stand.of_body Bd
  have e0 : s₁.heap = h0 := by rw [← hh, Bd.state]; rfl
  have N0 := Fr.nil n0
  have pre0 : GO p e below (s₁.setTop (mkF m 0 #[.val (.ref a1), .val (.int p2)] [])) (s₁.setTop (entryFrame m #[(.ref a1), (.int p2)] 2)) := fun t k => castTop (ef_14 m a1 p2) k
  have KK := Keep.refl h0 [a1, aA]
  obtain ⟨T39, X39, e39, st39⟩ := getF X0 hx hZ hown (host := "") (Or.inl (ww hw 28 rfl)) Via.refl e0 F_size_a1 (g := (mkF m 1 #[.val (.ref a1), .val (.int p2)] [(.ref a1)])) rfl rfl (hb hby d14_1)
  obtain ⟨T40, X40, e40, st40⟩ := getF X39 hx hZ hown (host := "") (Or.inl (ww hw 18 rfl)) Via.refl e39 F_numbers_a1 (g := (mkF m 9 #[.val (.ref a1), .val (.int p2)] [(.ref a1), (.int p2)])) rfl rfl (hb hby d14_9)
  obtain ⟨T41, X41, e41, st41⟩ := getF X40 hx hZ hown (host := "") (Or.inl (ww hw 28 rfl)) Via.refl e40 F_size_a1 (g := (mkF m 13 #[.val (.ref a1), .val (.int p2)] [(.ref a1), (.ref aA), (.int p2)])) rfl rfl (hb hby d14_13)
  obtain ⟨cl42, Ar42, q42, Sz42, Nn42, Hh42, Gg42⟩ := id V_aA
  have hin42 : ¬ ((1 : Int32) < 0 ∨ cl42.slots.size ≤ ((1 : Int32)).toNatClampNeg) := inb_of Sz42 ⟨by decide, by decide⟩
  have hat42 : cl42.slots[((1 : Int32)).toNatClampNeg]? = some (.int x1) := Hh42.at hin42 rfl
  obtain ⟨T43, X43, e43, st43⟩ := getF X41 hx hZ hown (host := "") (Or.inl (ww hw 28 rfl)) Via.refl e41 F_size_a1 (g := (mkF m 33 #[.val (.ref a1), .val (.int p2)] [(.ref a1)])) rfl rfl (hb hby d14_33)
  obtain ⟨T44, X44, e44, st44⟩ := getF X43 hx hZ hown (host := "") (Or.inl (ww hw 18 rfl)) Via.refl e43 F_numbers_a1 (g := (mkF m 37 #[.val (.ref a1), .val (.int p2)] [(.ref a1), (.int (2 : Int32))])) rfl rfl (hb hby d14_37)
  obtain ⟨cl45, Ar45, q45, Sz45, Nn45, Hh45, Gg45⟩ := id V_aA
  obtain ⟨T46, X46, e46, st46⟩ := getF X44 hx hZ hown (host := "") (Or.inl (ww hw 18 rfl)) Via.refl e44 F_numbers_a1 (g := (mkF m 62 #[.val (.ref a1), .val (.int p2)] [(.ref a1)])) rfl rfl (hb hby d14_62)
  obtain ⟨T47, X47, e47, st47⟩ := getF X46 hx hZ hown (host := "") (Or.inl (ww hw 28 rfl)) Via.refl e46 F_size_a1 (g := (mkF m 67 #[.val (.ref a1), .val (.int p2)] [(.ref a1), (.ref a1), (.ref aA)])) rfl rfl (hb hby d14_67)
  obtain ⟨T48, h48, X48, e48, W48, st48⟩ := putF X47 hx hZ hown (host := "") (Or.inl (ww hw 28 rfl)) Via.refl e47 F_size_a1 E_a1 (Or.inl (ww hw 29 rfl)) (ww hw 9 rfl) (ty := .int) (by decide) rfl rfl (g := (mkF m 73 #[.val (.ref a1), .val (.int p2)] [(.int (3 : Int32)), (.ref a1), (.int (2 : Int32)), (.ref aA)])) rfl rfl (hb hby d14_73)
  replace E_a1 := E_a1.wr W48
  replace F_numbers_a1 := F_numbers_a1.other W48 (Or.inr (slot_ne (Or.inl (ww hw 19 rfl)) (Or.inl (ww hw 29 rfl)) (by decide) (t := (.array .int)) (t' := .int) (by decide) (by decide)))
  replace F_size_a1 := F_size_a1.same W48
  replace E_aA := E_aA.wr W48
  replace V_aA := V_aA.other W48 (Ne.symm ne_a1_aA)
  replace Z0 := Nat.le_trans Z0 (Keep.of_wr W48).1
  replace KK := KK.wr W48 (Or.inl (List.mem_of_getElem? (i := 0) rfl))
  have N48 := Fr.snoc X48 N0 g_a1
  obtain ⟨cl49, Ar49, q49, Sz49, Nn49, Hh49, Gg49⟩ := V_aA
  have hin49 : ¬ ((2 : Int32) < 0 ∨ cl49.slots.size ≤ ((2 : Int32)).toNatClampNeg) := inb_of Sz49 ⟨by decide, by decide⟩
  obtain ⟨T50, h50, X50, e50, W50, st50⟩ := stI X48 hx hZ e48 Ar49 (j := (2 : Int32)) hin49 (g := (mkF m 77 #[.val (.ref a1), .val (.int p2)] [(.int p2), (.int (2 : Int32)), (.ref aA)])) rfl rfl (hb hby d14_77)
  replace E_a1 := E_a1.wr W50
  replace F_numbers_a1 := F_numbers_a1.other W50 (Or.inl ne_a1_aA)
  replace F_size_a1 := F_size_a1.other W50 (Or.inl ne_a1_aA)
  replace E_aA := E_aA.wr W50
  replace Z0 := Nat.le_trans Z0 (Keep.of_wr W50).1
  replace KK := KK.wr W50 (Or.inl (List.mem_of_getElem? (i := 1) rfl))
  have V_aA : Arv Z h50 aA kA .int (4 : Int32) [(.int x0), (.int x1), (.int p2), (.int (0 : Int32))] (.int (0 : Int32)) := Arv.set Ar49 q49 Sz49 Nn49 Hh49 Gg49 rfl W50 2 rfl (Nat.le_of_ble_eq_true rfl)
  have N50 := Fr.snoc X50 N48 g_aA
  obtain ⟨fs, hr, hrun, hended, hW, hsame⟩ := X50.leave (v := some (.ref a1)) (fun h => by rw [Bd.returns] at h; cases h)
  refine ⟨_, _, pre0 _ ?_, hrun, hended, _, _, rfl, ?_, ⟨_, rfl⟩, hW, hsame.mono (by decide) (by decide)⟩
  · refine y_aloadN X0 hx hby d14_0 rfl rfl ?_
    refine st39 _ ?_
    show Steps p.tables e below (T39.setTop (mkF m 4 #[.val (.ref a1), .val (.int p2)] [(.int (2 : Int32))])) _
    refine y_ifNo X39 hx hby d14_4 ((if0 _ _).trans (tlt (by decide)).2.2.2) ?_
    refine y_iloadN X39 hx hby d14_7 rfl ?_
    refine y_aloadN X39 hx hby d14_8 rfl rfl ?_
    refine st40 _ ?_
    show Steps p.tables e below (T40.setTop (mkF m 12 #[.val (.ref a1), .val (.int p2)] [(.ref aA), (.int p2)])) _
    refine y_aloadN X40 hx hby d14_12 rfl rfl ?_
    refine st41 _ ?_
    show Steps p.tables e below (T41.setTop (mkF m 16 #[.val (.ref a1), .val (.int p2)] [(.int (2 : Int32)), (.ref aA), (.int p2)])) _
    refine y_iconst X41 hx hby (v := (1 : Int32)) d14_16 rfl ?_
    refine y_isub X41 hx hby d14_17 ?_
    rw [show ((2 : Int32) - (1 : Int32)) = (1 : Int32) from by decide]
    refine X41.iaload hx (j := (1 : Int32)) (v := (.int x1)) (by rw [e41]; exact Ar42.1) (State.isArrayOf_alike hZ.alike Ar42.2.1) Ar42.2.2 hin42 hat42 (g := (mkF m 18 #[.val (.ref a1), .val (.int p2)] [(.int (1 : Int32)), (.ref aA), (.int p2)])) rfl rfl (hb hby d14_18) _ ?_
    show Steps p.tables e below (T41.setTop (mkF m 19 #[.val (.ref a1), .val (.int p2)] [(.int x1), (.int p2)])) _
    refine y_icmpYes X41 hx hby (pc' := 32) d14_19 (tlt hlt).2.2.1 (by decide) (by decide) ?_
    refine y_aloadN X41 hx hby d14_32 rfl rfl ?_
    refine st43 _ ?_
    show Steps p.tables e below (T43.setTop (mkF m 36 #[.val (.ref a1), .val (.int p2)] [(.int (2 : Int32))])) _
    refine y_aloadN X43 hx hby d14_36 rfl rfl ?_
    refine st44 _ ?_
    show Steps p.tables e below (T44.setTop (mkF m 40 #[.val (.ref a1), .val (.int p2)] [(.ref aA), (.int (2 : Int32))])) _
    refine X44.arraylength hx (by rw [e44]; exact Ar45.1) (State.isArrayOf_alike hZ.alike Ar45.2.1) (g := (mkF m 40 #[.val (.ref a1), .val (.int p2)] [(.ref aA), (.int (2 : Int32))])) rfl rfl (hb hby d14_40) _ ?_
    rw [len_of Sz45 Nn45]
    show Steps p.tables e below (T44.setTop (mkF m 41 #[.val (.ref a1), .val (.int p2)] [(.int (4 : Int32)), (.int (2 : Int32))])) _
    refine y_icmpYes X44 hx hby (pc' := 61) d14_41 (feq (by decide)).2 (by decide) (by decide) ?_
    refine y_aloadN X44 hx hby d14_61 rfl rfl ?_
    refine st46 _ ?_
    show Steps p.tables e below (T46.setTop (mkF m 65 #[.val (.ref a1), .val (.int p2)] [(.ref aA)])) _
    refine y_aloadN X46 hx hby d14_65 rfl rfl ?_
    refine y_dup X46 hx hby d14_66 rfl ?_
    refine st47 _ ?_
    show Steps p.tables e below (T47.setTop (mkF m 70 #[.val (.ref a1), .val (.int p2)] [(.int (2 : Int32)), (.ref a1), (.ref aA)])) _
    refine y_dupX1 X47 hx hby d14_70 rfl rfl ?_
    refine y_iconst X47 hx hby (v := (1 : Int32)) d14_71 rfl ?_
    refine y_iadd X47 hx hby d14_72 ?_
    rw [show ((2 : Int32) + (1 : Int32)) = (3 : Int32) from by decide]
    refine st48 _ ?_
    show Steps p.tables e below (T48.setTop (mkF m 76 #[.val (.ref a1), .val (.int p2)] [(.int (2 : Int32)), (.ref aA)])) _
    refine y_iloadN X48 hx hby d14_76 rfl ?_
    refine st50 _ ?_
    show Steps p.tables e below (T50.setTop (mkF m 78 #[.val (.ref a1), .val (.int p2)] [])) _
    refine y_aloadN X50 hx hby d14_78 rfl rfl ?_
    show Steps p.tables e below (T50.setTop (mkF m 79 #[.val (.ref a1), .val (.int p2)] [(.ref a1)])) _
    jvm_step X50.here [X50.here.top, hx, (hb hby d14_79), X50.method', Bd.returns, Value.isRef, FieldType.isReference]
    first | (intro acts; rw [hr _ acts rfl rfl rfl]) | rw [hr _ _ rfl rfl rfl]
    exact Steps.refl _
  · show QA Z a1 aA kA (4 : Int32) (3 : Int32) [(.int x0), (.int x1), (.int p2), (.int (0 : Int32))] h0 n0 _ T50.heap _
    rw [e50]
    exact ⟨rfl, N50, KK, F_size_a1, F_numbers_a1, V_aA⟩
set_option maxRecDepth 65536 in
set_option maxHeartbeats 40000000 in
theorem rm14_3 (l : Launch) (Z : State) (a0 : Array Value) (hw : HW a0 Z) (ws : List Jvm.Cond) (a1 : Addr) (p2 : Int32) (aA : Addr) (kA : ClassId) (x0 x1 x2 : Int32) (h0 : Heap) (n0 : Nat) (Z0 : n0 ≤ h0.size) (hlt : x2 < p2) (E_a1 : Exa Z h0 a1 "com/example/hard_delay_bounds/harddelaybounds/analysis/FlowSet$Builder") (F_numbers_a1 : Fld Z h0 a1 "com/example/hard_delay_bounds/harddelaybounds/analysis/FlowSet$Builder" "numbers" "[I" (.ref aA)) (F_size_a1 : Fld Z h0 a1 "com/example/hard_delay_bounds/harddelaybounds/analysis/FlowSet$Builder" "size" "I" (.int (3 : Int32))) (E_aA : Exa Z h0 aA "[I") (V_aA : Arv Z h0 aA kA .int (4 : Int32) [(.int x0), (.int x1), (.int x2), (.int (0 : Int32))] (.int (0 : Int32))) (g_a1 : n0 ≤ a1) (g_aA : n0 ≤ aA) (ne_a1_aA : a1 ≠ aA) :
    MF l mn4 prog_18_method_2_code 2 (some (.object "com/example/hard_delay_bounds/harddelaybounds/analysis/FlowSet$Builder")) ws ({ frames := 0, cells := 0, slots := 0, locals := 0 } : Room) #[(.ref a1), (.int p2)] Z h0 (QA Z a1 aA kA (4 : Int32) (4 : Int32) [(.int x0), (.int x1), (.int x2), (.int p2)] h0 n0) := by
  refine MetFree.of_bodySF (plainFor_of_name pn_2) hisR ?_
  intro p e s m args below meth c s₁ Bd hml0 hP hK
  obtain ⟨rfl, hZ, hh⟩ := hP
  have hx := Bd.exec
  have hby := Bd.bytes
  have hml : c.maxLocals = 2 := hml0
  have hown : s.vm.findClass "com/example/hard_delay_bounds/harddelaybounds/analysis/FlowSet$Builder" = some m.cls := findClass_of_methodNamed Bd.named
  have hnm := (name_of_methodNamed Bd.named Bd.method).1
  have X0 : Stand p l e ({ frames := 0, cells := 0, slots := 0, locals := 0 } : Room) s m #[(.ref a1), (.int p2)] below meth c s₁ [] 0 0 := Stand.of_body Bd
  have e0 : s₁.heap = h0 := by rw [← hh, Bd.state]; rfl
  have N0 := Fr.nil n0
  have pre0 : GO p e below (s₁.setTop (mkF m 0 #[.val (.ref a1), .val (.int p2)] [])) (s₁.setTop (entryFrame m #[(.ref a1), (.int p2)] 2)) := fun t k => castTop (ef_14 m a1 p2) k
  have KK := Keep.refl h0 [a1, aA]
  obtain ⟨T51, X51, e51, st51⟩ := getF X0 hx hZ hown (host := "") (Or.inl (ww hw 28 rfl)) Via.refl e0 F_size_a1 (g := (mkF m 1 #[.val (.ref a1), .val (.int p2)] [(.ref a1)])) rfl rfl (hb hby d14_1)
  obtain ⟨T52, X52, e52, st52⟩ := getF X51 hx hZ hown (host := "") (Or.inl (ww hw 18 rfl)) Via.refl e51 F_numbers_a1 (g := (mkF m 9 #[.val (.ref a1), .val (.int p2)] [(.ref a1), (.int p2)])) rfl rfl (hb hby d14_9)
  obtain ⟨T53, X53, e53, st53⟩ := getF X52 hx hZ hown (host := "") (Or.inl (ww hw 28 rfl)) Via.refl e52 F_size_a1 (g := (mkF m 13 #[.val (.ref a1), .val (.int p2)] [(.ref a1), (.ref aA), (.int p2)])) rfl rfl (hb hby d14_13)
  obtain ⟨cl54, Ar54, q54, Sz54, Nn54, Hh54, Gg54⟩ := id V_aA
  have hin54 : ¬ ((2 : Int32) < 0 ∨ cl54.slots.size ≤ ((2 : Int32)).toNatClampNeg) := inb_of Sz54 ⟨by decide, by decide⟩
  have hat54 : cl54.slots[((2 : Int32)).toNatClampNeg]? = some (.int x2) := Hh54.at hin54 rfl
  obtain ⟨T55, X55, e55, st55⟩ := getF X53 hx hZ hown (host := "") (Or.inl (ww hw 28 rfl)) Via.refl e53 F_size_a1 (g := (mkF m 33 #[.val (.ref a1), .val (.int p2)] [(.ref a1)])) rfl rfl (hb hby d14_33)
  obtain ⟨T56, X56, e56, st56⟩ := getF X55 hx hZ hown (host := "") (Or.inl (ww hw 18 rfl)) Via.refl e55 F_numbers_a1 (g := (mkF m 37 #[.val (.ref a1), .val (.int p2)] [(.ref a1), (.int (3 : Int32))])) rfl rfl (hb hby d14_37)
  obtain ⟨cl57, Ar57, q57, Sz57, Nn57, Hh57, Gg57⟩ := id V_aA
  obtain ⟨T58, X58, e58, st58⟩ := getF X56 hx hZ hown (host := "") (Or.inl (ww hw 18 rfl)) Via.refl e56 F_numbers_a1 (g := (mkF m 62 #[.val (.ref a1), .val (.int p2)] [(.ref a1)])) rfl rfl (hb hby d14_62)
  obtain ⟨T59, X59, e59, st59⟩ := getF X58 hx hZ hown (host := "") (Or.inl (ww hw 28 rfl)) Via.refl e58 F_size_a1 (g := (mkF m 67 #[.val (.ref a1), .val (.int p2)] [(.ref a1), (.ref a1), (.ref aA)])) rfl rfl (hb hby d14_67)
  obtain ⟨T60, h60, X60, e60, W60, st60⟩ := putF X59 hx hZ hown (host := "") (Or.inl (ww hw 28 rfl)) Via.refl e59 F_size_a1 E_a1 (Or.inl (ww hw 29 rfl)) (ww hw 9 rfl) (ty := .int) (by decide) rfl rfl (g := (mkF m 73 #[.val (.ref a1), .val (.int p2)] [(.int (4 : Int32)), (.ref a1), (.int (3 : Int32)), (.ref aA)])) rfl rfl (hb hby d14_73)
  replace E_a1 := E_a1.wr W60
  replace F_numbers_a1 := F_numbers_a1.other W60 (Or.inr (slot_ne (Or.inl (ww hw 19 rfl)) (Or.inl (ww hw 29 rfl)) (by decide) (t := (.array .int)) (t' := .int) (by decide) (by decide)))
  replace F_size_a1 := F_size_a1.same W60
  replace E_aA := E_aA.wr W60
  replace V_aA := V_aA.other W60 (Ne.symm ne_a1_aA)
  replace Z0 := Nat.le_trans Z0 (Keep.of_wr W60).1
  replace KK := KK.wr W60 (Or.inl (List.mem_of_getElem? (i := 0) rfl))
  have N60 := Fr.snoc X60 N0 g_a1
  obtain ⟨cl61, Ar61, q61, Sz61, Nn61, Hh61, Gg61⟩ := V_aA
  have hin61 : ¬ ((3 : Int32) < 0 ∨ cl61.slots.size ≤ ((3 : Int32)).toNatClampNeg) := inb_of Sz61 ⟨by decide, by decide⟩
  obtain ⟨T62, h62, X62, e62, W62, st62⟩ := stI X60 hx hZ e60 Ar61 (j := (3 : Int32)) hin61 (g := (mkF m 77 #[.val (.ref a1), .val (.int p2)] [(.int p2), (.int (3 : Int32)), (.ref aA)])) rfl rfl (hb hby d14_77)
  replace E_a1 := E_a1.wr W62
  replace F_numbers_a1 := F_numbers_a1.other W62 (Or.inl ne_a1_aA)
  replace F_size_a1 := F_size_a1.other W62 (Or.inl ne_a1_aA)
  replace E_aA := E_aA.wr W62
  replace Z0 := Nat.le_trans Z0 (Keep.of_wr W62).1
  replace KK := KK.wr W62 (Or.inl (List.mem_of_getElem? (i := 1) rfl))
  have V_aA : Arv Z h62 aA kA .int (4 : Int32) [(.int x0), (.int x1), (.int x2), (.int p2)] (.int (0 : Int32)) := Arv.set Ar61 q61 Sz61 Nn61 Hh61 Gg61 rfl W62 3 rfl (Nat.le_of_ble_eq_true rfl)
  have N62 := Fr.snoc X62 N60 g_aA
  obtain ⟨fs, hr, hrun, hended, hW, hsame⟩ := X62.leave (v := some (.ref a1)) (fun h => by rw [Bd.returns] at h; cases h)
  refine ⟨_, _, pre0 _ ?_, hrun, hended, _, _, rfl, ?_, ⟨_, rfl⟩, hW, hsame.mono (by decide) (by decide)⟩
  · refine y_aloadN X0 hx hby d14_0 rfl rfl ?_
    refine st51 _ ?_
    show Steps p.tables e below (T51.setTop (mkF m 4 #[.val (.ref a1), .val (.int p2)] [(.int (3 : Int32))])) _
    refine y_ifNo X51 hx hby d14_4 ((if0 _ _).trans (tlt (by decide)).2.2.2) ?_
    refine y_iloadN X51 hx hby d14_7 rfl ?_
    refine y_aloadN X51 hx hby d14_8 rfl rfl ?_
    refine st52 _ ?_
    show Steps p.tables e below (T52.setTop (mkF m 12 #[.val (.ref a1), .val (.int p2)] [(.ref aA), (.int p2)])) _
    refine y_aloadN X52 hx hby d14_12 rfl rfl ?_
    refine st53 _ ?_
    show Steps p.tables e below (T53.setTop (mkF m 16 #[.val (.ref a1), .val (.int p2)] [(.int (3 : Int32)), (.ref aA), (.int p2)])) _
    refine y_iconst X53 hx hby (v := (1 : Int32)) d14_16 rfl ?_
    refine y_isub X53 hx hby d14_17 ?_
    rw [show ((3 : Int32) - (1 : Int32)) = (2 : Int32) from by decide]
    refine X53.iaload hx (j := (2 : Int32)) (v := (.int x2)) (by rw [e53]; exact Ar54.1) (State.isArrayOf_alike hZ.alike Ar54.2.1) Ar54.2.2 hin54 hat54 (g := (mkF m 18 #[.val (.ref a1), .val (.int p2)] [(.int (2 : Int32)), (.ref aA), (.int p2)])) rfl rfl (hb hby d14_18) _ ?_
    show Steps p.tables e below (T53.setTop (mkF m 19 #[.val (.ref a1), .val (.int p2)] [(.int x2), (.int p2)])) _
    refine y_icmpYes X53 hx hby (pc' := 32) d14_19 (tlt hlt).2.2.1 (by decide) (by decide) ?_
    refine y_aloadN X53 hx hby d14_32 rfl rfl ?_
    refine st55 _ ?_
    show Steps p.tables e below (T55.setTop (mkF m 36 #[.val (.ref a1), .val (.int p2)] [(.int (3 : Int32))])) _
    refine y_aloadN X55 hx hby d14_36 rfl rfl ?_
    refine st56 _ ?_
    show Steps p.tables e below (T56.setTop (mkF m 40 #[.val (.ref a1), .val (.int p2)] [(.ref aA), (.int (3 : Int32))])) _
    refine X56.arraylength hx (by rw [e56]; exact Ar57.1) (State.isArrayOf_alike hZ.alike Ar57.2.1) (g := (mkF m 40 #[.val (.ref a1), .val (.int p2)] [(.ref aA), (.int (3 : Int32))])) rfl rfl (hb hby d14_40) _ ?_
    rw [len_of Sz57 Nn57]
    show Steps p.tables e below (T56.setTop (mkF m 41 #[.val (.ref a1), .val (.int p2)] [(.int (4 : Int32)), (.int (3 : Int32))])) _
    refine y_icmpYes X56 hx hby (pc' := 61) d14_41 (feq (by decide)).2 (by decide) (by decide) ?_
    refine y_aloadN X56 hx hby d14_61 rfl rfl ?_
    refine st58 _ ?_
    show Steps p.tables e below (T58.setTop (mkF m 65 #[.val (.ref a1), .val (.int p2)] [(.ref aA)])) _
    refine y_aloadN X58 hx hby d14_65 rfl rfl ?_
    refine y_dup X58 hx hby d14_66 rfl ?_
    refine st59 _ ?_
    show Steps p.tables e below (T59.setTop (mkF m 70 #[.val (.ref a1), .val (.int p2)] [(.int (3 : Int32)), (.ref a1), (.ref aA)])) _
    refine y_dupX1 X59 hx hby d14_70 rfl rfl ?_
    refine y_iconst X59 hx hby (v := (1 : Int32)) d14_71 rfl ?_
    refine y_iadd X59 hx hby d14_72 ?_
    rw [show ((3 : Int32) + (1 : Int32)) = (4 : Int32) from by decide]
    refine st60 _ ?_
    show Steps p.tables e below (T60.setTop (mkF m 76 #[.val (.ref a1), .val (.int p2)] [(.int (3 : Int32)), (.ref aA)])) _
    refine y_iloadN X60 hx hby d14_76 rfl ?_
    refine st62 _ ?_
    show Steps p.tables e below (T62.setTop (mkF m 78 #[.val (.ref a1), .val (.int p2)] [])) _
    refine y_aloadN X62 hx hby d14_78 rfl rfl ?_
    show Steps p.tables e below (T62.setTop (mkF m 79 #[.val (.ref a1), .val (.int p2)] [(.ref a1)])) _
    jvm_step X62.here [X62.here.top, hx, (hb hby d14_79), X62.method', Bd.returns, Value.isRef, FieldType.isReference]
    first | (intro acts; rw [hr _ acts rfl rfl rfl]) | rw [hr _ _ rfl rfl rfl]
    exact Steps.refl _
  · show QA Z a1 aA kA (4 : Int32) (4 : Int32) [(.int x0), (.int x1), (.int x2), (.int p2)] h0 n0 _ T62.heap _
    rw [e62]
    exact ⟨rfl, N62, KK, F_size_a1, F_numbers_a1, V_aA⟩
theorem d5_0 : decode jdk_65_method_123_code 0 = .ok (.iload_n 1, 1) := by decide +kernel
theorem d5_1 : decode jdk_65_method_123_code 1 = .ok (.aload_n 0, 1) := by decide +kernel
theorem d5_2 : decode jdk_65_method_123_code 2 = .ok (.arraylength, 1) := by decide +kernel
theorem d5_3 : decode jdk_65_method_123_code 3 = .ok (.if_icmp .ne 11, 3) := by decide +kernel
theorem d5_14 : decode jdk_65_method_123_code 14 = .ok (.iload_n 1, 1) := by decide +kernel
theorem d5_15 : decode jdk_65_method_123_code 15 = .ok (.newarray .int, 2) := by decide +kernel
theorem d5_17 : decode jdk_65_method_123_code 17 = .ok (.astore_n 2, 1) := by decide +kernel
theorem d5_18 : decode jdk_65_method_123_code 18 = .ok (.aload_n 0, 1) := by decide +kernel
theorem d5_19 : decode jdk_65_method_123_code 19 = .ok (.iconst 0, 1) := by decide +kernel
theorem d5_20 : decode jdk_65_method_123_code 20 = .ok (.aload_n 2, 1) := by decide +kernel
theorem d5_21 : decode jdk_65_method_123_code 21 = .ok (.iconst 0, 1) := by decide +kernel
theorem d5_22 : decode jdk_65_method_123_code 22 = .ok (.aload_n 0, 1) := by decide +kernel
theorem d5_23 : decode jdk_65_method_123_code 23 = .ok (.arraylength, 1) := by decide +kernel
theorem d5_24 : decode jdk_65_method_123_code 24 = .ok (.iload_n 1, 1) := by decide +kernel
theorem d5_25 : decode jdk_65_method_123_code 25 = .ok (.invokestatic 304, 3) := by decide +kernel
theorem pd_0 : parseMethodDescriptor "(II)I" = some ⟨[.int, .int], some .int⟩ := by decide +kernel
theorem d5_28 : decode jdk_65_method_123_code 28 = .ok (.invokestatic 150, 3) := by decide +kernel
theorem d5_31 : decode jdk_65_method_123_code 31 = .ok (.aload_n 2, 1) := by decide +kernel
theorem d5_32 : decode jdk_65_method_123_code 32 = .ok (.areturn, 1) := by decide +kernel
abbrev mn5 : MethodName := ⟨"java/util/Arrays", "copyOf", "([II)[I"⟩
theorem pn_5 : plainName "java/util/Arrays" = true := by first | (simp [plainName, overriddenIn]; done) | decide +kernel
theorem ef_5 (m : MethodId) (x0 : Addr) (x1 : Int32) : entryFrame m #[(.ref x0), (.int x1)] 3 = mkF m 0 #[.val (.ref x0), .val (.int x1), .unset] [] := by first | (simp [entryFrame, mkF, argsToLocals, Value.category]; done) | rfl
set_option maxRecDepth 65536 in
set_option maxHeartbeats 40000000 in
theorem rm5_4_4_8 (l : Launch) (Z : State) (a0 : Array Value) (hw : HW a0 Z) (ws : List Jvm.Cond) (a1 : Addr) (k1 : ClassId) (x0 x1 x2 x3 : Int32) (h0 : Heap) (n0 : Nat) (Z0 : n0 ≤ h0.size) (E_a1 : Exa Z h0 a1 "[I") (V_a1 : Arv Z h0 a1 k1 .int (4 : Int32) [(.int x0), (.int x1), (.int x2), (.int x3)] (.int (0 : Int32))) :
    MF l mn5 jdk_65_method_123_code 3 (some (.array .int)) ws ({ frames := 1, cells := 1, slots := 8, locals := 18 } : Room) #[(.ref a1), (.int (8 : Int32))] Z h0 (QC Z (8 : Int32) [(.int x0), (.int x1), (.int x2), (.int x3), (.int (0 : Int32)), (.int (0 : Int32)), (.int (0 : Int32)), (.int (0 : Int32))] h0 n0) := by
  refine MetFree.of_bodySF (plainFor_of_name pn_5) hisR ?_
  intro p e s m args below meth c s₁ Bd hml0 hP hK
  obtain ⟨rfl, hZ, hh⟩ := hP
  have hx := Bd.exec
  have hby := Bd.bytes
  have hml : c.maxLocals = 3 := hml0
  have hown : s.vm.findClass "java/util/Arrays" = some m.cls := findClass_of_methodNamed Bd.named
  have hnm := (name_of_methodNamed Bd.named Bd.method).1
  have X0 : Stand p l e ({ frames := 1, cells := 1, slots := 8, locals := 18 } : Room) s m #[(.ref a1), (.int (8 : Int32))] below meth c s₁ [] 0 0 := Stand.of_body Bd
  have e0 : s₁.heap = h0 := by rw [← hh, Bd.state]; rfl
  have N0 := Fr.nil n0
  have pre0 : GO p e below (s₁.setTop (mkF m 0 #[.val (.ref a1), .val (.int (8 : Int32)), .unset] [])) (s₁.setTop (entryFrame m #[(.ref a1), (.int (8 : Int32))] 3)) := fun t k => castTop (ef_5 m a1 (8 : Int32)) k
  have KK := Keep.refl h0 []
  obtain ⟨cl63, Ar63, q63, Sz63, Nn63, Hh63, Gg63⟩ := id V_a1
  obtain ⟨T64, h64, k64, X64, e64, E64, A64, Ex64, st64⟩ := newPE X0 hx hZ (ww hw 17 rfl) e0 (g := (mkF m 15 #[.val (.ref a1), .val (.int (8 : Int32)), .unset] [(.int (8 : Int32))])) rfl (hb hby d5_15) rfl (by decide) (cap := 8) (by decide) (by decide) (by decide) (by decide) (ad := "[I") (by first | rfl | decide)
  obtain ⟨b64, g64⟩ : ∃ z, z = h0.size := ⟨_, rfl⟩
  rw [← g64] at A64 Ex64 st64
  have g_b64 : n0 ≤ b64 := Nat.le_trans Z0 (Nat.le_of_eq g64.symm)
  have sz_b64 : h0.size ≤ b64 := Nat.le_trans KK.1 (Nat.le_of_eq g64.symm)
  have ne_a1_b64 : a1 ≠ b64 := Nat.ne_of_lt (Nat.lt_of_lt_of_le E_a1.lt (Nat.le_of_eq g64.symm))
  replace E_a1 := E_a1.ext E64
  replace V_a1 := V_a1.ext E64
  replace Z0 := Nat.le_trans Z0 E64.1
  replace KK := KK.ext E64
  have V_b64 : Arv Z h64 b64 k64 .int (8 : Int32) [(.int (0 : Int32)), (.int (0 : Int32)), (.int (0 : Int32)), (.int (0 : Int32)), (.int (0 : Int32)), (.int (0 : Int32)), (.int (0 : Int32)), (.int (0 : Int32))] (.int (0 : Int32)) := (Arv.new A64 (by decide)).pad (pad_rep [] (.int (0 : Int32)) 8)
  have E_b64 : Exa Z h64 b64 "[I" := Ex64
  obtain ⟨cl65, Ar65, q65, Sz65, Nn65, Hh65, Gg65⟩ := id V_a1
  obtain ⟨_, _, ⟨T66, L66, k66, n66⟩, -, X66, ⟨Lc66, hQ66, l66, y66, z66⟩, st66⟩ := Jvm.LawKit.callS X64 hx (y := mn0) hown (mvT hZ (ww hw 34 rfl)) (mvT hZ (ww hw 5 rfl)) (mvT hZ (ww hw 6 rfl)) (mvT hZ (ww hw 7 rfl)) (by decide) (backOf (W := 4) (rm1 l Z a0 hw [] (4 : Int32) (8 : Int32) h64 n0 Z0) hZ (ww hw 7 rfl) (ww hw 6 rfl) (by decide) (by decide)) (g := (mkF m 25 #[.val (.ref a1), .val (.int (8 : Int32)), .val (.ref b64)] [(.int (8 : Int32)), (.int (4 : Int32)), (.int (0 : Int32)), (.ref b64), (.int (0 : Int32)), (.ref a1)])) rfl (by rw [hml]; rfl) (argsL := [(.int (4 : Int32)), (.int (8 : Int32))]) (rest := [(.int (0 : Int32)), (.ref b64), (.int (0 : Int32)), (.ref a1)]) (lenOf pd_0 rfl) rfl (by show 2 * 0 + _ ≤ _; exact Nat.le_of_eq rfl) (hb hby d5_25) (fun _ _ => ⟨rfl, e64, (by decide : 1 + 0 ≤ _), (by decide : 8 + 0 ≤ _)⟩)
  dsimp only [Pt.U, Pt.locs, Pt.cells, Pt.slots] at X66 l66 y66 z66 st66 hQ66
  subst l66 y66 z66
  obtain ⟨rfl, N66q, e66⟩ := hQ66
  rw [show f1 (4 : Int32) (8 : Int32) = (4 : Int32) from by decide] at st66
  have N66 := Fr.app N0 N66q
  obtain ⟨T67, h67, L67, X67, e67, N67, K67, Vn67, st67⟩ := cpA X66 hx hZ hown (ww hw 35 rfl) (ww hw 38 rfl) (ww hw 36 rfl) (ww hw 37 rfl) e66 (us := [(.int x0), (.int x1), (.int x2), (.int x3)]) V_a1 V_b64 (Or.inl ⟨rfl, rfl⟩) (by decide) (by decide) (by decide) (by decide) (by decide) rfl (by decide) N66 g_b64 (g := (mkF m 28 #[.val (.ref a1), .val (.int (8 : Int32)), .val (.ref b64)] [(.int (4 : Int32)), (.int (0 : Int32)), (.ref b64), (.int (0 : Int32)), (.ref a1)])) rfl (by rw [hml]; rfl) rfl (hb hby d5_28) (by decide) (W := 0) (by show 2 * 0 + _ ≤ _; exact Nat.le_of_eq rfl) (by decide)
  replace E_a1 := E_a1.keep K67
  replace V_a1 := V_a1.keep K67 (ninS ne_a1_b64 nin0)
  replace E_b64 := E_b64.keep K67
  replace Z0 := Nat.le_trans Z0 K67.1
  replace KK := KK.trans K67 (allS (Or.inr sz_b64) all0)
  have V_b64 : Arv Z h67 b64 k64 .int (8 : Int32) [(.int x0), (.int x1), (.int x2), (.int x3), (.int (0 : Int32)), (.int (0 : Int32)), (.int (0 : Int32)), (.int (0 : Int32))] (.int (0 : Int32)) := Vn67
  obtain ⟨fs, hr, hrun, hended, hW, hsame⟩ := X67.leave (v := some (.ref b64)) (fun h => by rw [Bd.returns] at h; cases h)
  refine ⟨_, _, pre0 _ ?_, hrun, hended, _, _, rfl, ?_, ⟨_, rfl⟩, hW, hsame.mono (by decide) (by decide)⟩
  · refine y_iloadN X0 hx hby d5_0 rfl ?_
    refine y_aloadN X0 hx hby d5_1 rfl rfl ?_
    refine X0.arraylength hx (by rw [e0]; exact Ar63.1) (State.isArrayOf_alike hZ.alike Ar63.2.1) (g := (mkF m 2 #[.val (.ref a1), .val (.int (8 : Int32)), .unset] [(.ref a1), (.int (8 : Int32))])) rfl rfl (hb hby d5_2) _ ?_
    rw [len_of Sz63 Nn63]
    show Steps p.tables e below (s₁.setTop (mkF m 3 #[.val (.ref a1), .val (.int (8 : Int32)), .unset] [(.int (4 : Int32)), (.int (8 : Int32))])) _
    refine y_icmpYes X0 hx hby (pc' := 14) d5_3 (feq (by decide)).2 (by decide) (by decide) ?_
    refine y_iloadN X0 hx hby d5_14 rfl ?_
    refine st64 _ ?_
    show Steps p.tables e below (T64.setTop (mkF m 17 #[.val (.ref a1), .val (.int (8 : Int32)), .unset] [(.ref b64)])) _
    refine y_astoreN X64 hx hby d5_17 rfl (l' := #[.val (.ref a1), .val (.int (8 : Int32)), .val (.ref b64)]) rfl ?_
    refine y_aloadN X64 hx hby d5_18 rfl rfl ?_
    refine y_iconst X64 hx hby (v := (0 : Int32)) d5_19 rfl ?_
    refine y_aloadN X64 hx hby d5_20 rfl rfl ?_
    refine y_iconst X64 hx hby (v := (0 : Int32)) d5_21 rfl ?_
    refine y_aloadN X64 hx hby d5_22 rfl rfl ?_
    refine X64.arraylength hx (by rw [e64]; exact Ar65.1) (State.isArrayOf_alike hZ.alike Ar65.2.1) (g := (mkF m 23 #[.val (.ref a1), .val (.int (8 : Int32)), .val (.ref b64)] [(.ref a1), (.int (0 : Int32)), (.ref b64), (.int (0 : Int32)), (.ref a1)])) rfl rfl (hb hby d5_23) _ ?_
    rw [len_of Sz65 Nn65]
    show Steps p.tables e below (T64.setTop (mkF m 24 #[.val (.ref a1), .val (.int (8 : Int32)), .val (.ref b64)] [(.int (4 : Int32)), (.int (0 : Int32)), (.ref b64), (.int (0 : Int32)), (.ref a1)])) _
    refine y_iloadN X64 hx hby d5_24 rfl ?_
    refine st66 _ ?_
    show Steps p.tables e below (T66.setTop (mkF m 28 #[.val (.ref a1), .val (.int (8 : Int32)), .val (.ref b64)] [(.int (4 : Int32)), (.int (0 : Int32)), (.ref b64), (.int (0 : Int32)), (.ref a1)])) _
    refine st67 _ ?_
    show Steps p.tables e below (T67.setTop (mkF m 31 #[.val (.ref a1), .val (.int (8 : Int32)), .val (.ref b64)] [])) _
    refine y_aloadN X67 hx hby d5_31 rfl rfl ?_
    show Steps p.tables e below (T67.setTop (mkF m 32 #[.val (.ref a1), .val (.int (8 : Int32)), .val (.ref b64)] [(.ref b64)])) _
    jvm_step X67.here [X67.here.top, hx, (hb hby d5_32), X67.method', Bd.returns, Value.isRef, FieldType.isReference]
    first | (intro acts; rw [hr _ acts rfl rfl rfl]) | rw [hr _ _ rfl rfl rfl]
    exact Steps.refl _
  · show QC Z (8 : Int32) [(.int x0), (.int x1), (.int x2), (.int x3), (.int (0 : Int32)), (.int (0 : Int32)), (.int (0 : Int32)), (.int (0 : Int32))] h0 n0 _ T67.heap _
    rw [e67]
    exact ⟨b64, _, rfl, N67, KK, sz_b64, V_b64, E_b64⟩
theorem d14_44 : decode prog_18_method_2_code 44 = .ok (.aload_n 0, 1) := by decide +kernel
theorem d14_45 : decode prog_18_method_2_code 45 = .ok (.aload_n 0, 1) := by decide +kernel
theorem d14_46 : decode prog_18_method_2_code 46 = .ok (.getfield 7, 3) := by decide +kernel
theorem d14_49 : decode prog_18_method_2_code 49 = .ok (.iconst 2, 1) := by decide +kernel
theorem d14_50 : decode prog_18_method_2_code 50 = .ok (.aload_n 0, 1) := by decide +kernel
theorem d14_51 : decode prog_18_method_2_code 51 = .ok (.getfield 13, 3) := by decide +kernel
theorem d14_54 : decode prog_18_method_2_code 54 = .ok (.imul, 1) := by decide +kernel
theorem d14_55 : decode prog_18_method_2_code 55 = .ok (.invokestatic 24, 3) := by decide +kernel
theorem pd_1 : parseMethodDescriptor "([II)[I" = some ⟨[(.array .int), .int], some (.array .int)⟩ := by decide +kernel
theorem d14_58 : decode prog_18_method_2_code 58 = .ok (.putfield 7, 3) := by decide +kernel
set_option maxRecDepth 65536 in
set_option maxHeartbeats 40000000 in
theorem rm14_4 (l : Launch) (Z : State) (a0 : Array Value) (hw : HW a0 Z) (ws : List Jvm.Cond) (a1 : Addr) (p2 : Int32) (aA : Addr) (kA : ClassId) (x0 x1 x2 x3 : Int32) (h0 : Heap) (n0 : Nat) (Z0 : n0 ≤ h0.size) (hlt : x3 < p2) (E_a1 : Exa Z h0 a1 "com/example/hard_delay_bounds/harddelaybounds/analysis/FlowSet$Builder") (F_numbers_a1 : Fld Z h0 a1 "com/example/hard_delay_bounds/harddelaybounds/analysis/FlowSet$Builder" "numbers" "[I" (.ref aA)) (F_size_a1 : Fld Z h0 a1 "com/example/hard_delay_bounds/harddelaybounds/analysis/FlowSet$Builder" "size" "I" (.int (4 : Int32))) (E_aA : Exa Z h0 aA "[I") (V_aA : Arv Z h0 aA kA .int (4 : Int32) [(.int x0), (.int x1), (.int x2), (.int x3)] (.int (0 : Int32))) (g_a1 : n0 ≤ a1) (ne_a1_aA : a1 ≠ aA) :
    MF l mn4 prog_18_method_2_code 2 (some (.object "com/example/hard_delay_bounds/harddelaybounds/analysis/FlowSet$Builder")) ws ({ frames := 2, cells := 1, slots := 8, locals := 33 } : Room) #[(.ref a1), (.int p2)] Z h0 (QG Z a1 (8 : Int32) (5 : Int32) [(.int x0), (.int x1), (.int x2), (.int x3), (.int p2), (.int (0 : Int32)), (.int (0 : Int32)), (.int (0 : Int32))] h0 n0) := by
  refine MetFree.of_bodySF (plainFor_of_name pn_2) hisR ?_
  intro p e s m args below meth c s₁ Bd hml0 hP hK
  obtain ⟨rfl, hZ, hh⟩ := hP
  have hx := Bd.exec
  have hby := Bd.bytes
  have hml : c.maxLocals = 2 := hml0
  have hown : s.vm.findClass "com/example/hard_delay_bounds/harddelaybounds/analysis/FlowSet$Builder" = some m.cls := findClass_of_methodNamed Bd.named
  have hnm := (name_of_methodNamed Bd.named Bd.method).1
  have X0 : Stand p l e ({ frames := 2, cells := 1, slots := 8, locals := 33 } : Room) s m #[(.ref a1), (.int p2)] below meth c s₁ [] 0 0 := Stand.of_body Bd
  have e0 : s₁.heap = h0 := by rw [← hh, Bd.state]; rfl
  have N0 := Fr.nil n0
  have pre0 : GO p e below (s₁.setTop (mkF m 0 #[.val (.ref a1), .val (.int p2)] [])) (s₁.setTop (entryFrame m #[(.ref a1), (.int p2)] 2)) := fun t k => castTop (ef_14 m a1 p2) k
  have KK := Keep.refl h0 [a1]
  obtain ⟨T68, X68, e68, st68⟩ := getF X0 hx hZ hown (host := "") (Or.inl (ww hw 28 rfl)) Via.refl e0 F_size_a1 (g := (mkF m 1 #[.val (.ref a1), .val (.int p2)] [(.ref a1)])) rfl rfl (hb hby d14_1)
  obtain ⟨T69, X69, e69, st69⟩ := getF X68 hx hZ hown (host := "") (Or.inl (ww hw 18 rfl)) Via.refl e68 F_numbers_a1 (g := (mkF m 9 #[.val (.ref a1), .val (.int p2)] [(.ref a1), (.int p2)])) rfl rfl (hb hby d14_9)
  obtain ⟨T70, X70, e70, st70⟩ := getF X69 hx hZ hown (host := "") (Or.inl (ww hw 28 rfl)) Via.refl e69 F_size_a1 (g := (mkF m 13 #[.val (.ref a1), .val (.int p2)] [(.ref a1), (.ref aA), (.int p2)])) rfl rfl (hb hby d14_13)
  obtain ⟨cl71, Ar71, q71, Sz71, Nn71, Hh71, Gg71⟩ := id V_aA
  have hin71 : ¬ ((3 : Int32) < 0 ∨ cl71.slots.size ≤ ((3 : Int32)).toNatClampNeg) := inb_of Sz71 ⟨by decide, by decide⟩
  have hat71 : cl71.slots[((3 : Int32)).toNatClampNeg]? = some (.int x3) := Hh71.at hin71 rfl
  obtain ⟨T72, X72, e72, st72⟩ := getF X70 hx hZ hown (host := "") (Or.inl (ww hw 28 rfl)) Via.refl e70 F_size_a1 (g := (mkF m 33 #[.val (.ref a1), .val (.int p2)] [(.ref a1)])) rfl rfl (hb hby d14_33)
  obtain ⟨T73, X73, e73, st73⟩ := getF X72 hx hZ hown (host := "") (Or.inl (ww hw 18 rfl)) Via.refl e72 F_numbers_a1 (g := (mkF m 37 #[.val (.ref a1), .val (.int p2)] [(.ref a1), (.int (4 : Int32))])) rfl rfl (hb hby d14_37)
  obtain ⟨cl74, Ar74, q74, Sz74, Nn74, Hh74, Gg74⟩ := id V_aA
  obtain ⟨T75, X75, e75, st75⟩ := getF X73 hx hZ hown (host := "") (Or.inl (ww hw 18 rfl)) Via.refl e73 F_numbers_a1 (g := (mkF m 46 #[.val (.ref a1), .val (.int p2)] [(.ref a1), (.ref a1)])) rfl rfl (hb hby d14_46)
  obtain ⟨T76, X76, e76, st76⟩ := getF X75 hx hZ hown (host := "") (Or.inl (ww hw 28 rfl)) Via.refl e75 F_size_a1 (g := (mkF m 51 #[.val (.ref a1), .val (.int p2)] [(.ref a1), (.int (2 : Int32)), (.ref aA), (.ref a1)])) rfl rfl (hb hby d14_51)
  obtain ⟨_, _, ⟨T77, L77, k77, n77⟩, -, X77, ⟨Lc77, hQ77, l77, y77, z77⟩, st77⟩ := Jvm.LawKit.callS X76 hx (y := mn5) hown (mvT hZ (ww hw 30 rfl)) (mvT hZ (ww hw 31 rfl)) (mvT hZ (ww hw 32 rfl)) (mvT hZ (ww hw 33 rfl)) (by decide) (backOf (W := 1) (rm5_4_4_8 l Z a0 hw [] aA kA x0 x1 x2 x3 h0 n0 Z0 E_aA V_aA) hZ (ww hw 33 rfl) (ww hw 32 rfl) (by decide) (by decide)) (g := (mkF m 55 #[.val (.ref a1), .val (.int p2)] [(.int (8 : Int32)), (.ref aA), (.ref a1)])) rfl (by rw [hml]; rfl) (argsL := [(.ref aA), (.int (8 : Int32))]) (rest := [(.ref a1)]) (lenOf pd_1 rfl) rfl (by show 2 * 0 + _ ≤ _; exact Nat.le_of_eq rfl) (hb hby d14_55) (fun _ _ => ⟨rfl, e76, (by decide : 0 + 1 ≤ _), (by decide : 0 + 8 ≤ _)⟩)
  dsimp only [Pt.U, Pt.locs, Pt.cells, Pt.slots] at X77 l77 y77 z77 st77 hQ77
  subst l77 y77 z77
  obtain ⟨h77, e77⟩ : ∃ z, T77.heap = z := ⟨_, rfl⟩
  rw [e77] at hQ77
  obtain ⟨b77, k77, rfl, N77q, K77, s77, Vn77, En77⟩ := hQ77
  have g_b77 : n0 ≤ b77 := Nat.le_trans Z0 s77
  have sz_b77 : h0.size ≤ b77 := Nat.le_trans KK.1 s77
  have ne_a1_b77 : a1 ≠ b77 := Nat.ne_of_lt (Nat.lt_of_lt_of_le E_a1.lt s77)
  have ne_aA_b77 : aA ≠ b77 := Nat.ne_of_lt (Nat.lt_of_lt_of_le E_aA.lt s77)
  replace E_a1 := E_a1.keep K77
  replace F_numbers_a1 := F_numbers_a1.keep K77 nin0
  replace F_size_a1 := F_size_a1.keep K77 nin0
  replace E_aA := E_aA.keep K77
  replace V_aA := V_aA.keep K77 nin0
  replace Z0 := Nat.le_trans Z0 K77.1
  replace KK := KK.trans K77 all0
  have V_b77 : Arv Z h77 b77 k77 .int (8 : Int32) [(.int x0), (.int x1), (.int x2), (.int x3), (.int (0 : Int32)), (.int (0 : Int32)), (.int (0 : Int32)), (.int (0 : Int32))] (.int (0 : Int32)) := Vn77
  have E_b77 := En77
  have N77 := Fr.app N0 N77q
  obtain ⟨T78, h78, X78, e78, W78, st78⟩ := putF X77 hx hZ hown (host := "") (Or.inl (ww hw 18 rfl)) Via.refl e77 F_numbers_a1 E_a1 (Or.inl (ww hw 19 rfl)) (ww hw 9 rfl) (ty := (.array .int)) (by decide) rfl rfl (g := (mkF m 58 #[.val (.ref a1), .val (.int p2)] [(.ref b77), (.ref a1)])) rfl rfl (hb hby d14_58)
  replace E_a1 := E_a1.wr W78
  replace F_numbers_a1 := F_numbers_a1.same W78
  replace F_size_a1 := F_size_a1.other W78 (Or.inr (slot_ne (Or.inl (ww hw 29 rfl)) (Or.inl (ww hw 19 rfl)) (by decide) (t := .int) (t' := (.array .int)) (by decide) (by decide)))
  replace E_aA := E_aA.wr W78
  replace V_aA := V_aA.other W78 (Ne.symm ne_a1_aA)
  replace V_b77 := V_b77.other W78 (Ne.symm ne_a1_b77)
  replace E_b77 := E_b77.wr W78
  replace Z0 := Nat.le_trans Z0 (Keep.of_wr W78).1
  replace KK := KK.wr W78 (Or.inl (List.mem_of_getElem? (i := 0) rfl))
  have N78 := Fr.snoc X78 N77 g_a1
  obtain ⟨T79, X79, e79, st79⟩ := getF X78 hx hZ hown (host := "") (Or.inl (ww hw 18 rfl)) Via.refl e78 F_numbers_a1 (g := (mkF m 62 #[.val (.ref a1), .val (.int p2)] [(.ref a1)])) rfl rfl (hb hby d14_62)
  obtain ⟨T80, X80, e80, st80⟩ := getF X79 hx hZ hown (host := "") (Or.inl (ww hw 28 rfl)) Via.refl e79 F_size_a1 (g := (mkF m 67 #[.val (.ref a1), .val (.int p2)] [(.ref a1), (.ref a1), (.ref b77)])) rfl rfl (hb hby d14_67)
  obtain ⟨T81, h81, X81, e81, W81, st81⟩ := putF X80 hx hZ hown (host := "") (Or.inl (ww hw 28 rfl)) Via.refl e80 F_size_a1 E_a1 (Or.inl (ww hw 29 rfl)) (ww hw 9 rfl) (ty := .int) (by decide) rfl rfl (g := (mkF m 73 #[.val (.ref a1), .val (.int p2)] [(.int (5 : Int32)), (.ref a1), (.int (4 : Int32)), (.ref b77)])) rfl rfl (hb hby d14_73)
  replace E_a1 := E_a1.wr W81
  replace F_numbers_a1 := F_numbers_a1.other W81 (Or.inr (slot_ne (Or.inl (ww hw 19 rfl)) (Or.inl (ww hw 29 rfl)) (by decide) (t := (.array .int)) (t' := .int) (by decide) (by decide)))
  replace F_size_a1 := F_size_a1.same W81
  replace E_aA := E_aA.wr W81
  replace V_aA := V_aA.other W81 (Ne.symm ne_a1_aA)
  replace V_b77 := V_b77.other W81 (Ne.symm ne_a1_b77)
  replace E_b77 := E_b77.wr W81
  replace Z0 := Nat.le_trans Z0 (Keep.of_wr W81).1
  replace KK := KK.wr W81 (Or.inl (List.mem_of_getElem? (i := 0) rfl))
  have N81 := Fr.snoc X81 N78 g_a1
  obtain ⟨cl82, Ar82, q82, Sz82, Nn82, Hh82, Gg82⟩ := V_b77
  have hin82 : ¬ ((4 : Int32) < 0 ∨ cl82.slots.size ≤ ((4 : Int32)).toNatClampNeg) := inb_of Sz82 ⟨by decide, by decide⟩
  obtain ⟨T83, h83, X83, e83, W83, st83⟩ := stI X81 hx hZ e81 Ar82 (j := (4 : Int32)) hin82 (g := (mkF m 77 #[.val (.ref a1), .val (.int p2)] [(.int p2), (.int (4 : Int32)), (.ref b77)])) rfl rfl (hb hby d14_77)
  replace E_a1 := E_a1.wr W83
  replace F_numbers_a1 := F_numbers_a1.other W83 (Or.inl ne_a1_b77)
  replace F_size_a1 := F_size_a1.other W83 (Or.inl ne_a1_b77)
  replace E_aA := E_aA.wr W83
  replace V_aA := V_aA.other W83 ne_aA_b77
  replace E_b77 := E_b77.wr W83
  replace Z0 := Nat.le_trans Z0 (Keep.of_wr W83).1
  replace KK := KK.wr W83 (Or.inr sz_b77)
  have V_b77 : Arv Z h83 b77 k77 .int (8 : Int32) [(.int x0), (.int x1), (.int x2), (.int x3), (.int p2), (.int (0 : Int32)), (.int (0 : Int32)), (.int (0 : Int32))] (.int (0 : Int32)) := Arv.set Ar82 q82 Sz82 Nn82 Hh82 Gg82 rfl W83 4 rfl (Nat.le_of_ble_eq_true rfl)
  have N83 := Fr.snoc X83 N81 g_b77
  obtain ⟨fs, hr, hrun, hended, hW, hsame⟩ := X83.leave (v := some (.ref a1)) (fun h => by rw [Bd.returns] at h; cases h)
  refine ⟨_, _, pre0 _ ?_, hrun, hended, _, _, rfl, ?_, ⟨_, rfl⟩, hW, hsame.mono (by decide) (by decide)⟩
  · refine y_aloadN X0 hx hby d14_0 rfl rfl ?_
    refine st68 _ ?_
    show Steps p.tables e below (T68.setTop (mkF m 4 #[.val (.ref a1), .val (.int p2)] [(.int (4 : Int32))])) _
    refine y_ifNo X68 hx hby d14_4 ((if0 _ _).trans (tlt (by decide)).2.2.2) ?_
    refine y_iloadN X68 hx hby d14_7 rfl ?_
    refine y_aloadN X68 hx hby d14_8 rfl rfl ?_
    refine st69 _ ?_
    show Steps p.tables e below (T69.setTop (mkF m 12 #[.val (.ref a1), .val (.int p2)] [(.ref aA), (.int p2)])) _
    refine y_aloadN X69 hx hby d14_12 rfl rfl ?_
    refine st70 _ ?_
    show Steps p.tables e below (T70.setTop (mkF m 16 #[.val (.ref a1), .val (.int p2)] [(.int (4 : Int32)), (.ref aA), (.int p2)])) _
    refine y_iconst X70 hx hby (v := (1 : Int32)) d14_16 rfl ?_
    refine y_isub X70 hx hby d14_17 ?_
    rw [show ((4 : Int32) - (1 : Int32)) = (3 : Int32) from by decide]
    refine X70.iaload hx (j := (3 : Int32)) (v := (.int x3)) (by rw [e70]; exact Ar71.1) (State.isArrayOf_alike hZ.alike Ar71.2.1) Ar71.2.2 hin71 hat71 (g := (mkF m 18 #[.val (.ref a1), .val (.int p2)] [(.int (3 : Int32)), (.ref aA), (.int p2)])) rfl rfl (hb hby d14_18) _ ?_
    show Steps p.tables e below (T70.setTop (mkF m 19 #[.val (.ref a1), .val (.int p2)] [(.int x3), (.int p2)])) _
    refine y_icmpYes X70 hx hby (pc' := 32) d14_19 (tlt hlt).2.2.1 (by decide) (by decide) ?_
    refine y_aloadN X70 hx hby d14_32 rfl rfl ?_
    refine st72 _ ?_
    show Steps p.tables e below (T72.setTop (mkF m 36 #[.val (.ref a1), .val (.int p2)] [(.int (4 : Int32))])) _
    refine y_aloadN X72 hx hby d14_36 rfl rfl ?_
    refine st73 _ ?_
    show Steps p.tables e below (T73.setTop (mkF m 40 #[.val (.ref a1), .val (.int p2)] [(.ref aA), (.int (4 : Int32))])) _
    refine X73.arraylength hx (by rw [e73]; exact Ar74.1) (State.isArrayOf_alike hZ.alike Ar74.2.1) (g := (mkF m 40 #[.val (.ref a1), .val (.int p2)] [(.ref aA), (.int (4 : Int32))])) rfl rfl (hb hby d14_40) _ ?_
    rw [len_of Sz74 Nn74]
    show Steps p.tables e below (T73.setTop (mkF m 41 #[.val (.ref a1), .val (.int p2)] [(.int (4 : Int32)), (.int (4 : Int32))])) _
    refine y_icmpNo X73 hx hby d14_41 (teq rfl).2 ?_
    refine y_aloadN X73 hx hby d14_44 rfl rfl ?_
    refine y_aloadN X73 hx hby d14_45 rfl rfl ?_
    refine st75 _ ?_
    show Steps p.tables e below (T75.setTop (mkF m 49 #[.val (.ref a1), .val (.int p2)] [(.ref aA), (.ref a1)])) _
    refine y_iconst X75 hx hby (v := (2 : Int32)) d14_49 rfl ?_
    refine y_aloadN X75 hx hby d14_50 rfl rfl ?_
    refine st76 _ ?_
    show Steps p.tables e below (T76.setTop (mkF m 54 #[.val (.ref a1), .val (.int p2)] [(.int (4 : Int32)), (.int (2 : Int32)), (.ref aA), (.ref a1)])) _
    refine y_imul X76 hx hby d14_54 ?_
    rw [show ((2 : Int32) * (4 : Int32)) = (8 : Int32) from by decide]
    refine st77 _ ?_
    show Steps p.tables e below (T77.setTop (mkF m 58 #[.val (.ref a1), .val (.int p2)] [(.ref b77), (.ref a1)])) _
    refine st78 _ ?_
    show Steps p.tables e below (T78.setTop (mkF m 61 #[.val (.ref a1), .val (.int p2)] [])) _
    refine y_aloadN X78 hx hby d14_61 rfl rfl ?_
    refine st79 _ ?_
    show Steps p.tables e below (T79.setTop (mkF m 65 #[.val (.ref a1), .val (.int p2)] [(.ref b77)])) _
    refine y_aloadN X79 hx hby d14_65 rfl rfl ?_
    refine y_dup X79 hx hby d14_66 rfl ?_
    refine st80 _ ?_
    show Steps p.tables e below (T80.setTop (mkF m 70 #[.val (.ref a1), .val (.int p2)] [(.int (4 : Int32)), (.ref a1), (.ref b77)])) _
    refine y_dupX1 X80 hx hby d14_70 rfl rfl ?_
    refine y_iconst X80 hx hby (v := (1 : Int32)) d14_71 rfl ?_
    refine y_iadd X80 hx hby d14_72 ?_
    rw [show ((4 : Int32) + (1 : Int32)) = (5 : Int32) from by decide]
    refine st81 _ ?_
    show Steps p.tables e below (T81.setTop (mkF m 76 #[.val (.ref a1), .val (.int p2)] [(.int (4 : Int32)), (.ref b77)])) _
    refine y_iloadN X81 hx hby d14_76 rfl ?_
    refine st83 _ ?_
    show Steps p.tables e below (T83.setTop (mkF m 78 #[.val (.ref a1), .val (.int p2)] [])) _
    refine y_aloadN X83 hx hby d14_78 rfl rfl ?_
    show Steps p.tables e below (T83.setTop (mkF m 79 #[.val (.ref a1), .val (.int p2)] [(.ref a1)])) _
    jvm_step X83.here [X83.here.top, hx, (hb hby d14_79), X83.method', Bd.returns, Value.isRef, FieldType.isReference]
    first | (intro acts; rw [hr _ acts rfl rfl rfl]) | rw [hr _ _ rfl rfl rfl]
    exact Steps.refl _
  · show QG Z a1 (8 : Int32) (5 : Int32) [(.int x0), (.int x1), (.int x2), (.int x3), (.int p2), (.int (0 : Int32)), (.int (0 : Int32)), (.int (0 : Int32))] h0 n0 _ T83.heap _
    rw [e83]
    exact ⟨b77, _, rfl, N83, KK, sz_b77, F_size_a1, F_numbers_a1, V_b77, E_b77⟩
set_option maxRecDepth 65536 in
set_option maxHeartbeats 40000000 in
theorem rm14_5 (l : Launch) (Z : State) (a0 : Array Value) (hw : HW a0 Z) (ws : List Jvm.Cond) (a1 : Addr) (p2 : Int32) (aA : Addr) (kA : ClassId) (x0 x1 x2 x3 x4 : Int32) (h0 : Heap) (n0 : Nat) (Z0 : n0 ≤ h0.size) (hlt : x4 < p2) (E_a1 : Exa Z h0 a1 "com/example/hard_delay_bounds/harddelaybounds/analysis/FlowSet$Builder") (F_numbers_a1 : Fld Z h0 a1 "com/example/hard_delay_bounds/harddelaybounds/analysis/FlowSet$Builder" "numbers" "[I" (.ref aA)) (F_size_a1 : Fld Z h0 a1 "com/example/hard_delay_bounds/harddelaybounds/analysis/FlowSet$Builder" "size" "I" (.int (5 : Int32))) (E_aA : Exa Z h0 aA "[I") (V_aA : Arv Z h0 aA kA .int (8 : Int32) [(.int x0), (.int x1), (.int x2), (.int x3), (.int x4), (.int (0 : Int32)), (.int (0 : Int32)), (.int (0 : Int32))] (.int (0 : Int32))) (g_a1 : n0 ≤ a1) (g_aA : n0 ≤ aA) (ne_a1_aA : a1 ≠ aA) :
    MF l mn4 prog_18_method_2_code 2 (some (.object "com/example/hard_delay_bounds/harddelaybounds/analysis/FlowSet$Builder")) ws ({ frames := 0, cells := 0, slots := 0, locals := 0 } : Room) #[(.ref a1), (.int p2)] Z h0 (QA Z a1 aA kA (8 : Int32) (6 : Int32) [(.int x0), (.int x1), (.int x2), (.int x3), (.int x4), (.int p2), (.int (0 : Int32)), (.int (0 : Int32))] h0 n0) := by
  refine MetFree.of_bodySF (plainFor_of_name pn_2) hisR ?_
  intro p e s m args below meth c s₁ Bd hml0 hP hK
  obtain ⟨rfl, hZ, hh⟩ := hP
  have hx := Bd.exec
  have hby := Bd.bytes
  have hml : c.maxLocals = 2 := hml0
  have hown : s.vm.findClass "com/example/hard_delay_bounds/harddelaybounds/analysis/FlowSet$Builder" = some m.cls := findClass_of_methodNamed Bd.named
  have hnm := (name_of_methodNamed Bd.named Bd.method).1
  have X0 : Stand p l e ({ frames := 0, cells := 0, slots := 0, locals := 0 } : Room) s m #[(.ref a1), (.int p2)] below meth c s₁ [] 0 0 := Stand.of_body Bd
  have e0 : s₁.heap = h0 := by rw [← hh, Bd.state]; rfl
  have N0 := Fr.nil n0
  have pre0 : GO p e below (s₁.setTop (mkF m 0 #[.val (.ref a1), .val (.int p2)] [])) (s₁.setTop (entryFrame m #[(.ref a1), (.int p2)] 2)) := fun t k => castTop (ef_14 m a1 p2) k
  have KK := Keep.refl h0 [a1, aA]
  obtain ⟨T84, X84, e84, st84⟩ := getF X0 hx hZ hown (host := "") (Or.inl (ww hw 28 rfl)) Via.refl e0 F_size_a1 (g := (mkF m 1 #[.val (.ref a1), .val (.int p2)] [(.ref a1)])) rfl rfl (hb hby d14_1)
  obtain ⟨T85, X85, e85, st85⟩ := getF X84 hx hZ hown (host := "") (Or.inl (ww hw 18 rfl)) Via.refl e84 F_numbers_a1 (g := (mkF m 9 #[.val (.ref a1), .val (.int p2)] [(.ref a1), (.int p2)])) rfl rfl (hb hby d14_9)
  obtain ⟨T86, X86, e86, st86⟩ := getF X85 hx hZ hown (host := "") (Or.inl (ww hw 28 rfl)) Via.refl e85 F_size_a1 (g := (mkF m 13 #[.val (.ref a1), .val (.int p2)] [(.ref a1), (.ref aA), (.int p2)])) rfl rfl (hb hby d14_13)
  obtain ⟨cl87, Ar87, q87, Sz87, Nn87, Hh87, Gg87⟩ := id V_aA
  have hin87 : ¬ ((4 : Int32) < 0 ∨ cl87.slots.size ≤ ((4 : Int32)).toNatClampNeg) := inb_of Sz87 ⟨by decide, by decide⟩
  have hat87 : cl87.slots[((4 : Int32)).toNatClampNeg]? = some (.int x4) := Hh87.at hin87 rfl
  obtain ⟨T88, X88, e88, st88⟩ := getF X86 hx hZ hown (host := "") (Or.inl (ww hw 28 rfl)) Via.refl e86 F_size_a1 (g := (mkF m 33 #[.val (.ref a1), .val (.int p2)] [(.ref a1)])) rfl rfl (hb hby d14_33)
  obtain ⟨T89, X89, e89, st89⟩ := getF X88 hx hZ hown (host := "") (Or.inl (ww hw 18 rfl)) Via.refl e88 F_numbers_a1 (g := (mkF m 37 #[.val (.ref a1), .val (.int p2)] [(.ref a1), (.int (5 : Int32))])) rfl rfl (hb hby d14_37)
  obtain ⟨cl90, Ar90, q90, Sz90, Nn90, Hh90, Gg90⟩ := id V_aA
  obtain ⟨T91, X91, e91, st91⟩ := getF X89 hx hZ hown (host := "") (Or.inl (ww hw 18 rfl)) Via.refl e89 F_numbers_a1 (g := (mkF m 62 #[.val (.ref a1), .val (.int p2)] [(.ref a1)])) rfl rfl (hb hby d14_62)
  obtain ⟨T92, X92, e92, st92⟩ := getF X91 hx hZ hown (host := "") (Or.inl (ww hw 28 rfl)) Via.refl e91 F_size_a1 (g := (mkF m 67 #[.val (.ref a1), .val (.int p2)] [(.ref a1), (.ref a1), (.ref aA)])) rfl rfl (hb hby d14_67)
  obtain ⟨T93, h93, X93, e93, W93, st93⟩ := putF X92 hx hZ hown (host := "") (Or.inl (ww hw 28 rfl)) Via.refl e92 F_size_a1 E_a1 (Or.inl (ww hw 29 rfl)) (ww hw 9 rfl) (ty := .int) (by decide) rfl rfl (g := (mkF m 73 #[.val (.ref a1), .val (.int p2)] [(.int (6 : Int32)), (.ref a1), (.int (5 : Int32)), (.ref aA)])) rfl rfl (hb hby d14_73)
  replace E_a1 := E_a1.wr W93
  replace F_numbers_a1 := F_numbers_a1.other W93 (Or.inr (slot_ne (Or.inl (ww hw 19 rfl)) (Or.inl (ww hw 29 rfl)) (by decide) (t := (.array .int)) (t' := .int) (by decide) (by decide)))
  replace F_size_a1 := F_size_a1.same W93
  replace E_aA := E_aA.wr W93
  replace V_aA := V_aA.other W93 (Ne.symm ne_a1_aA)
  replace Z0 := Nat.le_trans Z0 (Keep.of_wr W93).1
  replace KK := KK.wr W93 (Or.inl (List.mem_of_getElem? (i := 0) rfl))
  have N93 := Fr.snoc X93 N0 g_a1
  obtain ⟨cl94, Ar94, q94, Sz94, Nn94, Hh94, Gg94⟩ := V_aA
  have hin94 : ¬ ((5 : Int32) < 0 ∨ cl94.slots.size ≤ ((5 : Int32)).toNatClampNeg) := inb_of Sz94 ⟨by decide, by decide⟩
  obtain ⟨T95, h95, X95, e95, W95, st95⟩ := stI X93 hx hZ e93 Ar94 (j := (5 : Int32)) hin94 (g := (mkF m 77 #[.val (.ref a1), .val (.int p2)] [(.int p2), (.int (5 : Int32)), (.ref aA)])) rfl rfl (hb hby d14_77)
  replace E_a1 := E_a1.wr W95
  replace F_numbers_a1 := F_numbers_a1.other W95 (Or.inl ne_a1_aA)
  replace F_size_a1 := F_size_a1.other W95 (Or.inl ne_a1_aA)
  replace E_aA := E_aA.wr W95
  replace Z0 := Nat.le_trans Z0 (Keep.of_wr W95).1
  replace KK := KK.wr W95 (Or.inl (List.mem_of_getElem? (i := 1) rfl))
  have V_aA : Arv Z h95 aA kA .int (8 : Int32) [(.int x0), (.int x1), (.int x2), (.int x3), (.int x4), (.int p2), (.int (0 : Int32)), (.int (0 : Int32))] (.int (0 : Int32)) := Arv.set Ar94 q94 Sz94 Nn94 Hh94 Gg94 rfl W95 5 rfl (Nat.le_of_ble_eq_true rfl)
  have N95 := Fr.snoc X95 N93 g_aA
  obtain ⟨fs, hr, hrun, hended, hW, hsame⟩ := X95.leave (v := some (.ref a1)) (fun h => by rw [Bd.returns] at h; cases h)
  refine ⟨_, _, pre0 _ ?_, hrun, hended, _, _, rfl, ?_, ⟨_, rfl⟩, hW, hsame.mono (by decide) (by decide)⟩
  · refine y_aloadN X0 hx hby d14_0 rfl rfl ?_
    refine st84 _ ?_
    show Steps p.tables e below (T84.setTop (mkF m 4 #[.val (.ref a1), .val (.int p2)] [(.int (5 : Int32))])) _
    refine y_ifNo X84 hx hby d14_4 ((if0 _ _).trans (tlt (by decide)).2.2.2) ?_
    refine y_iloadN X84 hx hby d14_7 rfl ?_
    refine y_aloadN X84 hx hby d14_8 rfl rfl ?_
    refine st85 _ ?_
    show Steps p.tables e below (T85.setTop (mkF m 12 #[.val (.ref a1), .val (.int p2)] [(.ref aA), (.int p2)])) _
    refine y_aloadN X85 hx hby d14_12 rfl rfl ?_
    refine st86 _ ?_
    show Steps p.tables e below (T86.setTop (mkF m 16 #[.val (.ref a1), .val (.int p2)] [(.int (5 : Int32)), (.ref aA), (.int p2)])) _
    refine y_iconst X86 hx hby (v := (1 : Int32)) d14_16 rfl ?_
    refine y_isub X86 hx hby d14_17 ?_
    rw [show ((5 : Int32) - (1 : Int32)) = (4 : Int32) from by decide]
    refine X86.iaload hx (j := (4 : Int32)) (v := (.int x4)) (by rw [e86]; exact Ar87.1) (State.isArrayOf_alike hZ.alike Ar87.2.1) Ar87.2.2 hin87 hat87 (g := (mkF m 18 #[.val (.ref a1), .val (.int p2)] [(.int (4 : Int32)), (.ref aA), (.int p2)])) rfl rfl (hb hby d14_18) _ ?_
    show Steps p.tables e below (T86.setTop (mkF m 19 #[.val (.ref a1), .val (.int p2)] [(.int x4), (.int p2)])) _
    refine y_icmpYes X86 hx hby (pc' := 32) d14_19 (tlt hlt).2.2.1 (by decide) (by decide) ?_
    refine y_aloadN X86 hx hby d14_32 rfl rfl ?_
    refine st88 _ ?_
    show Steps p.tables e below (T88.setTop (mkF m 36 #[.val (.ref a1), .val (.int p2)] [(.int (5 : Int32))])) _
    refine y_aloadN X88 hx hby d14_36 rfl rfl ?_
    refine st89 _ ?_
    show Steps p.tables e below (T89.setTop (mkF m 40 #[.val (.ref a1), .val (.int p2)] [(.ref aA), (.int (5 : Int32))])) _
    refine X89.arraylength hx (by rw [e89]; exact Ar90.1) (State.isArrayOf_alike hZ.alike Ar90.2.1) (g := (mkF m 40 #[.val (.ref a1), .val (.int p2)] [(.ref aA), (.int (5 : Int32))])) rfl rfl (hb hby d14_40) _ ?_
    rw [len_of Sz90 Nn90]
    show Steps p.tables e below (T89.setTop (mkF m 41 #[.val (.ref a1), .val (.int p2)] [(.int (8 : Int32)), (.int (5 : Int32))])) _
    refine y_icmpYes X89 hx hby (pc' := 61) d14_41 (feq (by decide)).2 (by decide) (by decide) ?_
    refine y_aloadN X89 hx hby d14_61 rfl rfl ?_
    refine st91 _ ?_
    show Steps p.tables e below (T91.setTop (mkF m 65 #[.val (.ref a1), .val (.int p2)] [(.ref aA)])) _
    refine y_aloadN X91 hx hby d14_65 rfl rfl ?_
    refine y_dup X91 hx hby d14_66 rfl ?_
    refine st92 _ ?_
    show Steps p.tables e below (T92.setTop (mkF m 70 #[.val (.ref a1), .val (.int p2)] [(.int (5 : Int32)), (.ref a1), (.ref aA)])) _
    refine y_dupX1 X92 hx hby d14_70 rfl rfl ?_
    refine y_iconst X92 hx hby (v := (1 : Int32)) d14_71 rfl ?_
    refine y_iadd X92 hx hby d14_72 ?_
    rw [show ((5 : Int32) + (1 : Int32)) = (6 : Int32) from by decide]
    refine st93 _ ?_
    show Steps p.tables e below (T93.setTop (mkF m 76 #[.val (.ref a1), .val (.int p2)] [(.int (5 : Int32)), (.ref aA)])) _
    refine y_iloadN X93 hx hby d14_76 rfl ?_
    refine st95 _ ?_
    show Steps p.tables e below (T95.setTop (mkF m 78 #[.val (.ref a1), .val (.int p2)] [])) _
    refine y_aloadN X95 hx hby d14_78 rfl rfl ?_
    show Steps p.tables e below (T95.setTop (mkF m 79 #[.val (.ref a1), .val (.int p2)] [(.ref a1)])) _
    jvm_step X95.here [X95.here.top, hx, (hb hby d14_79), X95.method', Bd.returns, Value.isRef, FieldType.isReference]
    first | (intro acts; rw [hr _ acts rfl rfl rfl]) | rw [hr _ _ rfl rfl rfl]
    exact Steps.refl _
  · show QA Z a1 aA kA (8 : Int32) (6 : Int32) [(.int x0), (.int x1), (.int x2), (.int x3), (.int x4), (.int p2), (.int (0 : Int32)), (.int (0 : Int32))] h0 n0 _ T95.heap _
    rw [e95]
    exact ⟨rfl, N95, KK, F_size_a1, F_numbers_a1, V_aA⟩
set_option maxRecDepth 65536 in
set_option maxHeartbeats 40000000 in
theorem rm5_4_0_0 (l : Launch) (Z : State) (a0 : Array Value) (hw : HW a0 Z) (ws : List Jvm.Cond) (a1 : Addr) (k1 : ClassId) (h0 : Heap) (n0 : Nat) (Z0 : n0 ≤ h0.size) (E_a1 : Exa Z h0 a1 "[I") (V_a1 : Arv Z h0 a1 k1 .int (4 : Int32) [(.int (0 : Int32)), (.int (0 : Int32)), (.int (0 : Int32)), (.int (0 : Int32))] (.int (0 : Int32))) :
    MF l mn5 jdk_65_method_123_code 3 (some (.array .int)) ws ({ frames := 1, cells := 1, slots := 0, locals := 18 } : Room) #[(.ref a1), (.int (0 : Int32))] Z h0 (QC Z (0 : Int32) [] h0 n0) := by
  refine MetFree.of_bodySF (plainFor_of_name pn_5) hisR ?_
  intro p e s m args below meth c s₁ Bd hml0 hP hK
  obtain ⟨rfl, hZ, hh⟩ := hP
  have hx := Bd.exec
  have hby := Bd.bytes
  have hml : c.maxLocals = 3 := hml0
  have hown : s.vm.findClass "java/util/Arrays" = some m.cls := findClass_of_methodNamed Bd.named
  have hnm := (name_of_methodNamed Bd.named Bd.method).1
  have X0 : Stand p l e ({ frames := 1, cells := 1, slots := 0, locals := 18 } : Room) s m #[(.ref a1), (.int (0 : Int32))] below meth c s₁ [] 0 0 := Stand.of_body Bd
  have e0 : s₁.heap = h0 := by rw [← hh, Bd.state]; rfl
  have N0 := Fr.nil n0
  have pre0 : GO p e below (s₁.setTop (mkF m 0 #[.val (.ref a1), .val (.int (0 : Int32)), .unset] [])) (s₁.setTop (entryFrame m #[(.ref a1), (.int (0 : Int32))] 3)) := fun t k => castTop (ef_5 m a1 (0 : Int32)) k
  have KK := Keep.refl h0 []
  obtain ⟨cl96, Ar96, q96, Sz96, Nn96, Hh96, Gg96⟩ := id V_a1
  obtain ⟨T97, h97, k97, X97, e97, E97, A97, Ex97, st97⟩ := newPE X0 hx hZ (ww hw 17 rfl) e0 (g := (mkF m 15 #[.val (.ref a1), .val (.int (0 : Int32)), .unset] [(.int (0 : Int32))])) rfl (hb hby d5_15) rfl (by decide) (cap := 0) (by decide) (by decide) (by decide) (by decide) (ad := "[I") (by first | rfl | decide)
  obtain ⟨b97, g97⟩ : ∃ z, z = h0.size := ⟨_, rfl⟩
  rw [← g97] at A97 Ex97 st97
  have g_b97 : n0 ≤ b97 := Nat.le_trans Z0 (Nat.le_of_eq g97.symm)
  have sz_b97 : h0.size ≤ b97 := Nat.le_trans KK.1 (Nat.le_of_eq g97.symm)
  have ne_a1_b97 : a1 ≠ b97 := Nat.ne_of_lt (Nat.lt_of_lt_of_le E_a1.lt (Nat.le_of_eq g97.symm))
  replace E_a1 := E_a1.ext E97
  replace V_a1 := V_a1.ext E97
  replace Z0 := Nat.le_trans Z0 E97.1
  replace KK := KK.ext E97
  have V_b97 : Arv Z h97 b97 k97 .int (0 : Int32) [] (.int (0 : Int32)) := (Arv.new A97 (by decide)).pad (pad_rep [] (.int (0 : Int32)) 0)
  have E_b97 : Exa Z h97 b97 "[I" := Ex97
  obtain ⟨cl98, Ar98, q98, Sz98, Nn98, Hh98, Gg98⟩ := id V_a1
  obtain ⟨_, _, ⟨T99, L99, k99, n99⟩, -, X99, ⟨Lc99, hQ99, l99, y99, z99⟩, st99⟩ := Jvm.LawKit.callS X97 hx (y := mn0) hown (mvT hZ (ww hw 34 rfl)) (mvT hZ (ww hw 5 rfl)) (mvT hZ (ww hw 6 rfl)) (mvT hZ (ww hw 7 rfl)) (by decide) (backOf (W := 4) (rm1 l Z a0 hw [] (4 : Int32) (0 : Int32) h97 n0 Z0) hZ (ww hw 7 rfl) (ww hw 6 rfl) (by decide) (by decide)) (g := (mkF m 25 #[.val (.ref a1), .val (.int (0 : Int32)), .val (.ref b97)] [(.int (0 : Int32)), (.int (4 : Int32)), (.int (0 : Int32)), (.ref b97), (.int (0 : Int32)), (.ref a1)])) rfl (by rw [hml]; rfl) (argsL := [(.int (4 : Int32)), (.int (0 : Int32))]) (rest := [(.int (0 : Int32)), (.ref b97), (.int (0 : Int32)), (.ref a1)]) (lenOf pd_0 rfl) rfl (by show 2 * 0 + _ ≤ _; exact Nat.le_of_eq rfl) (hb hby d5_25) (fun _ _ => ⟨rfl, e97, (by decide : 1 + 0 ≤ _), (by decide : 0 + 0 ≤ _)⟩)
  dsimp only [Pt.U, Pt.locs, Pt.cells, Pt.slots] at X99 l99 y99 z99 st99 hQ99
  subst l99 y99 z99
  obtain ⟨rfl, N99q, e99⟩ := hQ99
  rw [show f1 (4 : Int32) (0 : Int32) = (0 : Int32) from by decide] at st99
  have N99 := Fr.app N0 N99q
  obtain ⟨T100, h100, L100, X100, e100, N100, K100, Vn100, st100⟩ := cpA X99 hx hZ hown (ww hw 35 rfl) (ww hw 38 rfl) (ww hw 36 rfl) (ww hw 37 rfl) e99 (us := []) V_a1 V_b97 (Or.inl ⟨rfl, rfl⟩) (by decide) (by decide) (by decide) (by decide) (by decide) rfl (by decide) N99 g_b97 (g := (mkF m 28 #[.val (.ref a1), .val (.int (0 : Int32)), .val (.ref b97)] [(.int (0 : Int32)), (.int (0 : Int32)), (.ref b97), (.int (0 : Int32)), (.ref a1)])) rfl (by rw [hml]; rfl) rfl (hb hby d5_28) (by decide) (W := 0) (by show 2 * 0 + _ ≤ _; exact Nat.le_of_eq rfl) (by decide)
  replace E_a1 := E_a1.keep K100
  replace V_a1 := V_a1.keep K100 (ninS ne_a1_b97 nin0)
  replace E_b97 := E_b97.keep K100
  replace Z0 := Nat.le_trans Z0 K100.1
  replace KK := KK.trans K100 (allS (Or.inr sz_b97) all0)
  have V_b97 : Arv Z h100 b97 k97 .int (0 : Int32) [] (.int (0 : Int32)) := Vn100
  obtain ⟨fs, hr, hrun, hended, hW, hsame⟩ := X100.leave (v := some (.ref b97)) (fun h => by rw [Bd.returns] at h; cases h)
  refine ⟨_, _, pre0 _ ?_, hrun, hended, _, _, rfl, ?_, ⟨_, rfl⟩, hW, hsame.mono (by decide) (by decide)⟩
  · refine y_iloadN X0 hx hby d5_0 rfl ?_
    refine y_aloadN X0 hx hby d5_1 rfl rfl ?_
    refine X0.arraylength hx (by rw [e0]; exact Ar96.1) (State.isArrayOf_alike hZ.alike Ar96.2.1) (g := (mkF m 2 #[.val (.ref a1), .val (.int (0 : Int32)), .unset] [(.ref a1), (.int (0 : Int32))])) rfl rfl (hb hby d5_2) _ ?_
    rw [len_of Sz96 Nn96]
    show Steps p.tables e below (s₁.setTop (mkF m 3 #[.val (.ref a1), .val (.int (0 : Int32)), .unset] [(.int (4 : Int32)), (.int (0 : Int32))])) _
    refine y_icmpYes X0 hx hby (pc' := 14) d5_3 (feq (by decide)).2 (by decide) (by decide) ?_
    refine y_iloadN X0 hx hby d5_14 rfl ?_
    refine st97 _ ?_
    show Steps p.tables e below (T97.setTop (mkF m 17 #[.val (.ref a1), .val (.int (0 : Int32)), .unset] [(.ref b97)])) _
    refine y_astoreN X97 hx hby d5_17 rfl (l' := #[.val (.ref a1), .val (.int (0 : Int32)), .val (.ref b97)]) rfl ?_
    refine y_aloadN X97 hx hby d5_18 rfl rfl ?_
    refine y_iconst X97 hx hby (v := (0 : Int32)) d5_19 rfl ?_
    refine y_aloadN X97 hx hby d5_20 rfl rfl ?_
    refine y_iconst X97 hx hby (v := (0 : Int32)) d5_21 rfl ?_
    refine y_aloadN X97 hx hby d5_22 rfl rfl ?_
    refine X97.arraylength hx (by rw [e97]; exact Ar98.1) (State.isArrayOf_alike hZ.alike Ar98.2.1) (g := (mkF m 23 #[.val (.ref a1), .val (.int (0 : Int32)), .val (.ref b97)] [(.ref a1), (.int (0 : Int32)), (.ref b97), (.int (0 : Int32)), (.ref a1)])) rfl rfl (hb hby d5_23) _ ?_
    rw [len_of Sz98 Nn98]
    show Steps p.tables e below (T97.setTop (mkF m 24 #[.val (.ref a1), .val (.int (0 : Int32)), .val (.ref b97)] [(.int (4 : Int32)), (.int (0 : Int32)), (.ref b97), (.int (0 : Int32)), (.ref a1)])) _
    refine y_iloadN X97 hx hby d5_24 rfl ?_
    refine st99 _ ?_
    show Steps p.tables e below (T99.setTop (mkF m 28 #[.val (.ref a1), .val (.int (0 : Int32)), .val (.ref b97)] [(.int (0 : Int32)), (.int (0 : Int32)), (.ref b97), (.int (0 : Int32)), (.ref a1)])) _
    refine st100 _ ?_
    show Steps p.tables e below (T100.setTop (mkF m 31 #[.val (.ref a1), .val (.int (0 : Int32)), .val (.ref b97)] [])) _
    refine y_aloadN X100 hx hby d5_31 rfl rfl ?_
    show Steps p.tables e below (T100.setTop (mkF m 32 #[.val (.ref a1), .val (.int (0 : Int32)), .val (.ref b97)] [(.ref b97)])) _
    jvm_step X100.here [X100.here.top, hx, (hb hby d5_32), X100.method', Bd.returns, Value.isRef, FieldType.isReference]
    first | (intro acts; rw [hr _ acts rfl rfl rfl]) | rw [hr _ _ rfl rfl rfl]
    exact Steps.refl _
  · show QC Z (0 : Int32) [] h0 n0 _ T100.heap _
    rw [e100]
    exact ⟨b97, _, rfl, N100, KK, sz_b97, V_b97, E_b97⟩
theorem d6_21 : decode prog_17_method_1_code 21 = .ok (.iload 5, 2) := by decide +kernel
theorem d6_23 : decode prog_17_method_1_code 23 = .ok (.iload 4, 2) := by decide +kernel
theorem d6_25 : decode prog_17_method_1_code 25 = .ok (.if_icmp .ge 30, 3) := by decide +kernel
theorem d6_28 : decode prog_17_method_1_code 28 = .ok (.aload_n 3, 1) := by decide +kernel
theorem d6_29 : decode prog_17_method_1_code 29 = .ok (.iload 5, 2) := by decide +kernel
theorem d6_31 : decode prog_17_method_1_code 31 = .ok (.iaload, 1) := by decide +kernel
theorem d6_32 : decode prog_17_method_1_code 32 = .ok (.istore 6, 2) := by decide +kernel
theorem d6_34 : decode prog_17_method_1_code 34 = .ok (.iload_n 2, 1) := by decide +kernel
theorem d6_35 : decode prog_17_method_1_code 35 = .ok (.iload 6, 2) := by decide +kernel
theorem d6_37 : decode prog_17_method_1_code 37 = .ok (.ixor, 1) := by decide +kernel
theorem d6_38 : decode prog_17_method_1_code 38 = .ok (.ldc 13, 2) := by decide +kernel
theorem d6_40 : decode prog_17_method_1_code 40 = .ok (.imul, 1) := by decide +kernel
theorem d6_41 : decode prog_17_method_1_code 41 = .ok (.istore_n 2, 1) := by decide +kernel
theorem d6_42 : decode prog_17_method_1_code 42 = .ok (.iload_n 2, 1) := by decide +kernel
theorem d6_43 : decode prog_17_method_1_code 43 = .ok (.iload_n 2, 1) := by decide +kernel
theorem d6_44 : decode prog_17_method_1_code 44 = .ok (.bipush 15, 2) := by decide +kernel
theorem d6_46 : decode prog_17_method_1_code 46 = .ok (.iushr, 1) := by decide +kernel
theorem d6_47 : decode prog_17_method_1_code 47 = .ok (.ixor, 1) := by decide +kernel
theorem d6_48 : decode prog_17_method_1_code 48 = .ok (.istore_n 2, 1) := by decide +kernel
theorem d6_49 : decode prog_17_method_1_code 49 = .ok (.iinc 5 1, 3) := by decide +kernel
theorem d6_52 : decode prog_17_method_1_code 52 = .ok (.goto (-31), 3) := by decide +kernel
theorem own_os {a b c d e f sl : Slot} {x : Int32} (h : One sl) : storeLocals #[a, b, c, d, e, f, sl] 6 (.int x) = some #[a, b, c, d, e, f, .val (.int x)] := by
  rcases h with rfl | ⟨w, rfl, hw⟩
  · rfl
  · cases w <;> first | rfl | (simp [Value.category] at hw)
set_option maxRecDepth 65536 in
set_option maxHeartbeats 4000000 in
theorem own_floop {p : Program} {l : Launch} {e : Env} {R : Room} {s : State} {m : MethodId} {args : Array Value} {below : List Frame} {meth : Method} {c : Code} {T : State} {locs : List Loc} {cells slots : Nat} {Z : State} {a0 : Array Value} {h : Heap} (X : Stand p l e R s m args below meth c T locs cells slots) (hx : p.tables.exec = Jvm.exec) (hZ : Z.Warmed39 s.vm) (hw : ∀ d ∈ tables_1, d.before a0 Z = true) (hby : c.code = prog_17_method_1_code) (hown : s.vm.findClass "com/example/hard_delay_bounds/harddelaybounds/analysis/FlowSet" = some m.cls) (eT : T.heap = h) {a1 a2 : Addr} {cl : Cell} {z : Int32} (A : Arr Z h a2 cl .int) (Sz : cl.slots.size = z.toNatClampNeg) (G : ∀ i, i < cl.slots.size → ∃ x, cl.slots[i]? = some (.int x)) :
    ∀ (f : Nat) (i hv : Int32) (sl : Slot), ¬ i < 0 → ¬ z < i → (z.toInt - i.toInt).toNat = f → One sl → ∃ hv' sl', One sl' ∧ ∀ t, Steps p.tables e below (T.setTop (mkF m 55 #[.val (.ref a1), .val (.ref a2), .val (.int hv'), .val (.ref a2), .val (.int z), .val (.int z), sl'] [])) t → Steps p.tables e below (T.setTop (mkF m 21 #[.val (.ref a1), .val (.ref a2), .val (.int hv), .val (.ref a2), .val (.int z), .val (.int i), sl] [])) t := by
  intro f
  induction f with
  | zero =>
    intro i hv sl h0 h1 hf hs
    have e1 : i = z := by
      rw [Int32.lt_iff_toInt_lt] at h1
      rw [← Int32.toInt_inj]
      omega
    subst e1
    refine ⟨hv, sl, hs, fun t k => ?_⟩
    refine y_iload X hx hby d6_21 rfl ?_
    refine y_iload X hx hby d6_23 rfl ?_
    refine y_icmpYes X hx hby (pc' := 55) d6_25 (flt Int32.lt_irrefl).2.1 (by decide) (by decide) ?_
    exact k
  | succ f ih =>
    intro i hv sl h0 h1 hf hs
    have z0 : (0 : Int32).toInt = 0 := by decide
    have o1 : (1 : Int32).toInt = 1 := by decide
    have ha := c_iadd i 1
    have r1 := rng32 (i + 1)
    have r2 := rng32 z
    have hlt : i < z := by rw [Int32.lt_iff_toInt_lt]; omega
    have hin : ¬ (i < 0 ∨ cl.slots.size ≤ i.toNatClampNeg) := inb_of Sz ⟨h0, hlt⟩
    obtain ⟨x, hat⟩ := G i.toNatClampNeg (Nat.lt_of_not_le fun q => hin (Or.inr q))
    rw [Int32.lt_iff_toInt_lt] at h0 h1
    have hlt' := Int32.lt_iff_toInt_lt.mp hlt
    obtain ⟨hv', sl', hs', kk⟩ := ih (i + 1) (((hv ^^^ x) * (-1640531535 : Int32)) ^^^ ((((hv ^^^ x) * (-1640531535 : Int32)).toUInt32 >>> ((15 : Int32) &&& 31).toUInt32).toInt32)) (.val (.int x)) (by rw [Int32.lt_iff_toInt_lt]; omega) (by rw [Int32.lt_iff_toInt_lt]; omega) (by omega) (One.val rfl)
    refine ⟨hv', sl', hs', fun t k => ?_⟩
    refine y_iload X hx hby d6_21 rfl ?_
    refine y_iload X hx hby d6_23 rfl ?_
    refine y_icmpNo X hx hby d6_25 (tlt hlt).2.1 ?_
    refine y_aloadN X hx hby d6_28 rfl rfl ?_
    refine y_iload X hx hby d6_29 rfl ?_
    refine X.iaload hx (j := i) (v := .int x) (by rw [eT]; exact A.1) (State.isArrayOf_alike hZ.alike A.2.1) A.2.2 hin hat (g := mkF m 31 #[.val (.ref a1), .val (.ref a2), .val (.int hv), .val (.ref a2), .val (.int z), .val (.int i), sl] [.int i, .ref a2]) rfl rfl (hb hby d6_31) _ ?_
    show Steps p.tables e below (T.setTop (mkF m 32 #[.val (.ref a1), .val (.ref a2), .val (.int hv), .val (.ref a2), .val (.int z), .val (.int i), sl] [.int x])) _
    refine y_istore X hx hby d6_32 (own_os hs) ?_
    refine y_iloadN X hx hby d6_34 rfl ?_
    refine y_iload X hx hby d6_35 rfl ?_
    refine y_ixor X hx hby d6_37 ?_
    refine X.ldcInt hx hown (mvT hZ (ww hw 89 rfl)) (g := mkF m 38 #[.val (.ref a1), .val (.ref a2), .val (.int hv), .val (.ref a2), .val (.int z), .val (.int i), .val (.int x)] [.int (hv ^^^ x)]) rfl (hb hby d6_38) _ ?_
    show Steps p.tables e below (T.setTop (mkF m 40 #[.val (.ref a1), .val (.ref a2), .val (.int hv), .val (.ref a2), .val (.int z), .val (.int i), .val (.int x)] [.int (-1640531535 : Int32), .int (hv ^^^ x)])) _
    refine y_imul X hx hby d6_40 ?_
    refine y_istoreN X hx hby d6_41 (l' := #[.val (.ref a1), .val (.ref a2), .val (.int ((hv ^^^ x) * (-1640531535 : Int32))), .val (.ref a2), .val (.int z), .val (.int i), .val (.int x)]) rfl ?_
    refine y_iloadN X hx hby d6_42 rfl ?_
    refine y_iloadN X hx hby d6_43 rfl ?_
    refine y_bipush X hx hby (v := (15 : Int32)) d6_44 rfl ?_
    refine y_iushr X hx hby d6_46 ?_
    refine y_ixor X hx hby d6_47 ?_
    refine y_istoreN X hx hby d6_48 (l' := #[.val (.ref a1), .val (.ref a2), .val (.int (((hv ^^^ x) * (-1640531535 : Int32)) ^^^ ((((hv ^^^ x) * (-1640531535 : Int32)).toUInt32 >>> ((15 : Int32) &&& 31).toUInt32).toInt32))), .val (.ref a2), .val (.int z), .val (.int i), .val (.int x)]) rfl ?_
    refine y_iinc X hx hby d6_49 rfl (l' := #[.val (.ref a1), .val (.ref a2), .val (.int (((hv ^^^ x) * (-1640531535 : Int32)) ^^^ ((((hv ^^^ x) * (-1640531535 : Int32)).toUInt32 >>> ((15 : Int32) &&& 31).toUInt32).toInt32))), .val (.ref a2), .val (.int z), .val (.int (i + 1)), .val (.int x)]) rfl ?_
    refine y_goto X hx hby (pc' := 21) d6_52 (by decide) (by decide) ?_
    exact kk t k
theorem d6_0 : decode prog_17_method_1_code 0 = .ok (.aload_n 0, 1) := by decide +kernel
theorem d6_1 : decode prog_17_method_1_code 1 = .ok (.invokespecial 1, 3) := by decide +kernel
theorem d6_4 : decode prog_17_method_1_code 4 = .ok (.aload_n 0, 1) := by decide +kernel
theorem d6_5 : decode prog_17_method_1_code 5 = .ok (.aload_n 1, 1) := by decide +kernel
theorem d6_6 : decode prog_17_method_1_code 6 = .ok (.putfield 7, 3) := by decide +kernel
theorem d6_9 : decode prog_17_method_1_code 9 = .ok (.aload_n 1, 1) := by decide +kernel
theorem d6_10 : decode prog_17_method_1_code 10 = .ok (.arraylength, 1) := by decide +kernel
theorem d6_11 : decode prog_17_method_1_code 11 = .ok (.istore_n 2, 1) := by decide +kernel
theorem d6_12 : decode prog_17_method_1_code 12 = .ok (.aload_n 1, 1) := by decide +kernel
theorem d6_13 : decode prog_17_method_1_code 13 = .ok (.astore_n 3, 1) := by decide +kernel
theorem d6_14 : decode prog_17_method_1_code 14 = .ok (.aload_n 3, 1) := by decide +kernel
theorem d6_15 : decode prog_17_method_1_code 15 = .ok (.arraylength, 1) := by decide +kernel
theorem d6_16 : decode prog_17_method_1_code 16 = .ok (.istore 4, 2) := by decide +kernel
theorem d6_18 : decode prog_17_method_1_code 18 = .ok (.iconst 0, 1) := by decide +kernel
theorem d6_19 : decode prog_17_method_1_code 19 = .ok (.istore 5, 2) := by decide +kernel
theorem d6_55 : decode prog_17_method_1_code 55 = .ok (.aload_n 0, 1) := by decide +kernel
theorem d6_56 : decode prog_17_method_1_code 56 = .ok (.iload_n 2, 1) := by decide +kernel
theorem d6_57 : decode prog_17_method_1_code 57 = .ok (.putfield 14, 3) := by decide +kernel
theorem d6_60 : decode prog_17_method_1_code 60 = .ok (.return_, 1) := by decide +kernel
abbrev mn6 : MethodName := ⟨"com/example/hard_delay_bounds/harddelaybounds/analysis/FlowSet", "<init>", "([I)V"⟩
theorem pn_6 : plainName "com/example/hard_delay_bounds/harddelaybounds/analysis/FlowSet" = true := by first | (simp [plainName, overriddenIn]; done) | decide +kernel
theorem ef_6 (m : MethodId) (x0 : Addr) (x1 : Addr) : entryFrame m #[(.ref x0), (.ref x1)] 7 = mkF m 0 #[.val (.ref x0), .val (.ref x1), .unset, .unset, .unset, .unset, .unset] [] := by first | (simp [entryFrame, mkF, argsToLocals, Value.category]; done) | rfl
abbrev lo6_0 (a1 a2 : Addr) (z : Int32) : Array Slot := #[.val (.ref a1), .val (.ref a2), .val (.int z), .val (.ref a2), .val (.int z), .val (.int (0 : Int32)), .unset]
set_option maxRecDepth 65536 in
set_option maxHeartbeats 40000000 in
theorem rm6 (l : Launch) (Z : State) (a0 : Array Value) (hw : HW a0 Z) (ws : List Jvm.Cond) (a1 a2 : Addr) (k2 : ClassId) (z : Int32) (vs : List Value) (h0 : Heap) (n0 : Nat) (Z0 : n0 ≤ h0.size) (E_a1 : Exa Z h0 a1 "com/example/hard_delay_bounds/harddelaybounds/analysis/FlowSet") (F_numbers_a1 : Fld Z h0 a1 "com/example/hard_delay_bounds/harddelaybounds/analysis/FlowSet" "numbers" "[I" .null) (F_hash_a1 : Fld Z h0 a1 "com/example/hard_delay_bounds/harddelaybounds/analysis/FlowSet" "hash" "I" (.int (0 : Int32))) (V_a2 : Arv Z h0 a2 k2 .int z vs (.int (0 : Int32))) (g_a1 : n0 ≤ a1) (ne_a1_a2 : a1 ≠ a2) :
    MF l mn6 prog_17_method_1_code 7 none ws ({ frames := 1, cells := 0, slots := 0, locals := 12 } : Room) #[(.ref a1), (.ref a2)] Z h0 (QI Z a1 a2 h0 n0) := by
  refine MetFree.of_bodySF (plainFor_of_name pn_6) hisR ?_
  intro p e s m args below meth c s₁ Bd hml0 hP hK
  obtain ⟨rfl, hZ, hh⟩ := hP
  have hx := Bd.exec
  have hby := Bd.bytes
  have hml : c.maxLocals = 7 := hml0
  have hown : s.vm.findClass "com/example/hard_delay_bounds/harddelaybounds/analysis/FlowSet" = some m.cls := findClass_of_methodNamed Bd.named
  have hnm := (name_of_methodNamed Bd.named Bd.method).1
  have X0 : Stand p l e ({ frames := 1, cells := 0, slots := 0, locals := 12 } : Room) s m #[(.ref a1), (.ref a2)] below meth c s₁ [] 0 0 := Stand.of_body Bd
  have e0 : s₁.heap = h0 := by rw [← hh, Bd.state]; rfl
  have N0 := Fr.nil n0
  have pre0 : GO p e below (s₁.setTop (mkF m 0 #[.val (.ref a1), .val (.ref a2), .unset, .unset, .unset, .unset, .unset] [])) (s₁.setTop (entryFrame m #[(.ref a1), (.ref a2)] 7)) := fun t k => castTop (ef_6 m a1 a2) k
  have KK := Keep.refl h0 [a1]
  obtain ⟨T101, X101, e101, st101⟩ := initO X0 hx hZ hown (ww hw 42 rfl) (ww hw 15 rfl) (ww hw 16 rfl) e0 (g := (mkF m 1 #[.val (.ref a1), .val (.ref a2), .unset, .unset, .unset, .unset, .unset] [(.ref a1)])) rfl (by rw [hml]; rfl) rfl (hb hby d6_1) (by decide) (W := 0) (by show 2 * 0 + _ ≤ _; exact Nat.le_of_eq rfl) (by decide)
  obtain ⟨T102, h102, X102, e102, W102, st102⟩ := putF X101 hx hZ hown (host := "") (Or.inl (ww hw 43 rfl)) Via.refl e101 F_numbers_a1 E_a1 (Or.inr ⟨(ww hw 44 rfl), rfl, hnm⟩) (ww hw 26 rfl) (ty := (.array .int)) (by decide) rfl rfl (g := (mkF m 6 #[.val (.ref a1), .val (.ref a2), .unset, .unset, .unset, .unset, .unset] [(.ref a2), (.ref a1)])) rfl rfl (hb hby d6_6)
  replace E_a1 := E_a1.wr W102
  replace F_numbers_a1 := F_numbers_a1.same W102
  replace F_hash_a1 := F_hash_a1.other W102 (Or.inr (slot_ne (Or.inr (ww hw 46 rfl)) (Or.inr (ww hw 44 rfl)) (by decide) (t := .int) (t' := (.array .int)) (by decide) (by decide)))
  replace V_a2 := V_a2.other W102 (Ne.symm ne_a1_a2)
  replace Z0 := Nat.le_trans Z0 (Keep.of_wr W102).1
  replace KK := KK.wr W102 (Or.inl (List.mem_of_getElem? (i := 0) rfl))
  have N102 := Fr.snoc X102 N0 g_a1
  obtain ⟨cl103, Ar103, q103, Sz103, Nn103, Hh103, Gg103⟩ := id V_a2
  obtain ⟨cl104, Ar104, q104, Sz104, Nn104, Hh104, Gg104⟩ := id V_a2
  have pre105 : GO p e below (T102.setTop (mkF m 21 #[.val (.ref a1), .val (.ref a2), .val (.int z), .val (.ref a2), .val (.int z), .val (.int (0 : Int32)), .unset] [])) (s₁.setTop (entryFrame m #[(.ref a1), (.ref a2)] 7)) := fun t k => by
    refine pre0 _ ?_
    refine y_aloadN X0 hx hby d6_0 rfl rfl ?_
    refine st101 _ ?_
    show Steps p.tables e below (T101.setTop (mkF m 4 #[.val (.ref a1), .val (.ref a2), .unset, .unset, .unset, .unset, .unset] [])) _
    refine y_aloadN X101 hx hby d6_4 rfl rfl ?_
    refine y_aloadN X101 hx hby d6_5 rfl rfl ?_
    refine st102 _ ?_
    show Steps p.tables e below (T102.setTop (mkF m 9 #[.val (.ref a1), .val (.ref a2), .unset, .unset, .unset, .unset, .unset] [])) _
    refine y_aloadN X102 hx hby d6_9 rfl rfl ?_
    refine X102.arraylength hx (by rw [e102]; exact Ar103.1) (State.isArrayOf_alike hZ.alike Ar103.2.1) (g := (mkF m 10 #[.val (.ref a1), .val (.ref a2), .unset, .unset, .unset, .unset, .unset] [(.ref a2)])) rfl rfl (hb hby d6_10) _ ?_
    rw [len_of Sz103 Nn103]
    show Steps p.tables e below (T102.setTop (mkF m 11 #[.val (.ref a1), .val (.ref a2), .unset, .unset, .unset, .unset, .unset] [(.int z)])) _
    refine y_istoreN X102 hx hby d6_11 (l' := #[.val (.ref a1), .val (.ref a2), .val (.int z), .unset, .unset, .unset, .unset]) rfl ?_
    refine y_aloadN X102 hx hby d6_12 rfl rfl ?_
    refine y_astoreN X102 hx hby d6_13 rfl (l' := #[.val (.ref a1), .val (.ref a2), .val (.int z), .val (.ref a2), .unset, .unset, .unset]) rfl ?_
    refine y_aloadN X102 hx hby d6_14 rfl rfl ?_
    refine X102.arraylength hx (by rw [e102]; exact Ar104.1) (State.isArrayOf_alike hZ.alike Ar104.2.1) (g := (mkF m 15 #[.val (.ref a1), .val (.ref a2), .val (.int z), .val (.ref a2), .unset, .unset, .unset] [(.ref a2)])) rfl rfl (hb hby d6_15) _ ?_
    rw [len_of Sz104 Nn104]
    show Steps p.tables e below (T102.setTop (mkF m 16 #[.val (.ref a1), .val (.ref a2), .val (.int z), .val (.ref a2), .unset, .unset, .unset] [(.int z)])) _
    refine y_istore X102 hx hby d6_16 (l' := #[.val (.ref a1), .val (.ref a2), .val (.int z), .val (.ref a2), .val (.int z), .unset, .unset]) rfl ?_
    refine y_iconst X102 hx hby (v := (0 : Int32)) d6_18 rfl ?_
    refine y_istore X102 hx hby d6_19 (l' := (lo6_0 a1 a2 z)) rfl ?_
    exact k
  obtain ⟨cl106, Ar106, q106, Sz106, Nn106, Hh106, Gg106⟩ := id V_a2
  obtain ⟨hv, sl, hs, lp⟩ := own_floop (a1 := a1) X102 hx hZ hw hby hown e102 Ar106 Sz106 (fun i hi => (fit_I (Gg106 i hi) (Or.inl rfl)).elim fun x hx => ⟨x, (Hh106 i hi).trans (congrArg some hx)⟩) _ (0 : Int32) z .unset (by decide) Nn106 rfl One.u
  have pre107 : GO p e below (T102.setTop (mkF m 55 #[.val (.ref a1), .val (.ref a2), .val (.int hv), .val (.ref a2), .val (.int z), .val (.int z), sl] [])) (s₁.setTop (entryFrame m #[(.ref a1), (.ref a2)] 7)) := fun t k => pre105 _ (lp t k)
  obtain ⟨T108, h108, X108, e108, W108, st108⟩ := putF X102 hx hZ hown (host := "") (Or.inl (ww hw 45 rfl)) Via.refl e102 F_hash_a1 E_a1 (Or.inr ⟨(ww hw 46 rfl), rfl, hnm⟩) (ww hw 26 rfl) (ty := .int) (by decide) rfl rfl (g := (mkF m 57 #[.val (.ref a1), .val (.ref a2), .val (.int hv), .val (.ref a2), .val (.int z), .val (.int z), sl] [(.int hv), (.ref a1)])) rfl rfl (hb hby d6_57)
  replace E_a1 := E_a1.wr W108
  replace F_numbers_a1 := F_numbers_a1.other W108 (Or.inr (slot_ne (Or.inr (ww hw 44 rfl)) (Or.inr (ww hw 46 rfl)) (by decide) (t := (.array .int)) (t' := .int) (by decide) (by decide)))
  replace F_hash_a1 := F_hash_a1.same W108
  replace V_a2 := V_a2.other W108 (Ne.symm ne_a1_a2)
  replace Z0 := Nat.le_trans Z0 (Keep.of_wr W108).1
  replace KK := KK.wr W108 (Or.inl (List.mem_of_getElem? (i := 0) rfl))
  have N108 := Fr.snoc X108 N102 g_a1
  obtain ⟨fs, hr, hrun, hended, hW, hsame⟩ := X108.leave (v := none) (fun _ => rfl)
  refine ⟨_, _, pre107 _ ?_, hrun, hended, _, _, rfl, ?_, ⟨_, rfl⟩, hW, hsame.mono (by decide) (by decide)⟩
  · refine y_aloadN X102 hx hby d6_55 rfl rfl ?_
    refine y_iloadN X102 hx hby d6_56 rfl ?_
    refine st108 _ ?_
    show Steps p.tables e below (T108.setTop (mkF m 60 #[.val (.ref a1), .val (.ref a2), .val (.int hv), .val (.ref a2), .val (.int z), .val (.int z), sl] [])) _
    exact X108.returnOut hx Bd.returns (hb hby d6_60) hr
  · show QI Z a1 a2 h0 n0 _ T108.heap _
    rw [e108]
    exact ⟨rfl, N108, KK, F_numbers_a1⟩
theorem d4_0 : decode prog_18_method_3_code 0 = .ok (.new 30, 3) := by decide +kernel
theorem d4_3 : decode prog_18_method_3_code 3 = .ok (.dup, 1) := by decide +kernel
theorem d4_4 : decode prog_18_method_3_code 4 = .ok (.aload_n 0, 1) := by decide +kernel
theorem d4_5 : decode prog_18_method_3_code 5 = .ok (.getfield 7, 3) := by decide +kernel
theorem d4_8 : decode prog_18_method_3_code 8 = .ok (.aload_n 0, 1) := by decide +kernel
theorem d4_9 : decode prog_18_method_3_code 9 = .ok (.getfield 13, 3) := by decide +kernel
theorem d4_12 : decode prog_18_method_3_code 12 = .ok (.invokestatic 24, 3) := by decide +kernel
theorem d4_15 : decode prog_18_method_3_code 15 = .ok (.invokespecial 32, 3) := by decide +kernel
theorem pd_2 : parseMethodDescriptor "([I)V" = some ⟨[(.array .int)], none⟩ := by decide +kernel
theorem d4_18 : decode prog_18_method_3_code 18 = .ok (.areturn, 1) := by decide +kernel
abbrev mn7 : MethodName := ⟨"com/example/hard_delay_bounds/harddelaybounds/analysis/FlowSet$Builder", "build", "()Lcom/example/hard_delay_bounds/harddelaybounds/analysis/FlowSet;"⟩
theorem ef_4 (m : MethodId) (x0 : Addr) : entryFrame m #[(.ref x0)] 1 = mkF m 0 #[.val (.ref x0)] [] := by first | (simp [entryFrame, mkF, argsToLocals, Value.category]; done) | rfl
set_option maxRecDepth 65536 in
set_option maxHeartbeats 40000000 in
theorem rm4_0 (l : Launch) (Z : State) (a0 : Array Value) (hw : HW a0 Z) (ws : List Jvm.Cond) (a1 aA : Addr) (kA : ClassId) (h0 : Heap) (n0 : Nat) (Z0 : n0 ≤ h0.size) (E_a1 : Exa Z h0 a1 "com/example/hard_delay_bounds/harddelaybounds/analysis/FlowSet$Builder") (F_numbers_a1 : Fld Z h0 a1 "com/example/hard_delay_bounds/harddelaybounds/analysis/FlowSet$Builder" "numbers" "[I" (.ref aA)) (F_size_a1 : Fld Z h0 a1 "com/example/hard_delay_bounds/harddelaybounds/analysis/FlowSet$Builder" "size" "I" (.int (0 : Int32))) (E_aA : Exa Z h0 aA "[I") (V_aA : Arv Z h0 aA kA .int (4 : Int32) [(.int (0 : Int32)), (.int (0 : Int32)), (.int (0 : Int32)), (.int (0 : Int32))] (.int (0 : Int32))) (ne_a1_aA : a1 ≠ aA) :
    MF l mn7 prog_18_method_3_code 1 (some (.object "com/example/hard_delay_bounds/harddelaybounds/analysis/FlowSet")) ws ({ frames := 2, cells := 2, slots := 2, locals := 34 } : Room) #[(.ref a1)] Z h0 (QS Z (0 : Int32) [] h0 n0) := by
  refine MetFree.of_bodySF (plainFor_of_name pn_2) hisR ?_
  intro p e s m args below meth c s₁ Bd hml0 hP hK
  obtain ⟨rfl, hZ, hh⟩ := hP
  have hx := Bd.exec
  have hby := Bd.bytes
  have hml : c.maxLocals = 1 := hml0
  have hown : s.vm.findClass "com/example/hard_delay_bounds/harddelaybounds/analysis/FlowSet$Builder" = some m.cls := findClass_of_methodNamed Bd.named
  have hnm := (name_of_methodNamed Bd.named Bd.method).1
  have X0 : Stand p l e ({ frames := 2, cells := 2, slots := 2, locals := 34 } : Room) s m #[(.ref a1)] below meth c s₁ [] 0 0 := Stand.of_body Bd
  have e0 : s₁.heap = h0 := by rw [← hh, Bd.state]; rfl
  have N0 := Fr.nil n0
  have pre0 : GO p e below (s₁.setTop (mkF m 0 #[.val (.ref a1)] [])) (s₁.setTop (entryFrame m #[(.ref a1)] 1)) := fun t k => castTop (ef_4 m a1) k
  have KK := Keep.refl h0 []
  obtain ⟨T109, h109, X109, e109, E109, A109, D109, -, st109⟩ := newO X0 hx hZ hown (ww hw 25 rfl) (ww hw 26 rfl) (ww hw 27 rfl) e0 (g := (mkF m 0 #[.val (.ref a1)] [])) rfl (hb hby d4_0) (by decide) (by decide)
  obtain ⟨b109, g109⟩ : ∃ z, z = h0.size := ⟨_, rfl⟩
  rw [← g109] at A109 D109 st109
  have g_b109 : n0 ≤ b109 := Nat.le_trans Z0 (Nat.le_of_eq g109.symm)
  have sz_b109 : h0.size ≤ b109 := Nat.le_trans KK.1 (Nat.le_of_eq g109.symm)
  have ne_a1_b109 : a1 ≠ b109 := Nat.ne_of_lt (Nat.lt_of_lt_of_le E_a1.lt (Nat.le_of_eq g109.symm))
  have ne_aA_b109 : aA ≠ b109 := Nat.ne_of_lt (Nat.lt_of_lt_of_le E_aA.lt (Nat.le_of_eq g109.symm))
  replace E_a1 := E_a1.ext E109
  replace F_numbers_a1 := F_numbers_a1.ext E109
  replace F_size_a1 := F_size_a1.ext E109
  replace E_aA := E_aA.ext E109
  replace V_aA := V_aA.ext E109
  replace Z0 := Nat.le_trans Z0 E109.1
  replace KK := KK.ext E109
  have E_b109 := A109
  have F_numbers_b109 : Fld Z h109 b109 "com/example/hard_delay_bounds/harddelaybounds/analysis/FlowSet" "numbers" "[I" .null := D109 (Or.inr (ww hw 44 rfl)) (ty := (.array .int)) (by decide)
  have F_hash_b109 : Fld Z h109 b109 "com/example/hard_delay_bounds/harddelaybounds/analysis/FlowSet" "hash" "I" (.int (0 : Int32)) := D109 (Or.inr (ww hw 46 rfl)) (ty := .int) (by decide)
  obtain ⟨T110, X110, e110, st110⟩ := getF X109 hx hZ hown (host := "") (Or.inl (ww hw 18 rfl)) Via.refl e109 F_numbers_a1 (g := (mkF m 5 #[.val (.ref a1)] [(.ref a1), (.ref b109), (.ref b109)])) rfl rfl (hb hby d4_5)
  obtain ⟨T111, X111, e111, st111⟩ := getF X110 hx hZ hown (host := "") (Or.inl (ww hw 28 rfl)) Via.refl e110 F_size_a1 (g := (mkF m 9 #[.val (.ref a1)] [(.ref a1), (.ref aA), (.ref b109), (.ref b109)])) rfl rfl (hb hby d4_9)
  obtain ⟨_, _, ⟨T112, L112, k112, n112⟩, -, X112, ⟨Lc112, hQ112, l112, y112, z112⟩, st112⟩ := Jvm.LawKit.callS X111 hx (y := mn5) hown (mvT hZ (ww hw 30 rfl)) (mvT hZ (ww hw 31 rfl)) (mvT hZ (ww hw 32 rfl)) (mvT hZ (ww hw 33 rfl)) (by decide) (backOf (W := 2) (rm5_4_0_0 l Z a0 hw [] aA kA  h109 n0 Z0 E_aA V_aA) hZ (ww hw 33 rfl) (ww hw 32 rfl) (by decide) (by decide)) (g := (mkF m 12 #[.val (.ref a1)] [(.int (0 : Int32)), (.ref aA), (.ref b109), (.ref b109)])) rfl (by rw [hml]; rfl) (argsL := [(.ref aA), (.int (0 : Int32))]) (rest := [(.ref b109), (.ref b109)]) (lenOf pd_1 rfl) rfl (by show 2 * 0 + _ ≤ _; exact Nat.le_of_eq rfl) (hb hby d4_12) (fun _ _ => ⟨rfl, e111, (by decide : 1 + 1 ≤ _), (by decide : 2 + 0 ≤ _)⟩)
  dsimp only [Pt.U, Pt.locs, Pt.cells, Pt.slots] at X112 l112 y112 z112 st112 hQ112
  subst l112 y112 z112
  obtain ⟨h112, e112⟩ : ∃ z, T112.heap = z := ⟨_, rfl⟩
  rw [e112] at hQ112
  obtain ⟨b112, k112, rfl, N112q, K112, s112, Vn112, En112⟩ := hQ112
  have g_b112 : n0 ≤ b112 := Nat.le_trans Z0 s112
  have sz_b112 : h0.size ≤ b112 := Nat.le_trans KK.1 s112
  have ne_a1_b112 : a1 ≠ b112 := Nat.ne_of_lt (Nat.lt_of_lt_of_le E_a1.lt s112)
  have ne_aA_b112 : aA ≠ b112 := Nat.ne_of_lt (Nat.lt_of_lt_of_le E_aA.lt s112)
  have ne_b109_b112 : b109 ≠ b112 := Nat.ne_of_lt (Nat.lt_of_lt_of_le E_b109.lt s112)
  replace E_a1 := E_a1.keep K112
  replace F_numbers_a1 := F_numbers_a1.keep K112 nin0
  replace F_size_a1 := F_size_a1.keep K112 nin0
  replace E_aA := E_aA.keep K112
  replace V_aA := V_aA.keep K112 nin0
  replace E_b109 := E_b109.keep K112
  replace F_numbers_b109 := F_numbers_b109.keep K112 nin0
  replace F_hash_b109 := F_hash_b109.keep K112 nin0
  replace Z0 := Nat.le_trans Z0 K112.1
  replace KK := KK.trans K112 all0
  have V_b112 : Arv Z h112 b112 k112 .int (0 : Int32) [] (.int (0 : Int32)) := Vn112
  have E_b112 := En112
  have N112 := Fr.app N0 N112q
  obtain ⟨_, _, ⟨T113, L113, k113, n113⟩, -, X113, ⟨Lc113, hQ113, l113, y113, z113⟩, st113⟩ := X112.specialBackNest hx (y := mn6) rfl hown (own_mvMN hZ (ww hw 39 rfl)) (mvT hZ (ww hw 40 rfl)) (mvT hZ (ww hw 41 rfl)) (by decide) (backOf (W := 1) (rm6 l Z a0 hw [] b109 b112 k112 _ _ h112 n0 Z0 E_b109 F_numbers_b109 F_hash_b109 V_b112 g_b109 ne_b109_b112) hZ (ww hw 41 rfl) (ww hw 27 rfl) (by decide) (by decide)) (g := (mkF m 15 #[.val (.ref a1)] [(.ref b112), (.ref b109), (.ref b109)])) rfl (by rw [hml]; rfl) (Steps.refl _) (a := b109) (argsL := [(.ref b112)]) (rest := [(.ref b109)]) (lenOf pd_2 rfl) rfl (by show 2 * 0 + _ ≤ _; exact Nat.le_of_eq rfl) (hb hby d4_15) (fun _ _ => ⟨rfl, e112, (by decide : 2 + 0 ≤ _), (by decide : 2 + 0 ≤ _)⟩)
  dsimp only [Pt.U, Pt.locs, Pt.cells, Pt.slots] at X113 l113 y113 z113 st113 hQ113
  subst l113 y113 z113
  obtain ⟨h113, e113⟩ : ∃ z, T113.heap = z := ⟨_, rfl⟩
  rw [e113] at hQ113
  obtain ⟨rfl, N113q, K113, Fn113⟩ := hQ113
  replace E_a1 := E_a1.keep K113
  replace F_numbers_a1 := F_numbers_a1.keep K113 (ninS ne_a1_b109 nin0)
  replace F_size_a1 := F_size_a1.keep K113 (ninS ne_a1_b109 nin0)
  replace E_aA := E_aA.keep K113
  replace V_aA := V_aA.keep K113 (ninS ne_aA_b109 nin0)
  replace E_b109 := E_b109.keep K113
  replace V_b112 := V_b112.keep K113 (ninS (Ne.symm ne_b109_b112) nin0)
  replace E_b112 := E_b112.keep K113
  replace Z0 := Nat.le_trans Z0 K113.1
  replace KK := KK.trans K113 (allS (Or.inr sz_b109) all0)
  have F_numbers_b109 := Fn113
  have N113 := Fr.app N112 N113q
  obtain ⟨fs, hr, hrun, hended, hW, hsame⟩ := X113.leave (v := some (.ref b109)) (fun h => by rw [Bd.returns] at h; cases h)
  refine ⟨_, _, pre0 _ ?_, hrun, hended, _, _, rfl, ?_, ⟨_, rfl⟩, hW, hsame.mono (by decide) (by decide)⟩
  · refine st109 _ ?_
    show Steps p.tables e below (T109.setTop (mkF m 3 #[.val (.ref a1)] [(.ref b109)])) _
    refine y_dup X109 hx hby d4_3 rfl ?_
    refine y_aloadN X109 hx hby d4_4 rfl rfl ?_
    refine st110 _ ?_
    show Steps p.tables e below (T110.setTop (mkF m 8 #[.val (.ref a1)] [(.ref aA), (.ref b109), (.ref b109)])) _
    refine y_aloadN X110 hx hby d4_8 rfl rfl ?_
    refine st111 _ ?_
    show Steps p.tables e below (T111.setTop (mkF m 12 #[.val (.ref a1)] [(.int (0 : Int32)), (.ref aA), (.ref b109), (.ref b109)])) _
    refine st112 _ ?_
    show Steps p.tables e below (T112.setTop (mkF m 15 #[.val (.ref a1)] [(.ref b112), (.ref b109), (.ref b109)])) _
    refine st113.trans ?_
    show Steps p.tables e below (T113.setTop (mkF m 18 #[.val (.ref a1)] [(.ref b109)])) _
    jvm_step X113.here [X113.here.top, hx, (hb hby d4_18), X113.method', Bd.returns, Value.isRef, FieldType.isReference]
    first | (intro acts; rw [hr _ acts rfl rfl rfl]) | rw [hr _ _ rfl rfl rfl]
    exact Steps.refl _
  · show QS Z (0 : Int32) [] h0 n0 _ T113.heap _
    rw [e113]
    exact ⟨b109, b112, _, rfl, N113, KK, sz_b109, sz_b112, E_b109, F_numbers_b109, V_b112⟩
theorem d7_0 : decode prog_17_method_2_code 0 = .ok (.aload_n 0, 1) := by decide +kernel
theorem d7_1 : decode prog_17_method_2_code 1 = .ok (.getfield 7, 3) := by decide +kernel
theorem d7_4 : decode prog_17_method_2_code 4 = .ok (.arraylength, 1) := by decide +kernel
theorem d7_5 : decode prog_17_method_2_code 5 = .ok (.ireturn, 1) := by decide +kernel
abbrev mn8 : MethodName := ⟨"com/example/hard_delay_bounds/harddelaybounds/analysis/FlowSet", "size", "()I"⟩
theorem ef_7 (m : MethodId) (x0 : Addr) : entryFrame m #[(.ref x0)] 1 = mkF m 0 #[.val (.ref x0)] [] := by first | (simp [entryFrame, mkF, argsToLocals, Value.category]; done) | rfl
set_option maxRecDepth 65536 in
set_option maxHeartbeats 40000000 in
theorem rm7_0 (l : Launch) (Z : State) (a0 : Array Value) (hw : HW a0 Z) (ws : List Jvm.Cond) (a1 aB : Addr) (kB : ClassId) (h0 : Heap) (n0 : Nat) (Z0 : n0 ≤ h0.size) (F_numbers_a1 : Fld Z h0 a1 "com/example/hard_delay_bounds/harddelaybounds/analysis/FlowSet" "numbers" "[I" (.ref aB)) (V_aB : Arv Z h0 aB kB .int (0 : Int32) [] (.int (0 : Int32))) :
    MF l mn8 prog_17_method_2_code 1 (some .int) ws ({ frames := 0, cells := 0, slots := 0, locals := 0 } : Room) #[(.ref a1)] Z h0 (QP (some (.int (0 : Int32))) h0 n0) := by
  refine MetFree.of_bodySF (plainFor_of_name pn_6) hisR ?_
  intro p e s m args below meth c s₁ Bd hml0 hP hK
  obtain ⟨rfl, hZ, hh⟩ := hP
  have hx := Bd.exec
  have hby := Bd.bytes
  have hml : c.maxLocals = 1 := hml0
  have hown : s.vm.findClass "com/example/hard_delay_bounds/harddelaybounds/analysis/FlowSet" = some m.cls := findClass_of_methodNamed Bd.named
  have hnm := (name_of_methodNamed Bd.named Bd.method).1
  have X0 : Stand p l e ({ frames := 0, cells := 0, slots := 0, locals := 0 } : Room) s m #[(.ref a1)] below meth c s₁ [] 0 0 := Stand.of_body Bd
  have e0 : s₁.heap = h0 := by rw [← hh, Bd.state]; rfl
  have N0 := Fr.nil n0
  have pre0 : GO p e below (s₁.setTop (mkF m 0 #[.val (.ref a1)] [])) (s₁.setTop (entryFrame m #[(.ref a1)] 1)) := fun t k => castTop (ef_7 m a1) k
  obtain ⟨T114, X114, e114, st114⟩ := getF X0 hx hZ hown (host := "") (Or.inl (ww hw 43 rfl)) Via.refl e0 F_numbers_a1 (g := (mkF m 1 #[.val (.ref a1)] [(.ref a1)])) rfl rfl (hb hby d7_1)
  obtain ⟨cl115, Ar115, q115, Sz115, Nn115, Hh115, Gg115⟩ := id V_aB
  obtain ⟨fs, hr, hrun, hended, hW, hsame⟩ := X114.leave (v := some (.int (0 : Int32))) (fun h => by rw [Bd.returns] at h; cases h)
  refine ⟨_, _, pre0 _ ?_, hrun, hended, _, _, rfl, ?_, ⟨_, rfl⟩, hW, hsame.mono (by decide) (by decide)⟩
  · refine y_aloadN X0 hx hby d7_0 rfl rfl ?_
    refine st114 _ ?_
    show Steps p.tables e below (T114.setTop (mkF m 4 #[.val (.ref a1)] [(.ref aB)])) _
    refine X114.arraylength hx (by rw [e114]; exact Ar115.1) (State.isArrayOf_alike hZ.alike Ar115.2.1) (g := (mkF m 4 #[.val (.ref a1)] [(.ref aB)])) rfl rfl (hb hby d7_4) _ ?_
    rw [len_of Sz115 Nn115]
    show Steps p.tables e below (T114.setTop (mkF m 5 #[.val (.ref a1)] [(.int (0 : Int32))])) _
    exact retI X114 hx Bd.returns (hb hby d7_5) hr
  · show QP _ h0 n0 _ T114.heap _
    rw [e114]
    exact ⟨rfl, N0, rfl⟩
theorem d13_0 : decode jdk_65_method_59_code 0 = .ok (.iload_n 1, 1) := by decide +kernel
theorem d13_1 : decode jdk_65_method_59_code 1 = .ok (.istore 4, 2) := by decide +kernel
theorem d13_3 : decode jdk_65_method_59_code 3 = .ok (.iload_n 2, 1) := by decide +kernel
theorem d13_4 : decode jdk_65_method_59_code 4 = .ok (.iconst 1, 1) := by decide +kernel
theorem d13_5 : decode jdk_65_method_59_code 5 = .ok (.isub, 1) := by decide +kernel
theorem d13_6 : decode jdk_65_method_59_code 6 = .ok (.istore 5, 2) := by decide +kernel
theorem d13_8 : decode jdk_65_method_59_code 8 = .ok (.iload 4, 2) := by decide +kernel
theorem d13_10 : decode jdk_65_method_59_code 10 = .ok (.iload 5, 2) := by decide +kernel
theorem d13_12 : decode jdk_65_method_59_code 12 = .ok (.if_icmp .gt 54, 3) := by decide +kernel
theorem d13_66 : decode jdk_65_method_59_code 66 = .ok (.iload 4, 2) := by decide +kernel
theorem d13_68 : decode jdk_65_method_59_code 68 = .ok (.iconst 1, 1) := by decide +kernel
theorem d13_69 : decode jdk_65_method_59_code 69 = .ok (.iadd, 1) := by decide +kernel
theorem d13_70 : decode jdk_65_method_59_code 70 = .ok (.ineg, 1) := by decide +kernel
theorem d13_71 : decode jdk_65_method_59_code 71 = .ok (.ireturn, 1) := by decide +kernel
abbrev mn9 : MethodName := ⟨"java/util/Arrays", "binarySearch0", "([IIII)I"⟩
theorem ef_13 (m : MethodId) (x0 : Addr) (x1 : Int32) (x2 : Int32) (x3 : Int32) : entryFrame m #[(.ref x0), (.int x1), (.int x2), (.int x3)] 8 = mkF m 0 #[.val (.ref x0), .val (.int x1), .val (.int x2), .val (.int x3), .unset, .unset, .unset, .unset] [] := by first | (simp [entryFrame, mkF, argsToLocals, Value.category]; done) | rfl
abbrev lo13_0_0 (a1 : Addr) (p4 : Int32) : Array Slot := #[.val (.ref a1), .val (.int (0 : Int32)), .val (.int (0 : Int32)), .val (.int p4), .val (.int (0 : Int32)), .unset, .unset, .unset]
abbrev lo13_0_1 (a1 : Addr) (p4 : Int32) : Array Slot := #[.val (.ref a1), .val (.int (0 : Int32)), .val (.int (0 : Int32)), .val (.int p4), .val (.int (0 : Int32)), .val (.int (-1 : Int32)), .unset, .unset]
def f13_0 (a1 : Addr) (p4 : Int32) (k1 : ClassId) : Int32 := (-1 : Int32)
set_option maxRecDepth 65536 in
set_option maxHeartbeats 40000000 in
theorem rm13_0 (l : Launch) (Z : State) (a0 : Array Value) (hw : HW a0 Z) (ws : List Jvm.Cond) (a1 : Addr) (p4 : Int32) (k1 : ClassId) (h0 : Heap) (n0 : Nat) (Z0 : n0 ≤ h0.size) (V_a1 : Arv Z h0 a1 k1 .int (0 : Int32) [] (.int (0 : Int32))) :
    MF l mn9 jdk_65_method_59_code 8 (some .int) ws ({ frames := 0, cells := 0, slots := 0, locals := 0 } : Room) #[(.ref a1), (.int (0 : Int32)), (.int (0 : Int32)), (.int p4)] Z h0 (QP (some (.int (f13_0 a1 p4 k1))) h0 n0) := by
  refine MetFree.of_bodySF (plainFor_of_name pn_5) hisR ?_
  intro p e s m args below meth c s₁ Bd hml0 hP hK
  obtain ⟨rfl, hZ, hh⟩ := hP
  have hx := Bd.exec
  have hby := Bd.bytes
  have hml : c.maxLocals = 8 := hml0
  have hown : s.vm.findClass "java/util/Arrays" = some m.cls := findClass_of_methodNamed Bd.named
  have hnm := (name_of_methodNamed Bd.named Bd.method).1
  have X0 : Stand p l e ({ frames := 0, cells := 0, slots := 0, locals := 0 } : Room) s m #[(.ref a1), (.int (0 : Int32)), (.int (0 : Int32)), (.int p4)] below meth c s₁ [] 0 0 := Stand.of_body Bd
  have e0 : s₁.heap = h0 := by rw [← hh, Bd.state]; rfl
  have N0 := Fr.nil n0
  have pre0 : GO p e below (s₁.setTop (mkF m 0 #[.val (.ref a1), .val (.int (0 : Int32)), .val (.int (0 : Int32)), .val (.int p4), .unset, .unset, .unset, .unset] [])) (s₁.setTop (entryFrame m #[(.ref a1), (.int (0 : Int32)), (.int (0 : Int32)), (.int p4)] 8)) := fun t k => castTop (ef_13 m a1 (0 : Int32) (0 : Int32) p4) k
  obtain ⟨fs, hr, hrun, hended, hW, hsame⟩ := X0.leave (v := some (.int (-1 : Int32))) (fun h => by rw [Bd.returns] at h; cases h)
  refine ⟨_, _, pre0 _ ?_, hrun, hended, _, _, rfl, ?_, ⟨_, rfl⟩, hW, hsame.mono (by decide) (by decide)⟩
  · refine y_iloadN X0 hx hby d13_0 rfl ?_
    refine y_istore X0 hx hby d13_1 (l' := (lo13_0_0 a1 p4)) rfl ?_
    refine y_iloadN X0 hx hby d13_3 rfl ?_
    refine y_iconst X0 hx hby (v := (1 : Int32)) d13_4 rfl ?_
    refine y_isub X0 hx hby d13_5 ?_
    rw [show ((0 : Int32) - (1 : Int32)) = (-1 : Int32) from by decide]
    refine y_istore X0 hx hby d13_6 (l' := (lo13_0_1 a1 p4)) rfl ?_
    refine y_iload X0 hx hby d13_8 rfl ?_
    refine y_iload X0 hx hby d13_10 rfl ?_
    refine y_icmpYes X0 hx hby (pc' := 66) d13_12 (tlt (by decide)).2.2.1 (by decide) (by decide) ?_
    refine y_iload X0 hx hby d13_66 rfl ?_
    refine y_iconst X0 hx hby (v := (1 : Int32)) d13_68 rfl ?_
    refine y_iadd X0 hx hby d13_69 ?_
    rw [show ((0 : Int32) + (1 : Int32)) = (1 : Int32) from by decide]
    refine y_ineg X0 hx hby d13_70 ?_
    rw [show ((-(1 : Int32))) = (-1 : Int32) from by decide]
    exact retI X0 hx Bd.returns (hb hby d13_71) hr
  · show QP _ h0 n0 _ s₁.heap _
    rw [e0, show f13_0 a1 p4 k1 = (-1 : Int32) from rfl]
    exact ⟨rfl, N0, rfl⟩
abbrev bs_0 (p4  : Int32) : Int32 := f13_0 (0 : Addr) p4 (0 : ClassId) 
theorem d12_0 : decode jdk_65_method_57_code 0 = .ok (.aload_n 0, 1) := by decide +kernel
theorem d12_1 : decode jdk_65_method_57_code 1 = .ok (.iconst 0, 1) := by decide +kernel
theorem d12_2 : decode jdk_65_method_57_code 2 = .ok (.aload_n 0, 1) := by decide +kernel
theorem d12_3 : decode jdk_65_method_57_code 3 = .ok (.arraylength, 1) := by decide +kernel
theorem d12_4 : decode jdk_65_method_57_code 4 = .ok (.iload_n 1, 1) := by decide +kernel
theorem d12_5 : decode jdk_65_method_57_code 5 = .ok (.invokestatic 209, 3) := by decide +kernel
theorem pd_3 : parseMethodDescriptor "([IIII)I" = some ⟨[(.array .int), .int, .int, .int], some .int⟩ := by decide +kernel
theorem d12_8 : decode jdk_65_method_57_code 8 = .ok (.ireturn, 1) := by decide +kernel
abbrev mn10 : MethodName := ⟨"java/util/Arrays", "binarySearch", "([II)I"⟩
theorem ef_12 (m : MethodId) (x0 : Addr) (x1 : Int32) : entryFrame m #[(.ref x0), (.int x1)] 2 = mkF m 0 #[.val (.ref x0), .val (.int x1)] [] := by first | (simp [entryFrame, mkF, argsToLocals, Value.category]; done) | rfl
set_option maxRecDepth 65536 in
set_option maxHeartbeats 40000000 in
theorem rm12_0 (l : Launch) (Z : State) (a0 : Array Value) (hw : HW a0 Z) (ws : List Jvm.Cond) (a1 : Addr) (p2 : Int32) (k1 : ClassId) (h0 : Heap) (n0 : Nat) (Z0 : n0 ≤ h0.size) (V_a1 : Arv Z h0 a1 k1 .int (0 : Int32) [] (.int (0 : Int32))) :
    MF l mn10 jdk_65_method_57_code 2 (some .int) ws ({ frames := 1, cells := 0, slots := 0, locals := 19 } : Room) #[(.ref a1), (.int p2)] Z h0 (QP (some (.int (bs_0 p2 ))) h0 n0) := by
  refine MetFree.of_bodySF (plainFor_of_name pn_5) hisR ?_
  intro p e s m args below meth c s₁ Bd hml0 hP hK
  obtain ⟨rfl, hZ, hh⟩ := hP
  have hx := Bd.exec
  have hby := Bd.bytes
  have hml : c.maxLocals = 2 := hml0
  have hown : s.vm.findClass "java/util/Arrays" = some m.cls := findClass_of_methodNamed Bd.named
  have hnm := (name_of_methodNamed Bd.named Bd.method).1
  have X0 : Stand p l e ({ frames := 1, cells := 0, slots := 0, locals := 19 } : Room) s m #[(.ref a1), (.int p2)] below meth c s₁ [] 0 0 := Stand.of_body Bd
  have e0 : s₁.heap = h0 := by rw [← hh, Bd.state]; rfl
  have N0 := Fr.nil n0
  have pre0 : GO p e below (s₁.setTop (mkF m 0 #[.val (.ref a1), .val (.int p2)] [])) (s₁.setTop (entryFrame m #[(.ref a1), (.int p2)] 2)) := fun t k => castTop (ef_12 m a1 p2) k
  obtain ⟨cl116, Ar116, q116, Sz116, Nn116, Hh116, Gg116⟩ := id V_a1
  obtain ⟨_, _, ⟨T117, L117, k117, n117⟩, -, X117, ⟨Lc117, hQ117, l117, y117, z117⟩, st117⟩ := Jvm.LawKit.callS X0 hx (y := mn9) hown (mvT hZ (ww hw 72 rfl)) (mvT hZ (ww hw 73 rfl)) (mvT hZ (ww hw 32 rfl)) (mvT hZ (ww hw 74 rfl)) (by decide) (backOf (W := 0) (rm13_0 l Z a0 hw [] a1 p2 k1  h0 n0 Z0 V_a1) hZ (ww hw 74 rfl) (ww hw 32 rfl) (by decide) (by decide)) (g := (mkF m 5 #[.val (.ref a1), .val (.int p2)] [(.int p2), (.int (0 : Int32)), (.int (0 : Int32)), (.ref a1)])) rfl (by rw [hml]; rfl) (argsL := [(.ref a1), (.int (0 : Int32)), (.int (0 : Int32)), (.int p2)]) (rest := []) (lenOf pd_3 rfl) rfl (by show 2 * 0 + _ ≤ _; exact Nat.le_of_eq rfl) (hb hby d12_5) (fun _ _ => ⟨rfl, e0, (by decide : 0 + 0 ≤ _), (by decide : 0 + 0 ≤ _)⟩)
  dsimp only [Pt.U, Pt.locs, Pt.cells, Pt.slots] at X117 l117 y117 z117 st117 hQ117
  subst l117 y117 z117
  obtain ⟨rfl, N117q, e117⟩ := hQ117
  have N117 := Fr.app N0 N117q
  obtain ⟨fs, hr, hrun, hended, hW, hsame⟩ := X117.leave (v := some (.int (bs_0 p2))) (fun h => by rw [Bd.returns] at h; cases h)
  refine ⟨_, _, pre0 _ ?_, hrun, hended, _, _, rfl, ?_, ⟨_, rfl⟩, hW, hsame.mono (by decide) (by decide)⟩
  · refine y_aloadN X0 hx hby d12_0 rfl rfl ?_
    refine y_iconst X0 hx hby (v := (0 : Int32)) d12_1 rfl ?_
    refine y_aloadN X0 hx hby d12_2 rfl rfl ?_
    refine X0.arraylength hx (by rw [e0]; exact Ar116.1) (State.isArrayOf_alike hZ.alike Ar116.2.1) (g := (mkF m 3 #[.val (.ref a1), .val (.int p2)] [(.ref a1), (.int (0 : Int32)), (.ref a1)])) rfl rfl (hb hby d12_3) _ ?_
    rw [len_of Sz116 Nn116]
    show Steps p.tables e below (s₁.setTop (mkF m 4 #[.val (.ref a1), .val (.int p2)] [(.int (0 : Int32)), (.int (0 : Int32)), (.ref a1)])) _
    refine y_iloadN X0 hx hby d12_4 rfl ?_
    refine st117 _ ?_
    show Steps p.tables e below (T117.setTop (mkF m 8 #[.val (.ref a1), .val (.int p2)] [(.int (bs_0 p2))])) _
    exact retI X117 hx Bd.returns (hb hby d12_8) hr
  · show QP _ h0 n0 _ T117.heap _
    rw [e117]
    exact ⟨rfl, N117, rfl⟩
theorem d11_0 : decode prog_17_method_4_code 0 = .ok (.aload_n 0, 1) := by decide +kernel
theorem d11_1 : decode prog_17_method_4_code 1 = .ok (.getfield 7, 3) := by decide +kernel
theorem d11_4 : decode prog_17_method_4_code 4 = .ok (.iload_n 1, 1) := by decide +kernel
theorem d11_5 : decode prog_17_method_4_code 5 = .ok (.invokestatic 18, 3) := by decide +kernel
theorem pd_4 : parseMethodDescriptor "([II)I" = some ⟨[(.array .int), .int], some .int⟩ := by decide +kernel
theorem d11_8 : decode prog_17_method_4_code 8 = .ok (.ireturn, 1) := by decide +kernel
abbrev mn11 : MethodName := ⟨"com/example/hard_delay_bounds/harddelaybounds/analysis/FlowSet", "indexOf", "(I)I"⟩
theorem ef_11 (m : MethodId) (x0 : Addr) (x1 : Int32) : entryFrame m #[(.ref x0), (.int x1)] 2 = mkF m 0 #[.val (.ref x0), .val (.int x1)] [] := by first | (simp [entryFrame, mkF, argsToLocals, Value.category]; done) | rfl
set_option maxRecDepth 65536 in
set_option maxHeartbeats 40000000 in
theorem rm11_0 (l : Launch) (Z : State) (a0 : Array Value) (hw : HW a0 Z) (ws : List Jvm.Cond) (a1 : Addr) (p2 : Int32) (aB : Addr) (kB : ClassId) (h0 : Heap) (n0 : Nat) (Z0 : n0 ≤ h0.size) (E_a1 : Exa Z h0 a1 "com/example/hard_delay_bounds/harddelaybounds/analysis/FlowSet") (F_numbers_a1 : Fld Z h0 a1 "com/example/hard_delay_bounds/harddelaybounds/analysis/FlowSet" "numbers" "[I" (.ref aB)) (V_aB : Arv Z h0 aB kB .int (0 : Int32) [] (.int (0 : Int32))) :
    MF l mn11 prog_17_method_4_code 2 (some .int) ws ({ frames := 2, cells := 0, slots := 0, locals := 32 } : Room) #[(.ref a1), (.int p2)] Z h0 (QP (some (.int (bs_0 p2 ))) h0 n0) := by
  refine MetFree.of_bodySF (plainFor_of_name pn_6) hisR ?_
  intro p e s m args below meth c s₁ Bd hml0 hP hK
  obtain ⟨rfl, hZ, hh⟩ := hP
  have hx := Bd.exec
  have hby := Bd.bytes
  have hml : c.maxLocals = 2 := hml0
  have hown : s.vm.findClass "com/example/hard_delay_bounds/harddelaybounds/analysis/FlowSet" = some m.cls := findClass_of_methodNamed Bd.named
  have hnm := (name_of_methodNamed Bd.named Bd.method).1
  have X0 : Stand p l e ({ frames := 2, cells := 0, slots := 0, locals := 32 } : Room) s m #[(.ref a1), (.int p2)] below meth c s₁ [] 0 0 := Stand.of_body Bd
  have e0 : s₁.heap = h0 := by rw [← hh, Bd.state]; rfl
  have N0 := Fr.nil n0
  have pre0 : GO p e below (s₁.setTop (mkF m 0 #[.val (.ref a1), .val (.int p2)] [])) (s₁.setTop (entryFrame m #[(.ref a1), (.int p2)] 2)) := fun t k => castTop (ef_11 m a1 p2) k
  obtain ⟨T118, X118, e118, st118⟩ := getF X0 hx hZ hown (host := "") (Or.inl (ww hw 43 rfl)) Via.refl e0 F_numbers_a1 (g := (mkF m 1 #[.val (.ref a1), .val (.int p2)] [(.ref a1)])) rfl rfl (hb hby d11_1)
  obtain ⟨_, _, ⟨T119, L119, k119, n119⟩, -, X119, ⟨Lc119, hQ119, l119, y119, z119⟩, st119⟩ := Jvm.LawKit.callS X118 hx (y := mn10) hown (mvT hZ (ww hw 69 rfl)) (mvT hZ (ww hw 70 rfl)) (mvT hZ (ww hw 32 rfl)) (mvT hZ (ww hw 71 rfl)) (by decide) (backOf (W := 0) (rm12_0 l Z a0 hw [] aB p2 kB  h0 n0 Z0 V_aB) hZ (ww hw 71 rfl) (ww hw 32 rfl) (by decide) (by decide)) (g := (mkF m 5 #[.val (.ref a1), .val (.int p2)] [(.int p2), (.ref aB)])) rfl (by rw [hml]; rfl) (argsL := [(.ref aB), (.int p2)]) (rest := []) (lenOf pd_4 rfl) rfl (by show 2 * 0 + _ ≤ _; exact Nat.le_of_eq rfl) (hb hby d11_5) (fun _ _ => ⟨rfl, e118, (by decide : 0 + 0 ≤ _), (by decide : 0 + 0 ≤ _)⟩)
  dsimp only [Pt.U, Pt.locs, Pt.cells, Pt.slots] at X119 l119 y119 z119 st119 hQ119
  subst l119 y119 z119
  obtain ⟨rfl, N119q, e119⟩ := hQ119
  have N119 := Fr.app N0 N119q
  obtain ⟨fs, hr, hrun, hended, hW, hsame⟩ := X119.leave (v := some (.int (bs_0 p2))) (fun h => by rw [Bd.returns] at h; cases h)
  refine ⟨_, _, pre0 _ ?_, hrun, hended, _, _, rfl, ?_, ⟨_, rfl⟩, hW, hsame.mono (by decide) (by decide)⟩
  · refine y_aloadN X0 hx hby d11_0 rfl rfl ?_
    refine st118 _ ?_
    show Steps p.tables e below (T118.setTop (mkF m 4 #[.val (.ref a1), .val (.int p2)] [(.ref aB)])) _
    refine y_iloadN X118 hx hby d11_4 rfl ?_
    refine st119 _ ?_
    show Steps p.tables e below (T119.setTop (mkF m 8 #[.val (.ref a1), .val (.int p2)] [(.int (bs_0 p2))])) _
    exact retI X119 hx Bd.returns (hb hby d11_8) hr
  · show QP _ h0 n0 _ T119.heap _
    rw [e119]
    exact ⟨rfl, N119, rfl⟩
theorem d10_0 : decode prog_17_method_5_code 0 = .ok (.aload_n 0, 1) := by decide +kernel
theorem d10_1 : decode prog_17_method_5_code 1 = .ok (.iload_n 1, 1) := by decide +kernel
theorem d10_2 : decode prog_17_method_5_code 2 = .ok (.invokevirtual 24, 3) := by decide +kernel
theorem pd_5 : parseMethodDescriptor "(I)I" = some ⟨[.int], some .int⟩ := by decide +kernel
theorem d10_5 : decode prog_17_method_5_code 5 = .ok (.ifCond .lt 7, 3) := by decide +kernel
theorem d10_12 : decode prog_17_method_5_code 12 = .ok (.iconst 0, 1) := by decide +kernel
theorem d10_13 : decode prog_17_method_5_code 13 = .ok (.ireturn, 1) := by decide +kernel
theorem d10_8 : decode prog_17_method_5_code 8 = .ok (.iconst 1, 1) := by decide +kernel
theorem d10_9 : decode prog_17_method_5_code 9 = .ok (.goto 4, 3) := by decide +kernel
abbrev mn12 : MethodName := ⟨"com/example/hard_delay_bounds/harddelaybounds/analysis/FlowSet", "contains", "(I)Z"⟩
theorem ef_10 (m : MethodId) (x0 : Addr) (x1 : Int32) : entryFrame m #[(.ref x0), (.int x1)] 2 = mkF m 0 #[.val (.ref x0), .val (.int x1)] [] := by first | (simp [entryFrame, mkF, argsToLocals, Value.category]; done) | rfl
def f10_0 (a1 : Addr) (p2 : Int32) (aB : Addr) (kB : ClassId) : Int32 := (if (bs_0 p2) < (0 : Int32) then (0 : Int32) else (1 : Int32))
set_option maxRecDepth 65536 in
set_option maxHeartbeats 40000000 in
theorem rm10_0 (l : Launch) (Z : State) (a0 : Array Value) (hw : HW a0 Z) (ws : List Jvm.Cond) (a1 : Addr) (p2 : Int32) (aB : Addr) (kB : ClassId) (h0 : Heap) (n0 : Nat) (Z0 : n0 ≤ h0.size) (E_a1 : Exa Z h0 a1 "com/example/hard_delay_bounds/harddelaybounds/analysis/FlowSet") (F_numbers_a1 : Fld Z h0 a1 "com/example/hard_delay_bounds/harddelaybounds/analysis/FlowSet" "numbers" "[I" (.ref aB)) (V_aB : Arv Z h0 aB kB .int (0 : Int32) [] (.int (0 : Int32))) :
    MF l mn12 prog_17_method_5_code 2 (some .boolean) ws ({ frames := 3, cells := 0, slots := 0, locals := 45 } : Room) #[(.ref a1), (.int p2)] Z h0 (QP (some (.int (f10_0 a1 p2 aB kB))) h0 n0) := by
  refine MetFree.of_bodySF (plainFor_of_name pn_6) hisR ?_
  intro p e s m args below meth c s₁ Bd hml0 hP hK
  obtain ⟨rfl, hZ, hh⟩ := hP
  have hx := Bd.exec
  have hby := Bd.bytes
  have hml : c.maxLocals = 2 := hml0
  have hown : s.vm.findClass "com/example/hard_delay_bounds/harddelaybounds/analysis/FlowSet" = some m.cls := findClass_of_methodNamed Bd.named
  have hnm := (name_of_methodNamed Bd.named Bd.method).1
  have X0 : Stand p l e ({ frames := 3, cells := 0, slots := 0, locals := 45 } : Room) s m #[(.ref a1), (.int p2)] below meth c s₁ [] 0 0 := Stand.of_body Bd
  have e0 : s₁.heap = h0 := by rw [← hh, Bd.state]; rfl
  have N0 := Fr.nil n0
  have pre0 : GO p e below (s₁.setTop (mkF m 0 #[.val (.ref a1), .val (.int p2)] [])) (s₁.setTop (entryFrame m #[(.ref a1), (.int p2)] 2)) := fun t k => castTop (ef_10 m a1 p2) k
  obtain ⟨cq120, kq120, q120a, q120b, q120c⟩ := isOf hZ e0 E_a1
  obtain ⟨_, _, ⟨T120, L120, k120, n120⟩, -, X120, ⟨Lc120, hQ120, l120, y120, z120⟩, st120⟩ := X0.virtualBack hx (y := mn11) (z := mn11) hown (mvT hZ (ww hw 64 rfl)) (mvT hZ (ww hw 65 rfl)) (notFace_of_selects (args := #[]) (mvT hZ (ww hw 67 rfl))) (mvT hZ (ww hw 67 rfl)) (mvT hZ (ww hw 66 rfl)) (by decide) (backOf (W := 0) (rm11_0 l Z a0 hw [] a1 p2 aB kB  h0 n0 Z0 E_a1 F_numbers_a1 V_aB) hZ (ww hw 68 rfl) (ww hw 27 rfl) (by decide) (by decide)) q120a q120c (g := (mkF m 2 #[.val (.ref a1), .val (.int p2)] [(.int p2), (.ref a1)])) rfl (by rw [hml]; rfl) (Steps.refl _) (argsL := [(.int p2)]) (rest := []) (lenOf pd_5 rfl) rfl (by show 2 * 0 + _ ≤ _; exact Nat.le_of_eq rfl) (hb hby d10_2) (fun _ _ => ⟨rfl, e0, (by decide : 0 + 0 ≤ _), (by decide : 0 + 0 ≤ _)⟩)
  dsimp only [Pt.U, Pt.locs, Pt.cells, Pt.slots] at X120 l120 y120 z120 st120 hQ120
  subst l120 y120 z120
  obtain ⟨rfl, N120q, e120⟩ := hQ120
  have N120 := Fr.app N0 N120q
  have pre122 : GO p e below (T120.setTop (mkF m 5 #[.val (.ref a1), .val (.int p2)] [(.int (bs_0 p2))])) (s₁.setTop (entryFrame m #[(.ref a1), (.int p2)] 2)) := fun t k => by
    refine pre0 _ ?_
    refine y_aloadN X0 hx hby d10_0 rfl rfl ?_
    refine y_iloadN X0 hx hby d10_1 rfl ?_
    refine st120.trans ?_
    show Steps p.tables e below (T120.setTop (mkF m 5 #[.val (.ref a1), .val (.int p2)] [(.int (bs_0 p2))])) _
    exact k
  by_cases hc121 : (bs_0 p2) < (0 : Int32)
  · obtain ⟨fs, hr, hrun, hended, hW, hsame⟩ := X120.leave (v := some (.int (0 : Int32))) (fun h => by rw [Bd.returns] at h; cases h)
    refine ⟨_, _, pre122 _ ?_, hrun, hended, _, _, rfl, ?_, ⟨_, rfl⟩, hW, hsame.mono (by decide) (by decide)⟩
    · refine y_ifYes X120 hx hby (pc' := 12) d10_5 ((if0 _ _).trans (tlt hc121).1) (by decide) (by decide) ?_
      refine y_iconst X120 hx hby (v := (0 : Int32)) d10_12 rfl ?_
      exact retN X120 hx (t := .boolean) Bd.returns (by simp) (hb hby d10_13) hr
    · show QP _ h0 n0 _ T120.heap _
      rw [e120, show f10_0 a1 p2 aB kB = (0 : Int32) from by unfold f10_0; rw [if_pos hc121]]
      exact ⟨rfl, N120, rfl⟩
  · obtain ⟨fs, hr, hrun, hended, hW, hsame⟩ := X120.leave (v := some (.int (1 : Int32))) (fun h => by rw [Bd.returns] at h; cases h)
    refine ⟨_, _, pre122 _ ?_, hrun, hended, _, _, rfl, ?_, ⟨_, rfl⟩, hW, hsame.mono (by decide) (by decide)⟩
    · refine y_ifNo X120 hx hby d10_5 ((if0 _ _).trans (flt hc121).1) ?_
      refine y_iconst X120 hx hby (v := (1 : Int32)) d10_8 rfl ?_
      refine y_goto X120 hx hby (pc' := 13) d10_9 (by decide) (by decide) ?_
      exact retN X120 hx (t := .boolean) Bd.returns (by simp) (hb hby d10_13) hr
    · show QP _ h0 n0 _ T120.heap _
      rw [e120, show f10_0 a1 p2 aB kB = (1 : Int32) from by unfold f10_0; rw [if_neg hc121]]
      exact ⟨rfl, N120, rfl⟩
abbrev ct_0 (p2  : Int32) : Int32 := f10_0 (0 : Addr) p2 (0 : Addr) (0 : ClassId) 
set_option maxRecDepth 65536 in
set_option maxHeartbeats 40000000 in
theorem rm5_4_1_1 (l : Launch) (Z : State) (a0 : Array Value) (hw : HW a0 Z) (ws : List Jvm.Cond) (a1 : Addr) (k1 : ClassId) (x0 : Int32) (h0 : Heap) (n0 : Nat) (Z0 : n0 ≤ h0.size) (E_a1 : Exa Z h0 a1 "[I") (V_a1 : Arv Z h0 a1 k1 .int (4 : Int32) [(.int x0), (.int (0 : Int32)), (.int (0 : Int32)), (.int (0 : Int32))] (.int (0 : Int32))) :
    MF l mn5 jdk_65_method_123_code 3 (some (.array .int)) ws ({ frames := 1, cells := 1, slots := 1, locals := 18 } : Room) #[(.ref a1), (.int (1 : Int32))] Z h0 (QC Z (1 : Int32) [(.int x0)] h0 n0) := by
  refine MetFree.of_bodySF (plainFor_of_name pn_5) hisR ?_
  intro p e s m args below meth c s₁ Bd hml0 hP hK
  obtain ⟨rfl, hZ, hh⟩ := hP
  have hx := Bd.exec
  have hby := Bd.bytes
  have hml : c.maxLocals = 3 := hml0
  have hown : s.vm.findClass "java/util/Arrays" = some m.cls := findClass_of_methodNamed Bd.named
  have hnm := (name_of_methodNamed Bd.named Bd.method).1
  have X0 : Stand p l e ({ frames := 1, cells := 1, slots := 1, locals := 18 } : Room) s m #[(.ref a1), (.int (1 : Int32))] below meth c s₁ [] 0 0 := Stand.of_body Bd
  have e0 : s₁.heap = h0 := by rw [← hh, Bd.state]; rfl
  have N0 := Fr.nil n0
  have pre0 : GO p e below (s₁.setTop (mkF m 0 #[.val (.ref a1), .val (.int (1 : Int32)), .unset] [])) (s₁.setTop (entryFrame m #[(.ref a1), (.int (1 : Int32))] 3)) := fun t k => castTop (ef_5 m a1 (1 : Int32)) k
  have KK := Keep.refl h0 []
  obtain ⟨cl123, Ar123, q123, Sz123, Nn123, Hh123, Gg123⟩ := id V_a1
  obtain ⟨T124, h124, k124, X124, e124, E124, A124, Ex124, st124⟩ := newPE X0 hx hZ (ww hw 17 rfl) e0 (g := (mkF m 15 #[.val (.ref a1), .val (.int (1 : Int32)), .unset] [(.int (1 : Int32))])) rfl (hb hby d5_15) rfl (by decide) (cap := 1) (by decide) (by decide) (by decide) (by decide) (ad := "[I") (by first | rfl | decide)
  obtain ⟨b124, g124⟩ : ∃ z, z = h0.size := ⟨_, rfl⟩
  rw [← g124] at A124 Ex124 st124
  have g_b124 : n0 ≤ b124 := Nat.le_trans Z0 (Nat.le_of_eq g124.symm)
  have sz_b124 : h0.size ≤ b124 := Nat.le_trans KK.1 (Nat.le_of_eq g124.symm)
  have ne_a1_b124 : a1 ≠ b124 := Nat.ne_of_lt (Nat.lt_of_lt_of_le E_a1.lt (Nat.le_of_eq g124.symm))
  replace E_a1 := E_a1.ext E124
  replace V_a1 := V_a1.ext E124
  replace Z0 := Nat.le_trans Z0 E124.1
  replace KK := KK.ext E124
  have V_b124 : Arv Z h124 b124 k124 .int (1 : Int32) [(.int (0 : Int32))] (.int (0 : Int32)) := (Arv.new A124 (by decide)).pad (pad_rep [] (.int (0 : Int32)) 1)
  have E_b124 : Exa Z h124 b124 "[I" := Ex124
  obtain ⟨cl125, Ar125, q125, Sz125, Nn125, Hh125, Gg125⟩ := id V_a1
  obtain ⟨_, _, ⟨T126, L126, k126, n126⟩, -, X126, ⟨Lc126, hQ126, l126, y126, z126⟩, st126⟩ := Jvm.LawKit.callS X124 hx (y := mn0) hown (mvT hZ (ww hw 34 rfl)) (mvT hZ (ww hw 5 rfl)) (mvT hZ (ww hw 6 rfl)) (mvT hZ (ww hw 7 rfl)) (by decide) (backOf (W := 4) (rm1 l Z a0 hw [] (4 : Int32) (1 : Int32) h124 n0 Z0) hZ (ww hw 7 rfl) (ww hw 6 rfl) (by decide) (by decide)) (g := (mkF m 25 #[.val (.ref a1), .val (.int (1 : Int32)), .val (.ref b124)] [(.int (1 : Int32)), (.int (4 : Int32)), (.int (0 : Int32)), (.ref b124), (.int (0 : Int32)), (.ref a1)])) rfl (by rw [hml]; rfl) (argsL := [(.int (4 : Int32)), (.int (1 : Int32))]) (rest := [(.int (0 : Int32)), (.ref b124), (.int (0 : Int32)), (.ref a1)]) (lenOf pd_0 rfl) rfl (by show 2 * 0 + _ ≤ _; exact Nat.le_of_eq rfl) (hb hby d5_25) (fun _ _ => ⟨rfl, e124, (by decide : 1 + 0 ≤ _), (by decide : 1 + 0 ≤ _)⟩)
  dsimp only [Pt.U, Pt.locs, Pt.cells, Pt.slots] at X126 l126 y126 z126 st126 hQ126
  subst l126 y126 z126
  obtain ⟨rfl, N126q, e126⟩ := hQ126
  rw [show f1 (4 : Int32) (1 : Int32) = (1 : Int32) from by decide] at st126
  have N126 := Fr.app N0 N126q
  obtain ⟨T127, h127, L127, X127, e127, N127, K127, Vn127, st127⟩ := cpA X126 hx hZ hown (ww hw 35 rfl) (ww hw 38 rfl) (ww hw 36 rfl) (ww hw 37 rfl) e126 (us := [(.int x0)]) V_a1 V_b124 (Or.inl ⟨rfl, rfl⟩) (by decide) (by decide) (by decide) (by decide) (by decide) rfl (by decide) N126 g_b124 (g := (mkF m 28 #[.val (.ref a1), .val (.int (1 : Int32)), .val (.ref b124)] [(.int (1 : Int32)), (.int (0 : Int32)), (.ref b124), (.int (0 : Int32)), (.ref a1)])) rfl (by rw [hml]; rfl) rfl (hb hby d5_28) (by decide) (W := 0) (by show 2 * 0 + _ ≤ _; exact Nat.le_of_eq rfl) (by decide)
  replace E_a1 := E_a1.keep K127
  replace V_a1 := V_a1.keep K127 (ninS ne_a1_b124 nin0)
  replace E_b124 := E_b124.keep K127
  replace Z0 := Nat.le_trans Z0 K127.1
  replace KK := KK.trans K127 (allS (Or.inr sz_b124) all0)
  have V_b124 : Arv Z h127 b124 k124 .int (1 : Int32) [(.int x0)] (.int (0 : Int32)) := Vn127
  obtain ⟨fs, hr, hrun, hended, hW, hsame⟩ := X127.leave (v := some (.ref b124)) (fun h => by rw [Bd.returns] at h; cases h)
  refine ⟨_, _, pre0 _ ?_, hrun, hended, _, _, rfl, ?_, ⟨_, rfl⟩, hW, hsame.mono (by decide) (by decide)⟩
  · refine y_iloadN X0 hx hby d5_0 rfl ?_
    refine y_aloadN X0 hx hby d5_1 rfl rfl ?_
    refine X0.arraylength hx (by rw [e0]; exact Ar123.1) (State.isArrayOf_alike hZ.alike Ar123.2.1) (g := (mkF m 2 #[.val (.ref a1), .val (.int (1 : Int32)), .unset] [(.ref a1), (.int (1 : Int32))])) rfl rfl (hb hby d5_2) _ ?_
    rw [len_of Sz123 Nn123]
    show Steps p.tables e below (s₁.setTop (mkF m 3 #[.val (.ref a1), .val (.int (1 : Int32)), .unset] [(.int (4 : Int32)), (.int (1 : Int32))])) _
    refine y_icmpYes X0 hx hby (pc' := 14) d5_3 (feq (by decide)).2 (by decide) (by decide) ?_
    refine y_iloadN X0 hx hby d5_14 rfl ?_
    refine st124 _ ?_
    show Steps p.tables e below (T124.setTop (mkF m 17 #[.val (.ref a1), .val (.int (1 : Int32)), .unset] [(.ref b124)])) _
    refine y_astoreN X124 hx hby d5_17 rfl (l' := #[.val (.ref a1), .val (.int (1 : Int32)), .val (.ref b124)]) rfl ?_
    refine y_aloadN X124 hx hby d5_18 rfl rfl ?_
    refine y_iconst X124 hx hby (v := (0 : Int32)) d5_19 rfl ?_
    refine y_aloadN X124 hx hby d5_20 rfl rfl ?_
    refine y_iconst X124 hx hby (v := (0 : Int32)) d5_21 rfl ?_
    refine y_aloadN X124 hx hby d5_22 rfl rfl ?_
    refine X124.arraylength hx (by rw [e124]; exact Ar125.1) (State.isArrayOf_alike hZ.alike Ar125.2.1) (g := (mkF m 23 #[.val (.ref a1), .val (.int (1 : Int32)), .val (.ref b124)] [(.ref a1), (.int (0 : Int32)), (.ref b124), (.int (0 : Int32)), (.ref a1)])) rfl rfl (hb hby d5_23) _ ?_
    rw [len_of Sz125 Nn125]
    show Steps p.tables e below (T124.setTop (mkF m 24 #[.val (.ref a1), .val (.int (1 : Int32)), .val (.ref b124)] [(.int (4 : Int32)), (.int (0 : Int32)), (.ref b124), (.int (0 : Int32)), (.ref a1)])) _
    refine y_iloadN X124 hx hby d5_24 rfl ?_
    refine st126 _ ?_
    show Steps p.tables e below (T126.setTop (mkF m 28 #[.val (.ref a1), .val (.int (1 : Int32)), .val (.ref b124)] [(.int (1 : Int32)), (.int (0 : Int32)), (.ref b124), (.int (0 : Int32)), (.ref a1)])) _
    refine st127 _ ?_
    show Steps p.tables e below (T127.setTop (mkF m 31 #[.val (.ref a1), .val (.int (1 : Int32)), .val (.ref b124)] [])) _
    refine y_aloadN X127 hx hby d5_31 rfl rfl ?_
    show Steps p.tables e below (T127.setTop (mkF m 32 #[.val (.ref a1), .val (.int (1 : Int32)), .val (.ref b124)] [(.ref b124)])) _
    jvm_step X127.here [X127.here.top, hx, (hb hby d5_32), X127.method', Bd.returns, Value.isRef, FieldType.isReference]
    first | (intro acts; rw [hr _ acts rfl rfl rfl]) | rw [hr _ _ rfl rfl rfl]
    exact Steps.refl _
  · show QC Z (1 : Int32) [(.int x0)] h0 n0 _ T127.heap _
    rw [e127]
    exact ⟨b124, _, rfl, N127, KK, sz_b124, V_b124, E_b124⟩
set_option maxRecDepth 65536 in
set_option maxHeartbeats 40000000 in
theorem rm4_1 (l : Launch) (Z : State) (a0 : Array Value) (hw : HW a0 Z) (ws : List Jvm.Cond) (a1 aA : Addr) (kA : ClassId) (x0 : Int32) (h0 : Heap) (n0 : Nat) (Z0 : n0 ≤ h0.size) (E_a1 : Exa Z h0 a1 "com/example/hard_delay_bounds/harddelaybounds/analysis/FlowSet$Builder") (F_numbers_a1 : Fld Z h0 a1 "com/example/hard_delay_bounds/harddelaybounds/analysis/FlowSet$Builder" "numbers" "[I" (.ref aA)) (F_size_a1 : Fld Z h0 a1 "com/example/hard_delay_bounds/harddelaybounds/analysis/FlowSet$Builder" "size" "I" (.int (1 : Int32))) (E_aA : Exa Z h0 aA "[I") (V_aA : Arv Z h0 aA kA .int (4 : Int32) [(.int x0), (.int (0 : Int32)), (.int (0 : Int32)), (.int (0 : Int32))] (.int (0 : Int32))) (ne_a1_aA : a1 ≠ aA) :
    MF l mn7 prog_18_method_3_code 1 (some (.object "com/example/hard_delay_bounds/harddelaybounds/analysis/FlowSet")) ws ({ frames := 2, cells := 2, slots := 3, locals := 34 } : Room) #[(.ref a1)] Z h0 (QS Z (1 : Int32) [(.int x0)] h0 n0) := by
  refine MetFree.of_bodySF (plainFor_of_name pn_2) hisR ?_
  intro p e s m args below meth c s₁ Bd hml0 hP hK
  obtain ⟨rfl, hZ, hh⟩ := hP
  have hx := Bd.exec
  have hby := Bd.bytes
  have hml : c.maxLocals = 1 := hml0
  have hown : s.vm.findClass "com/example/hard_delay_bounds/harddelaybounds/analysis/FlowSet$Builder" = some m.cls := findClass_of_methodNamed Bd.named
  have hnm := (name_of_methodNamed Bd.named Bd.method).1
  have X0 : Stand p l e ({ frames := 2, cells := 2, slots := 3, locals := 34 } : Room) s m #[(.ref a1)] below meth c s₁ [] 0 0 := Stand.of_body Bd
  have e0 : s₁.heap = h0 := by rw [← hh, Bd.state]; rfl
  have N0 := Fr.nil n0
  have pre0 : GO p e below (s₁.setTop (mkF m 0 #[.val (.ref a1)] [])) (s₁.setTop (entryFrame m #[(.ref a1)] 1)) := fun t k => castTop (ef_4 m a1) k
  have KK := Keep.refl h0 []
  obtain ⟨T128, h128, X128, e128, E128, A128, D128, -, st128⟩ := newO X0 hx hZ hown (ww hw 25 rfl) (ww hw 26 rfl) (ww hw 27 rfl) e0 (g := (mkF m 0 #[.val (.ref a1)] [])) rfl (hb hby d4_0) (by decide) (by decide)
  obtain ⟨b128, g128⟩ : ∃ z, z = h0.size := ⟨_, rfl⟩
  rw [← g128] at A128 D128 st128
  have g_b128 : n0 ≤ b128 := Nat.le_trans Z0 (Nat.le_of_eq g128.symm)
  have sz_b128 : h0.size ≤ b128 := Nat.le_trans KK.1 (Nat.le_of_eq g128.symm)
  have ne_a1_b128 : a1 ≠ b128 := Nat.ne_of_lt (Nat.lt_of_lt_of_le E_a1.lt (Nat.le_of_eq g128.symm))
  have ne_aA_b128 : aA ≠ b128 := Nat.ne_of_lt (Nat.lt_of_lt_of_le E_aA.lt (Nat.le_of_eq g128.symm))
  replace E_a1 := E_a1.ext E128
  replace F_numbers_a1 := F_numbers_a1.ext E128
  replace F_size_a1 := F_size_a1.ext E128
  replace E_aA := E_aA.ext E128
  replace V_aA := V_aA.ext E128
  replace Z0 := Nat.le_trans Z0 E128.1
  replace KK := KK.ext E128
  have E_b128 := A128
  have F_numbers_b128 : Fld Z h128 b128 "com/example/hard_delay_bounds/harddelaybounds/analysis/FlowSet" "numbers" "[I" .null := D128 (Or.inr (ww hw 44 rfl)) (ty := (.array .int)) (by decide)
  have F_hash_b128 : Fld Z h128 b128 "com/example/hard_delay_bounds/harddelaybounds/analysis/FlowSet" "hash" "I" (.int (0 : Int32)) := D128 (Or.inr (ww hw 46 rfl)) (ty := .int) (by decide)
  obtain ⟨T129, X129, e129, st129⟩ := getF X128 hx hZ hown (host := "") (Or.inl (ww hw 18 rfl)) Via.refl e128 F_numbers_a1 (g := (mkF m 5 #[.val (.ref a1)] [(.ref a1), (.ref b128), (.ref b128)])) rfl rfl (hb hby d4_5)
  obtain ⟨T130, X130, e130, st130⟩ := getF X129 hx hZ hown (host := "") (Or.inl (ww hw 28 rfl)) Via.refl e129 F_size_a1 (g := (mkF m 9 #[.val (.ref a1)] [(.ref a1), (.ref aA), (.ref b128), (.ref b128)])) rfl rfl (hb hby d4_9)
  obtain ⟨_, _, ⟨T131, L131, k131, n131⟩, -, X131, ⟨Lc131, hQ131, l131, y131, z131⟩, st131⟩ := Jvm.LawKit.callS X130 hx (y := mn5) hown (mvT hZ (ww hw 30 rfl)) (mvT hZ (ww hw 31 rfl)) (mvT hZ (ww hw 32 rfl)) (mvT hZ (ww hw 33 rfl)) (by decide) (backOf (W := 2) (rm5_4_1_1 l Z a0 hw [] aA kA x0 h128 n0 Z0 E_aA V_aA) hZ (ww hw 33 rfl) (ww hw 32 rfl) (by decide) (by decide)) (g := (mkF m 12 #[.val (.ref a1)] [(.int (1 : Int32)), (.ref aA), (.ref b128), (.ref b128)])) rfl (by rw [hml]; rfl) (argsL := [(.ref aA), (.int (1 : Int32))]) (rest := [(.ref b128), (.ref b128)]) (lenOf pd_1 rfl) rfl (by show 2 * 0 + _ ≤ _; exact Nat.le_of_eq rfl) (hb hby d4_12) (fun _ _ => ⟨rfl, e130, (by decide : 1 + 1 ≤ _), (by decide : 2 + 1 ≤ _)⟩)
  dsimp only [Pt.U, Pt.locs, Pt.cells, Pt.slots] at X131 l131 y131 z131 st131 hQ131
  subst l131 y131 z131
  obtain ⟨h131, e131⟩ : ∃ z, T131.heap = z := ⟨_, rfl⟩
  rw [e131] at hQ131
  obtain ⟨b131, k131, rfl, N131q, K131, s131, Vn131, En131⟩ := hQ131
  have g_b131 : n0 ≤ b131 := Nat.le_trans Z0 s131
  have sz_b131 : h0.size ≤ b131 := Nat.le_trans KK.1 s131
  have ne_a1_b131 : a1 ≠ b131 := Nat.ne_of_lt (Nat.lt_of_lt_of_le E_a1.lt s131)
  have ne_aA_b131 : aA ≠ b131 := Nat.ne_of_lt (Nat.lt_of_lt_of_le E_aA.lt s131)
  have ne_b128_b131 : b128 ≠ b131 := Nat.ne_of_lt (Nat.lt_of_lt_of_le E_b128.lt s131)
  replace E_a1 := E_a1.keep K131
  replace F_numbers_a1 := F_numbers_a1.keep K131 nin0
  replace F_size_a1 := F_size_a1.keep K131 nin0
  replace E_aA := E_aA.keep K131
  replace V_aA := V_aA.keep K131 nin0
  replace E_b128 := E_b128.keep K131
  replace F_numbers_b128 := F_numbers_b128.keep K131 nin0
  replace F_hash_b128 := F_hash_b128.keep K131 nin0
  replace Z0 := Nat.le_trans Z0 K131.1
  replace KK := KK.trans K131 all0
  have V_b131 : Arv Z h131 b131 k131 .int (1 : Int32) [(.int x0)] (.int (0 : Int32)) := Vn131
  have E_b131 := En131
  have N131 := Fr.app N0 N131q
  obtain ⟨_, _, ⟨T132, L132, k132, n132⟩, -, X132, ⟨Lc132, hQ132, l132, y132, z132⟩, st132⟩ := X131.specialBackNest hx (y := mn6) rfl hown (own_mvMN hZ (ww hw 39 rfl)) (mvT hZ (ww hw 40 rfl)) (mvT hZ (ww hw 41 rfl)) (by decide) (backOf (W := 1) (rm6 l Z a0 hw [] b128 b131 k131 _ _ h131 n0 Z0 E_b128 F_numbers_b128 F_hash_b128 V_b131 g_b128 ne_b128_b131) hZ (ww hw 41 rfl) (ww hw 27 rfl) (by decide) (by decide)) (g := (mkF m 15 #[.val (.ref a1)] [(.ref b131), (.ref b128), (.ref b128)])) rfl (by rw [hml]; rfl) (Steps.refl _) (a := b128) (argsL := [(.ref b131)]) (rest := [(.ref b128)]) (lenOf pd_2 rfl) rfl (by show 2 * 0 + _ ≤ _; exact Nat.le_of_eq rfl) (hb hby d4_15) (fun _ _ => ⟨rfl, e131, (by decide : 2 + 0 ≤ _), (by decide : 3 + 0 ≤ _)⟩)
  dsimp only [Pt.U, Pt.locs, Pt.cells, Pt.slots] at X132 l132 y132 z132 st132 hQ132
  subst l132 y132 z132
  obtain ⟨h132, e132⟩ : ∃ z, T132.heap = z := ⟨_, rfl⟩
  rw [e132] at hQ132
  obtain ⟨rfl, N132q, K132, Fn132⟩ := hQ132
  replace E_a1 := E_a1.keep K132
  replace F_numbers_a1 := F_numbers_a1.keep K132 (ninS ne_a1_b128 nin0)
  replace F_size_a1 := F_size_a1.keep K132 (ninS ne_a1_b128 nin0)
  replace E_aA := E_aA.keep K132
  replace V_aA := V_aA.keep K132 (ninS ne_aA_b128 nin0)
  replace E_b128 := E_b128.keep K132
  replace V_b131 := V_b131.keep K132 (ninS (Ne.symm ne_b128_b131) nin0)
  replace E_b131 := E_b131.keep K132
  replace Z0 := Nat.le_trans Z0 K132.1
  replace KK := KK.trans K132 (allS (Or.inr sz_b128) all0)
  have F_numbers_b128 := Fn132
  have N132 := Fr.app N131 N132q
  obtain ⟨fs, hr, hrun, hended, hW, hsame⟩ := X132.leave (v := some (.ref b128)) (fun h => by rw [Bd.returns] at h; cases h)
  refine ⟨_, _, pre0 _ ?_, hrun, hended, _, _, rfl, ?_, ⟨_, rfl⟩, hW, hsame.mono (by decide) (by decide)⟩
  · refine st128 _ ?_
    show Steps p.tables e below (T128.setTop (mkF m 3 #[.val (.ref a1)] [(.ref b128)])) _
    refine y_dup X128 hx hby d4_3 rfl ?_
    refine y_aloadN X128 hx hby d4_4 rfl rfl ?_
    refine st129 _ ?_
    show Steps p.tables e below (T129.setTop (mkF m 8 #[.val (.ref a1)] [(.ref aA), (.ref b128), (.ref b128)])) _
    refine y_aloadN X129 hx hby d4_8 rfl rfl ?_
    refine st130 _ ?_
    show Steps p.tables e below (T130.setTop (mkF m 12 #[.val (.ref a1)] [(.int (1 : Int32)), (.ref aA), (.ref b128), (.ref b128)])) _
    refine st131 _ ?_
    show Steps p.tables e below (T131.setTop (mkF m 15 #[.val (.ref a1)] [(.ref b131), (.ref b128), (.ref b128)])) _
    refine st132.trans ?_
    show Steps p.tables e below (T132.setTop (mkF m 18 #[.val (.ref a1)] [(.ref b128)])) _
    jvm_step X132.here [X132.here.top, hx, (hb hby d4_18), X132.method', Bd.returns, Value.isRef, FieldType.isReference]
    first | (intro acts; rw [hr _ acts rfl rfl rfl]) | rw [hr _ _ rfl rfl rfl]
    exact Steps.refl _
  · show QS Z (1 : Int32) [(.int x0)] h0 n0 _ T132.heap _
    rw [e132]
    exact ⟨b128, b131, _, rfl, N132, KK, sz_b128, sz_b131, E_b128, F_numbers_b128, V_b131⟩
set_option maxRecDepth 65536 in
set_option maxHeartbeats 40000000 in
theorem rm7_1 (l : Launch) (Z : State) (a0 : Array Value) (hw : HW a0 Z) (ws : List Jvm.Cond) (a1 aB : Addr) (kB : ClassId) (x0 : Int32) (h0 : Heap) (n0 : Nat) (Z0 : n0 ≤ h0.size) (F_numbers_a1 : Fld Z h0 a1 "com/example/hard_delay_bounds/harddelaybounds/analysis/FlowSet" "numbers" "[I" (.ref aB)) (V_aB : Arv Z h0 aB kB .int (1 : Int32) [(.int x0)] (.int (0 : Int32))) :
    MF l mn8 prog_17_method_2_code 1 (some .int) ws ({ frames := 0, cells := 0, slots := 0, locals := 0 } : Room) #[(.ref a1)] Z h0 (QP (some (.int (1 : Int32))) h0 n0) := by
  refine MetFree.of_bodySF (plainFor_of_name pn_6) hisR ?_
  intro p e s m args below meth c s₁ Bd hml0 hP hK
  obtain ⟨rfl, hZ, hh⟩ := hP
  have hx := Bd.exec
  have hby := Bd.bytes
  have hml : c.maxLocals = 1 := hml0
  have hown : s.vm.findClass "com/example/hard_delay_bounds/harddelaybounds/analysis/FlowSet" = some m.cls := findClass_of_methodNamed Bd.named
  have hnm := (name_of_methodNamed Bd.named Bd.method).1
  have X0 : Stand p l e ({ frames := 0, cells := 0, slots := 0, locals := 0 } : Room) s m #[(.ref a1)] below meth c s₁ [] 0 0 := Stand.of_body Bd
  have e0 : s₁.heap = h0 := by rw [← hh, Bd.state]; rfl
  have N0 := Fr.nil n0
  have pre0 : GO p e below (s₁.setTop (mkF m 0 #[.val (.ref a1)] [])) (s₁.setTop (entryFrame m #[(.ref a1)] 1)) := fun t k => castTop (ef_7 m a1) k
  obtain ⟨T133, X133, e133, st133⟩ := getF X0 hx hZ hown (host := "") (Or.inl (ww hw 43 rfl)) Via.refl e0 F_numbers_a1 (g := (mkF m 1 #[.val (.ref a1)] [(.ref a1)])) rfl rfl (hb hby d7_1)
  obtain ⟨cl134, Ar134, q134, Sz134, Nn134, Hh134, Gg134⟩ := id V_aB
  obtain ⟨fs, hr, hrun, hended, hW, hsame⟩ := X133.leave (v := some (.int (1 : Int32))) (fun h => by rw [Bd.returns] at h; cases h)
  refine ⟨_, _, pre0 _ ?_, hrun, hended, _, _, rfl, ?_, ⟨_, rfl⟩, hW, hsame.mono (by decide) (by decide)⟩
  · refine y_aloadN X0 hx hby d7_0 rfl rfl ?_
    refine st133 _ ?_
    show Steps p.tables e below (T133.setTop (mkF m 4 #[.val (.ref a1)] [(.ref aB)])) _
    refine X133.arraylength hx (by rw [e133]; exact Ar134.1) (State.isArrayOf_alike hZ.alike Ar134.2.1) (g := (mkF m 4 #[.val (.ref a1)] [(.ref aB)])) rfl rfl (hb hby d7_4) _ ?_
    rw [len_of Sz134 Nn134]
    show Steps p.tables e below (T133.setTop (mkF m 5 #[.val (.ref a1)] [(.int (1 : Int32))])) _
    exact retI X133 hx Bd.returns (hb hby d7_5) hr
  · show QP _ h0 n0 _ T133.heap _
    rw [e133]
    exact ⟨rfl, N0, rfl⟩
theorem d13_15 : decode jdk_65_method_59_code 15 = .ok (.iload 4, 2) := by decide +kernel
theorem d13_17 : decode jdk_65_method_59_code 17 = .ok (.iload 5, 2) := by decide +kernel
theorem d13_19 : decode jdk_65_method_59_code 19 = .ok (.iadd, 1) := by decide +kernel
theorem d13_20 : decode jdk_65_method_59_code 20 = .ok (.iconst 1, 1) := by decide +kernel
theorem d13_21 : decode jdk_65_method_59_code 21 = .ok (.iushr, 1) := by decide +kernel
theorem d13_22 : decode jdk_65_method_59_code 22 = .ok (.istore 6, 2) := by decide +kernel
theorem d13_24 : decode jdk_65_method_59_code 24 = .ok (.aload_n 0, 1) := by decide +kernel
theorem d13_25 : decode jdk_65_method_59_code 25 = .ok (.iload 6, 2) := by decide +kernel
theorem d13_27 : decode jdk_65_method_59_code 27 = .ok (.iaload, 1) := by decide +kernel
theorem d13_28 : decode jdk_65_method_59_code 28 = .ok (.istore 7, 2) := by decide +kernel
theorem d13_30 : decode jdk_65_method_59_code 30 = .ok (.iload 7, 2) := by decide +kernel
theorem d13_32 : decode jdk_65_method_59_code 32 = .ok (.iload_n 3, 1) := by decide +kernel
theorem d13_33 : decode jdk_65_method_59_code 33 = .ok (.if_icmp .ge 12, 3) := by decide +kernel
theorem d13_36 : decode jdk_65_method_59_code 36 = .ok (.iload 6, 2) := by decide +kernel
theorem d13_38 : decode jdk_65_method_59_code 38 = .ok (.iconst 1, 1) := by decide +kernel
theorem d13_39 : decode jdk_65_method_59_code 39 = .ok (.iadd, 1) := by decide +kernel
theorem d13_40 : decode jdk_65_method_59_code 40 = .ok (.istore 4, 2) := by decide +kernel
theorem d13_42 : decode jdk_65_method_59_code 42 = .ok (.goto 21, 3) := by decide +kernel
theorem d13_63 : decode jdk_65_method_59_code 63 = .ok (.goto (-55), 3) := by decide +kernel
theorem d13_45 : decode jdk_65_method_59_code 45 = .ok (.iload 7, 2) := by decide +kernel
theorem d13_47 : decode jdk_65_method_59_code 47 = .ok (.iload_n 3, 1) := by decide +kernel
theorem d13_48 : decode jdk_65_method_59_code 48 = .ok (.if_icmp .le 12, 3) := by decide +kernel
theorem d13_51 : decode jdk_65_method_59_code 51 = .ok (.iload 6, 2) := by decide +kernel
theorem d13_53 : decode jdk_65_method_59_code 53 = .ok (.iconst 1, 1) := by decide +kernel
theorem d13_54 : decode jdk_65_method_59_code 54 = .ok (.isub, 1) := by decide +kernel
theorem d13_55 : decode jdk_65_method_59_code 55 = .ok (.istore 5, 2) := by decide +kernel
theorem d13_57 : decode jdk_65_method_59_code 57 = .ok (.goto 6, 3) := by decide +kernel
theorem d13_60 : decode jdk_65_method_59_code 60 = .ok (.iload 6, 2) := by decide +kernel
theorem d13_62 : decode jdk_65_method_59_code 62 = .ok (.ireturn, 1) := by decide +kernel
abbrev lo13_1_0 (a1 : Addr) (p4 : Int32) : Array Slot := #[.val (.ref a1), .val (.int (0 : Int32)), .val (.int (1 : Int32)), .val (.int p4), .val (.int (0 : Int32)), .unset, .unset, .unset]
abbrev lo13_1_1 (a1 : Addr) (p4 : Int32) : Array Slot := #[.val (.ref a1), .val (.int (0 : Int32)), .val (.int (1 : Int32)), .val (.int p4), .val (.int (0 : Int32)), .val (.int (0 : Int32)), .unset, .unset]
abbrev lo13_1_2 (a1 : Addr) (p4 : Int32) : Array Slot := #[.val (.ref a1), .val (.int (0 : Int32)), .val (.int (1 : Int32)), .val (.int p4), .val (.int (0 : Int32)), .val (.int (0 : Int32)), .val (.int (0 : Int32)), .unset]
abbrev lo13_1_3 (a1 : Addr) (p4 x0 : Int32) : Array Slot := #[.val (.ref a1), .val (.int (0 : Int32)), .val (.int (1 : Int32)), .val (.int p4), .val (.int (0 : Int32)), .val (.int (0 : Int32)), .val (.int (0 : Int32)), .val (.int x0)]
abbrev lo13_1_4 (a1 : Addr) (p4 x0 : Int32) : Array Slot := #[.val (.ref a1), .val (.int (0 : Int32)), .val (.int (1 : Int32)), .val (.int p4), .val (.int (1 : Int32)), .val (.int (0 : Int32)), .val (.int (0 : Int32)), .val (.int x0)]
abbrev lo13_1_5 (a1 : Addr) (p4 x0 : Int32) : Array Slot := #[.val (.ref a1), .val (.int (0 : Int32)), .val (.int (1 : Int32)), .val (.int p4), .val (.int (0 : Int32)), .val (.int (-1 : Int32)), .val (.int (0 : Int32)), .val (.int x0)]
def f13_1 (a1 : Addr) (p4 : Int32) (k1 : ClassId) (x0 : Int32) : Int32 := (if x0 < p4 then (-2 : Int32) else (if p4 < x0 then (-1 : Int32) else (0 : Int32)))
set_option maxRecDepth 65536 in
set_option maxHeartbeats 40000000 in
theorem rm13_1 (l : Launch) (Z : State) (a0 : Array Value) (hw : HW a0 Z) (ws : List Jvm.Cond) (a1 : Addr) (p4 : Int32) (k1 : ClassId) (x0 : Int32) (h0 : Heap) (n0 : Nat) (Z0 : n0 ≤ h0.size) (V_a1 : Arv Z h0 a1 k1 .int (1 : Int32) [(.int x0)] (.int (0 : Int32))) :
    MF l mn9 jdk_65_method_59_code 8 (some .int) ws ({ frames := 0, cells := 0, slots := 0, locals := 0 } : Room) #[(.ref a1), (.int (0 : Int32)), (.int (1 : Int32)), (.int p4)] Z h0 (QP (some (.int (f13_1 a1 p4 k1 x0))) h0 n0) := by
  refine MetFree.of_bodySF (plainFor_of_name pn_5) hisR ?_
  intro p e s m args below meth c s₁ Bd hml0 hP hK
  obtain ⟨rfl, hZ, hh⟩ := hP
  have hx := Bd.exec
  have hby := Bd.bytes
  have hml : c.maxLocals = 8 := hml0
  have hown : s.vm.findClass "java/util/Arrays" = some m.cls := findClass_of_methodNamed Bd.named
  have hnm := (name_of_methodNamed Bd.named Bd.method).1
  have X0 : Stand p l e ({ frames := 0, cells := 0, slots := 0, locals := 0 } : Room) s m #[(.ref a1), (.int (0 : Int32)), (.int (1 : Int32)), (.int p4)] below meth c s₁ [] 0 0 := Stand.of_body Bd
  have e0 : s₁.heap = h0 := by rw [← hh, Bd.state]; rfl
  have N0 := Fr.nil n0
  have pre0 : GO p e below (s₁.setTop (mkF m 0 #[.val (.ref a1), .val (.int (0 : Int32)), .val (.int (1 : Int32)), .val (.int p4), .unset, .unset, .unset, .unset] [])) (s₁.setTop (entryFrame m #[(.ref a1), (.int (0 : Int32)), (.int (1 : Int32)), (.int p4)] 8)) := fun t k => castTop (ef_13 m a1 (0 : Int32) (1 : Int32) p4) k
  obtain ⟨cl135, Ar135, q135, Sz135, Nn135, Hh135, Gg135⟩ := id V_a1
  have hin135 : ¬ ((0 : Int32) < 0 ∨ cl135.slots.size ≤ ((0 : Int32)).toNatClampNeg) := inb_of Sz135 ⟨by decide, by decide⟩
  have hat135 : cl135.slots[((0 : Int32)).toNatClampNeg]? = some (.int x0) := Hh135.at hin135 rfl
  have pre137 : GO p e below (s₁.setTop (mkF m 33 (lo13_1_3 a1 p4 x0) [(.int p4), (.int x0)])) (s₁.setTop (entryFrame m #[(.ref a1), (.int (0 : Int32)), (.int (1 : Int32)), (.int p4)] 8)) := fun t k => by
    refine pre0 _ ?_
    refine y_iloadN X0 hx hby d13_0 rfl ?_
    refine y_istore X0 hx hby d13_1 (l' := (lo13_1_0 a1 p4)) rfl ?_
    refine y_iloadN X0 hx hby d13_3 rfl ?_
    refine y_iconst X0 hx hby (v := (1 : Int32)) d13_4 rfl ?_
    refine y_isub X0 hx hby d13_5 ?_
    rw [show ((1 : Int32) - (1 : Int32)) = (0 : Int32) from by decide]
    refine y_istore X0 hx hby d13_6 (l' := (lo13_1_1 a1 p4)) rfl ?_
    refine y_iload X0 hx hby d13_8 rfl ?_
    refine y_iload X0 hx hby d13_10 rfl ?_
    refine y_icmpNo X0 hx hby d13_12 (flt (by decide)).2.2.1 ?_
    refine y_iload X0 hx hby d13_15 rfl ?_
    refine y_iload X0 hx hby d13_17 rfl ?_
    refine y_iadd X0 hx hby d13_19 ?_
    rw [show ((0 : Int32) + (0 : Int32)) = (0 : Int32) from by decide]
    refine y_iconst X0 hx hby (v := (1 : Int32)) d13_20 rfl ?_
    refine y_iushr X0 hx hby d13_21 ?_
    rw [show (((0 : Int32).toUInt32 >>> ((1 : Int32) &&& 31).toUInt32).toInt32) = (0 : Int32) from by decide]
    refine y_istore X0 hx hby d13_22 (l' := (lo13_1_2 a1 p4)) rfl ?_
    refine y_aloadN X0 hx hby d13_24 rfl rfl ?_
    refine y_iload X0 hx hby d13_25 rfl ?_
    refine X0.iaload hx (j := (0 : Int32)) (v := (.int x0)) (by rw [e0]; exact Ar135.1) (State.isArrayOf_alike hZ.alike Ar135.2.1) Ar135.2.2 hin135 hat135 (g := (mkF m 27 (lo13_1_2 a1 p4) [(.int (0 : Int32)), (.ref a1)])) rfl rfl (hb hby d13_27) _ ?_
    show Steps p.tables e below (s₁.setTop (mkF m 28 (lo13_1_2 a1 p4) [(.int x0)])) _
    refine y_istore X0 hx hby d13_28 (l' := (lo13_1_3 a1 p4 x0)) rfl ?_
    refine y_iload X0 hx hby d13_30 rfl ?_
    refine y_iloadN X0 hx hby d13_32 rfl ?_
    exact k
  by_cases hc136 : x0 < p4
  · obtain ⟨fs, hr, hrun, hended, hW, hsame⟩ := X0.leave (v := some (.int (-2 : Int32))) (fun h => by rw [Bd.returns] at h; cases h)
    refine ⟨_, _, pre137 _ ?_, hrun, hended, _, _, rfl, ?_, ⟨_, rfl⟩, hW, hsame.mono (by decide) (by decide)⟩
    · refine y_icmpNo X0 hx hby d13_33 (tlt hc136).2.1 ?_
      refine y_iload X0 hx hby d13_36 rfl ?_
      refine y_iconst X0 hx hby (v := (1 : Int32)) d13_38 rfl ?_
      refine y_iadd X0 hx hby d13_39 ?_
      rw [show ((0 : Int32) + (1 : Int32)) = (1 : Int32) from by decide]
      refine y_istore X0 hx hby d13_40 (l' := (lo13_1_4 a1 p4 x0)) rfl ?_
      refine y_goto X0 hx hby (pc' := 63) d13_42 (by decide) (by decide) ?_
      refine y_goto X0 hx hby (pc' := 8) d13_63 (by decide) (by decide) ?_
      refine y_iload X0 hx hby d13_8 rfl ?_
      refine y_iload X0 hx hby d13_10 rfl ?_
      refine y_icmpYes X0 hx hby (pc' := 66) d13_12 (tlt (by decide)).2.2.1 (by decide) (by decide) ?_
      refine y_iload X0 hx hby d13_66 rfl ?_
      refine y_iconst X0 hx hby (v := (1 : Int32)) d13_68 rfl ?_
      refine y_iadd X0 hx hby d13_69 ?_
      rw [show ((1 : Int32) + (1 : Int32)) = (2 : Int32) from by decide]
      refine y_ineg X0 hx hby d13_70 ?_
      rw [show ((-(2 : Int32))) = (-2 : Int32) from by decide]
      exact retI X0 hx Bd.returns (hb hby d13_71) hr
    · show QP _ h0 n0 _ s₁.heap _
      rw [e0, show f13_1 a1 p4 k1 x0 = (-2 : Int32) from by unfold f13_1; rw [if_pos hc136]]
      exact ⟨rfl, N0, rfl⟩
  · have pre139 : GO p e below (s₁.setTop (mkF m 48 (lo13_1_3 a1 p4 x0) [(.int p4), (.int x0)])) (s₁.setTop (entryFrame m #[(.ref a1), (.int (0 : Int32)), (.int (1 : Int32)), (.int p4)] 8)) := fun t k => by
      refine pre137 _ ?_
      refine y_icmpYes X0 hx hby (pc' := 45) d13_33 (flt hc136).2.1 (by decide) (by decide) ?_
      refine y_iload X0 hx hby d13_45 rfl ?_
      refine y_iloadN X0 hx hby d13_47 rfl ?_
      exact k
    by_cases hc138 : p4 < x0
    · obtain ⟨fs, hr, hrun, hended, hW, hsame⟩ := X0.leave (v := some (.int (-1 : Int32))) (fun h => by rw [Bd.returns] at h; cases h)
      refine ⟨_, _, pre139 _ ?_, hrun, hended, _, _, rfl, ?_, ⟨_, rfl⟩, hW, hsame.mono (by decide) (by decide)⟩
      · refine y_icmpNo X0 hx hby d13_48 (tlt hc138).2.2.2 ?_
        refine y_iload X0 hx hby d13_51 rfl ?_
        refine y_iconst X0 hx hby (v := (1 : Int32)) d13_53 rfl ?_
        refine y_isub X0 hx hby d13_54 ?_
        rw [show ((0 : Int32) - (1 : Int32)) = (-1 : Int32) from by decide]
        refine y_istore X0 hx hby d13_55 (l' := (lo13_1_5 a1 p4 x0)) rfl ?_
        refine y_goto X0 hx hby (pc' := 63) d13_57 (by decide) (by decide) ?_
        refine y_goto X0 hx hby (pc' := 8) d13_63 (by decide) (by decide) ?_
        refine y_iload X0 hx hby d13_8 rfl ?_
        refine y_iload X0 hx hby d13_10 rfl ?_
        refine y_icmpYes X0 hx hby (pc' := 66) d13_12 (tlt (by decide)).2.2.1 (by decide) (by decide) ?_
        refine y_iload X0 hx hby d13_66 rfl ?_
        refine y_iconst X0 hx hby (v := (1 : Int32)) d13_68 rfl ?_
        refine y_iadd X0 hx hby d13_69 ?_
        rw [show ((0 : Int32) + (1 : Int32)) = (1 : Int32) from by decide]
        refine y_ineg X0 hx hby d13_70 ?_
        rw [show ((-(1 : Int32))) = (-1 : Int32) from by decide]
        exact retI X0 hx Bd.returns (hb hby d13_71) hr
      · show QP _ h0 n0 _ s₁.heap _
        rw [e0, show f13_1 a1 p4 k1 x0 = (-1 : Int32) from by unfold f13_1; rw [if_neg hc136, if_pos hc138]]
        exact ⟨rfl, N0, rfl⟩
    · obtain ⟨fs, hr, hrun, hended, hW, hsame⟩ := X0.leave (v := some (.int (0 : Int32))) (fun h => by rw [Bd.returns] at h; cases h)
      refine ⟨_, _, pre139 _ ?_, hrun, hended, _, _, rfl, ?_, ⟨_, rfl⟩, hW, hsame.mono (by decide) (by decide)⟩
      · refine y_icmpYes X0 hx hby (pc' := 60) d13_48 (flt hc138).2.2.2 (by decide) (by decide) ?_
        refine y_iload X0 hx hby d13_60 rfl ?_
        exact retI X0 hx Bd.returns (hb hby d13_62) hr
      · show QP _ h0 n0 _ s₁.heap _
        rw [e0, show f13_1 a1 p4 k1 x0 = (0 : Int32) from by unfold f13_1; rw [if_neg hc136, if_neg hc138]]
        exact ⟨rfl, N0, rfl⟩
abbrev bs_1 (p4 x0 : Int32) : Int32 := f13_1 (0 : Addr) p4 (0 : ClassId) x0
set_option maxRecDepth 65536 in
set_option maxHeartbeats 40000000 in
theorem rm12_1 (l : Launch) (Z : State) (a0 : Array Value) (hw : HW a0 Z) (ws : List Jvm.Cond) (a1 : Addr) (p2 : Int32) (k1 : ClassId) (x0 : Int32) (h0 : Heap) (n0 : Nat) (Z0 : n0 ≤ h0.size) (V_a1 : Arv Z h0 a1 k1 .int (1 : Int32) [(.int x0)] (.int (0 : Int32))) :
    MF l mn10 jdk_65_method_57_code 2 (some .int) ws ({ frames := 1, cells := 0, slots := 0, locals := 19 } : Room) #[(.ref a1), (.int p2)] Z h0 (QP (some (.int (bs_1 p2 x0))) h0 n0) := by
  refine MetFree.of_bodySF (plainFor_of_name pn_5) hisR ?_
  intro p e s m args below meth c s₁ Bd hml0 hP hK
  obtain ⟨rfl, hZ, hh⟩ := hP
  have hx := Bd.exec
  have hby := Bd.bytes
  have hml : c.maxLocals = 2 := hml0
  have hown : s.vm.findClass "java/util/Arrays" = some m.cls := findClass_of_methodNamed Bd.named
  have hnm := (name_of_methodNamed Bd.named Bd.method).1
  have X0 : Stand p l e ({ frames := 1, cells := 0, slots := 0, locals := 19 } : Room) s m #[(.ref a1), (.int p2)] below meth c s₁ [] 0 0 := Stand.of_body Bd
  have e0 : s₁.heap = h0 := by rw [← hh, Bd.state]; rfl
  have N0 := Fr.nil n0
  have pre0 : GO p e below (s₁.setTop (mkF m 0 #[.val (.ref a1), .val (.int p2)] [])) (s₁.setTop (entryFrame m #[(.ref a1), (.int p2)] 2)) := fun t k => castTop (ef_12 m a1 p2) k
  obtain ⟨cl140, Ar140, q140, Sz140, Nn140, Hh140, Gg140⟩ := id V_a1
  obtain ⟨_, _, ⟨T141, L141, k141, n141⟩, -, X141, ⟨Lc141, hQ141, l141, y141, z141⟩, st141⟩ := Jvm.LawKit.callS X0 hx (y := mn9) hown (mvT hZ (ww hw 72 rfl)) (mvT hZ (ww hw 73 rfl)) (mvT hZ (ww hw 32 rfl)) (mvT hZ (ww hw 74 rfl)) (by decide) (backOf (W := 0) (rm13_1 l Z a0 hw [] a1 p2 k1 x0 h0 n0 Z0 V_a1) hZ (ww hw 74 rfl) (ww hw 32 rfl) (by decide) (by decide)) (g := (mkF m 5 #[.val (.ref a1), .val (.int p2)] [(.int p2), (.int (1 : Int32)), (.int (0 : Int32)), (.ref a1)])) rfl (by rw [hml]; rfl) (argsL := [(.ref a1), (.int (0 : Int32)), (.int (1 : Int32)), (.int p2)]) (rest := []) (lenOf pd_3 rfl) rfl (by show 2 * 0 + _ ≤ _; exact Nat.le_of_eq rfl) (hb hby d12_5) (fun _ _ => ⟨rfl, e0, (by decide : 0 + 0 ≤ _), (by decide : 0 + 0 ≤ _)⟩)
  dsimp only [Pt.U, Pt.locs, Pt.cells, Pt.slots] at X141 l141 y141 z141 st141 hQ141
  subst l141 y141 z141
  obtain ⟨rfl, N141q, e141⟩ := hQ141
  have N141 := Fr.app N0 N141q
  obtain ⟨fs, hr, hrun, hended, hW, hsame⟩ := X141.leave (v := some (.int (bs_1 p2 x0))) (fun h => by rw [Bd.returns] at h; cases h)
  refine ⟨_, _, pre0 _ ?_, hrun, hended, _, _, rfl, ?_, ⟨_, rfl⟩, hW, hsame.mono (by decide) (by decide)⟩
  · refine y_aloadN X0 hx hby d12_0 rfl rfl ?_
    refine y_iconst X0 hx hby (v := (0 : Int32)) d12_1 rfl ?_
    refine y_aloadN X0 hx hby d12_2 rfl rfl ?_
    refine X0.arraylength hx (by rw [e0]; exact Ar140.1) (State.isArrayOf_alike hZ.alike Ar140.2.1) (g := (mkF m 3 #[.val (.ref a1), .val (.int p2)] [(.ref a1), (.int (0 : Int32)), (.ref a1)])) rfl rfl (hb hby d12_3) _ ?_
    rw [len_of Sz140 Nn140]
    show Steps p.tables e below (s₁.setTop (mkF m 4 #[.val (.ref a1), .val (.int p2)] [(.int (1 : Int32)), (.int (0 : Int32)), (.ref a1)])) _
    refine y_iloadN X0 hx hby d12_4 rfl ?_
    refine st141 _ ?_
    show Steps p.tables e below (T141.setTop (mkF m 8 #[.val (.ref a1), .val (.int p2)] [(.int (bs_1 p2 x0))])) _
    exact retI X141 hx Bd.returns (hb hby d12_8) hr
  · show QP _ h0 n0 _ T141.heap _
    rw [e141]
    exact ⟨rfl, N141, rfl⟩
set_option maxRecDepth 65536 in
set_option maxHeartbeats 40000000 in
theorem rm11_1 (l : Launch) (Z : State) (a0 : Array Value) (hw : HW a0 Z) (ws : List Jvm.Cond) (a1 : Addr) (p2 : Int32) (aB : Addr) (kB : ClassId) (x0 : Int32) (h0 : Heap) (n0 : Nat) (Z0 : n0 ≤ h0.size) (E_a1 : Exa Z h0 a1 "com/example/hard_delay_bounds/harddelaybounds/analysis/FlowSet") (F_numbers_a1 : Fld Z h0 a1 "com/example/hard_delay_bounds/harddelaybounds/analysis/FlowSet" "numbers" "[I" (.ref aB)) (V_aB : Arv Z h0 aB kB .int (1 : Int32) [(.int x0)] (.int (0 : Int32))) :
    MF l mn11 prog_17_method_4_code 2 (some .int) ws ({ frames := 2, cells := 0, slots := 0, locals := 32 } : Room) #[(.ref a1), (.int p2)] Z h0 (QP (some (.int (bs_1 p2 x0))) h0 n0) := by
  refine MetFree.of_bodySF (plainFor_of_name pn_6) hisR ?_
  intro p e s m args below meth c s₁ Bd hml0 hP hK
  obtain ⟨rfl, hZ, hh⟩ := hP
  have hx := Bd.exec
  have hby := Bd.bytes
  have hml : c.maxLocals = 2 := hml0
  have hown : s.vm.findClass "com/example/hard_delay_bounds/harddelaybounds/analysis/FlowSet" = some m.cls := findClass_of_methodNamed Bd.named
  have hnm := (name_of_methodNamed Bd.named Bd.method).1
  have X0 : Stand p l e ({ frames := 2, cells := 0, slots := 0, locals := 32 } : Room) s m #[(.ref a1), (.int p2)] below meth c s₁ [] 0 0 := Stand.of_body Bd
  have e0 : s₁.heap = h0 := by rw [← hh, Bd.state]; rfl
  have N0 := Fr.nil n0
  have pre0 : GO p e below (s₁.setTop (mkF m 0 #[.val (.ref a1), .val (.int p2)] [])) (s₁.setTop (entryFrame m #[(.ref a1), (.int p2)] 2)) := fun t k => castTop (ef_11 m a1 p2) k
  obtain ⟨T142, X142, e142, st142⟩ := getF X0 hx hZ hown (host := "") (Or.inl (ww hw 43 rfl)) Via.refl e0 F_numbers_a1 (g := (mkF m 1 #[.val (.ref a1), .val (.int p2)] [(.ref a1)])) rfl rfl (hb hby d11_1)
  obtain ⟨_, _, ⟨T143, L143, k143, n143⟩, -, X143, ⟨Lc143, hQ143, l143, y143, z143⟩, st143⟩ := Jvm.LawKit.callS X142 hx (y := mn10) hown (mvT hZ (ww hw 69 rfl)) (mvT hZ (ww hw 70 rfl)) (mvT hZ (ww hw 32 rfl)) (mvT hZ (ww hw 71 rfl)) (by decide) (backOf (W := 0) (rm12_1 l Z a0 hw [] aB p2 kB x0 h0 n0 Z0 V_aB) hZ (ww hw 71 rfl) (ww hw 32 rfl) (by decide) (by decide)) (g := (mkF m 5 #[.val (.ref a1), .val (.int p2)] [(.int p2), (.ref aB)])) rfl (by rw [hml]; rfl) (argsL := [(.ref aB), (.int p2)]) (rest := []) (lenOf pd_4 rfl) rfl (by show 2 * 0 + _ ≤ _; exact Nat.le_of_eq rfl) (hb hby d11_5) (fun _ _ => ⟨rfl, e142, (by decide : 0 + 0 ≤ _), (by decide : 0 + 0 ≤ _)⟩)
  dsimp only [Pt.U, Pt.locs, Pt.cells, Pt.slots] at X143 l143 y143 z143 st143 hQ143
  subst l143 y143 z143
  obtain ⟨rfl, N143q, e143⟩ := hQ143
  have N143 := Fr.app N0 N143q
  obtain ⟨fs, hr, hrun, hended, hW, hsame⟩ := X143.leave (v := some (.int (bs_1 p2 x0))) (fun h => by rw [Bd.returns] at h; cases h)
  refine ⟨_, _, pre0 _ ?_, hrun, hended, _, _, rfl, ?_, ⟨_, rfl⟩, hW, hsame.mono (by decide) (by decide)⟩
  · refine y_aloadN X0 hx hby d11_0 rfl rfl ?_
    refine st142 _ ?_
    show Steps p.tables e below (T142.setTop (mkF m 4 #[.val (.ref a1), .val (.int p2)] [(.ref aB)])) _
    refine y_iloadN X142 hx hby d11_4 rfl ?_
    refine st143 _ ?_
    show Steps p.tables e below (T143.setTop (mkF m 8 #[.val (.ref a1), .val (.int p2)] [(.int (bs_1 p2 x0))])) _
    exact retI X143 hx Bd.returns (hb hby d11_8) hr
  · show QP _ h0 n0 _ T143.heap _
    rw [e143]
    exact ⟨rfl, N143, rfl⟩
def f10_1 (a1 : Addr) (p2 : Int32) (aB : Addr) (kB : ClassId) (x0 : Int32) : Int32 := (if (bs_1 p2 x0) < (0 : Int32) then (0 : Int32) else (1 : Int32))
set_option maxRecDepth 65536 in
set_option maxHeartbeats 40000000 in
theorem rm10_1 (l : Launch) (Z : State) (a0 : Array Value) (hw : HW a0 Z) (ws : List Jvm.Cond) (a1 : Addr) (p2 : Int32) (aB : Addr) (kB : ClassId) (x0 : Int32) (h0 : Heap) (n0 : Nat) (Z0 : n0 ≤ h0.size) (E_a1 : Exa Z h0 a1 "com/example/hard_delay_bounds/harddelaybounds/analysis/FlowSet") (F_numbers_a1 : Fld Z h0 a1 "com/example/hard_delay_bounds/harddelaybounds/analysis/FlowSet" "numbers" "[I" (.ref aB)) (V_aB : Arv Z h0 aB kB .int (1 : Int32) [(.int x0)] (.int (0 : Int32))) :
    MF l mn12 prog_17_method_5_code 2 (some .boolean) ws ({ frames := 3, cells := 0, slots := 0, locals := 45 } : Room) #[(.ref a1), (.int p2)] Z h0 (QP (some (.int (f10_1 a1 p2 aB kB x0))) h0 n0) := by
  refine MetFree.of_bodySF (plainFor_of_name pn_6) hisR ?_
  intro p e s m args below meth c s₁ Bd hml0 hP hK
  obtain ⟨rfl, hZ, hh⟩ := hP
  have hx := Bd.exec
  have hby := Bd.bytes
  have hml : c.maxLocals = 2 := hml0
  have hown : s.vm.findClass "com/example/hard_delay_bounds/harddelaybounds/analysis/FlowSet" = some m.cls := findClass_of_methodNamed Bd.named
  have hnm := (name_of_methodNamed Bd.named Bd.method).1
  have X0 : Stand p l e ({ frames := 3, cells := 0, slots := 0, locals := 45 } : Room) s m #[(.ref a1), (.int p2)] below meth c s₁ [] 0 0 := Stand.of_body Bd
  have e0 : s₁.heap = h0 := by rw [← hh, Bd.state]; rfl
  have N0 := Fr.nil n0
  have pre0 : GO p e below (s₁.setTop (mkF m 0 #[.val (.ref a1), .val (.int p2)] [])) (s₁.setTop (entryFrame m #[(.ref a1), (.int p2)] 2)) := fun t k => castTop (ef_10 m a1 p2) k
  obtain ⟨cq144, kq144, q144a, q144b, q144c⟩ := isOf hZ e0 E_a1
  obtain ⟨_, _, ⟨T144, L144, k144, n144⟩, -, X144, ⟨Lc144, hQ144, l144, y144, z144⟩, st144⟩ := X0.virtualBack hx (y := mn11) (z := mn11) hown (mvT hZ (ww hw 64 rfl)) (mvT hZ (ww hw 65 rfl)) (notFace_of_selects (args := #[]) (mvT hZ (ww hw 67 rfl))) (mvT hZ (ww hw 67 rfl)) (mvT hZ (ww hw 66 rfl)) (by decide) (backOf (W := 0) (rm11_1 l Z a0 hw [] a1 p2 aB kB x0 h0 n0 Z0 E_a1 F_numbers_a1 V_aB) hZ (ww hw 68 rfl) (ww hw 27 rfl) (by decide) (by decide)) q144a q144c (g := (mkF m 2 #[.val (.ref a1), .val (.int p2)] [(.int p2), (.ref a1)])) rfl (by rw [hml]; rfl) (Steps.refl _) (argsL := [(.int p2)]) (rest := []) (lenOf pd_5 rfl) rfl (by show 2 * 0 + _ ≤ _; exact Nat.le_of_eq rfl) (hb hby d10_2) (fun _ _ => ⟨rfl, e0, (by decide : 0 + 0 ≤ _), (by decide : 0 + 0 ≤ _)⟩)
  dsimp only [Pt.U, Pt.locs, Pt.cells, Pt.slots] at X144 l144 y144 z144 st144 hQ144
  subst l144 y144 z144
  obtain ⟨rfl, N144q, e144⟩ := hQ144
  have N144 := Fr.app N0 N144q
  have pre146 : GO p e below (T144.setTop (mkF m 5 #[.val (.ref a1), .val (.int p2)] [(.int (bs_1 p2 x0))])) (s₁.setTop (entryFrame m #[(.ref a1), (.int p2)] 2)) := fun t k => by
    refine pre0 _ ?_
    refine y_aloadN X0 hx hby d10_0 rfl rfl ?_
    refine y_iloadN X0 hx hby d10_1 rfl ?_
    refine st144.trans ?_
    show Steps p.tables e below (T144.setTop (mkF m 5 #[.val (.ref a1), .val (.int p2)] [(.int (bs_1 p2 x0))])) _
    exact k
  by_cases hc145 : (bs_1 p2 x0) < (0 : Int32)
  · obtain ⟨fs, hr, hrun, hended, hW, hsame⟩ := X144.leave (v := some (.int (0 : Int32))) (fun h => by rw [Bd.returns] at h; cases h)
    refine ⟨_, _, pre146 _ ?_, hrun, hended, _, _, rfl, ?_, ⟨_, rfl⟩, hW, hsame.mono (by decide) (by decide)⟩
    · refine y_ifYes X144 hx hby (pc' := 12) d10_5 ((if0 _ _).trans (tlt hc145).1) (by decide) (by decide) ?_
      refine y_iconst X144 hx hby (v := (0 : Int32)) d10_12 rfl ?_
      exact retN X144 hx (t := .boolean) Bd.returns (by simp) (hb hby d10_13) hr
    · show QP _ h0 n0 _ T144.heap _
      rw [e144, show f10_1 a1 p2 aB kB x0 = (0 : Int32) from by unfold f10_1; rw [if_pos hc145]]
      exact ⟨rfl, N144, rfl⟩
  · obtain ⟨fs, hr, hrun, hended, hW, hsame⟩ := X144.leave (v := some (.int (1 : Int32))) (fun h => by rw [Bd.returns] at h; cases h)
    refine ⟨_, _, pre146 _ ?_, hrun, hended, _, _, rfl, ?_, ⟨_, rfl⟩, hW, hsame.mono (by decide) (by decide)⟩
    · refine y_ifNo X144 hx hby d10_5 ((if0 _ _).trans (flt hc145).1) ?_
      refine y_iconst X144 hx hby (v := (1 : Int32)) d10_8 rfl ?_
      refine y_goto X144 hx hby (pc' := 13) d10_9 (by decide) (by decide) ?_
      exact retN X144 hx (t := .boolean) Bd.returns (by simp) (hb hby d10_13) hr
    · show QP _ h0 n0 _ T144.heap _
      rw [e144, show f10_1 a1 p2 aB kB x0 = (1 : Int32) from by unfold f10_1; rw [if_neg hc145]]
      exact ⟨rfl, N144, rfl⟩
abbrev ct_1 (p2 x0 : Int32) : Int32 := f10_1 (0 : Addr) p2 (0 : Addr) (0 : ClassId) x0
theorem d15_0 : decode prog_17_method_3_code 0 = .ok (.aload_n 0, 1) := by decide +kernel
theorem d15_1 : decode prog_17_method_3_code 1 = .ok (.getfield 7, 3) := by decide +kernel
theorem d15_4 : decode prog_17_method_3_code 4 = .ok (.iload_n 1, 1) := by decide +kernel
theorem d15_5 : decode prog_17_method_3_code 5 = .ok (.iaload, 1) := by decide +kernel
theorem d15_6 : decode prog_17_method_3_code 6 = .ok (.ireturn, 1) := by decide +kernel
abbrev mn13 : MethodName := ⟨"com/example/hard_delay_bounds/harddelaybounds/analysis/FlowSet", "number", "(I)I"⟩
theorem ef_15 (m : MethodId) (x0 : Addr) (x1 : Int32) : entryFrame m #[(.ref x0), (.int x1)] 2 = mkF m 0 #[.val (.ref x0), .val (.int x1)] [] := by first | (simp [entryFrame, mkF, argsToLocals, Value.category]; done) | rfl
set_option maxRecDepth 65536 in
set_option maxHeartbeats 40000000 in
theorem rm15_any (l : Launch) (Z : State) (a0 : Array Value) (hw : HW a0 Z) (ws : List Jvm.Cond) (a1 : Addr) (p2 : Int32) (aB : Addr) (kB : ClassId) (z : Int32) (vs : List Value) (x : Int32) (h0 : Heap) (n0 : Nat) (Z0 : n0 ≤ h0.size) (i1 : ¬ p2 < 0) (i2 : p2 < z) (i3 : vs.getD p2.toNatClampNeg (.int (0 : Int32)) = .int x) (F_numbers_a1 : Fld Z h0 a1 "com/example/hard_delay_bounds/harddelaybounds/analysis/FlowSet" "numbers" "[I" (.ref aB)) (V_aB : Arv Z h0 aB kB .int z vs (.int (0 : Int32))) :
    MF l mn13 prog_17_method_3_code 2 (some .int) ws ({ frames := 0, cells := 0, slots := 0, locals := 0 } : Room) #[(.ref a1), (.int p2)] Z h0 (QP (some (.int x)) h0 n0) := by
  refine MetFree.of_bodySF (plainFor_of_name pn_6) hisR ?_
  intro p e s m args below meth c s₁ Bd hml0 hP hK
  obtain ⟨rfl, hZ, hh⟩ := hP
  have hx := Bd.exec
  have hby := Bd.bytes
  have hml : c.maxLocals = 2 := hml0
  have hown : s.vm.findClass "com/example/hard_delay_bounds/harddelaybounds/analysis/FlowSet" = some m.cls := findClass_of_methodNamed Bd.named
  have hnm := (name_of_methodNamed Bd.named Bd.method).1
  have X0 : Stand p l e ({ frames := 0, cells := 0, slots := 0, locals := 0 } : Room) s m #[(.ref a1), (.int p2)] below meth c s₁ [] 0 0 := Stand.of_body Bd
  have e0 : s₁.heap = h0 := by rw [← hh, Bd.state]; rfl
  have N0 := Fr.nil n0
  have pre0 : GO p e below (s₁.setTop (mkF m 0 #[.val (.ref a1), .val (.int p2)] [])) (s₁.setTop (entryFrame m #[(.ref a1), (.int p2)] 2)) := fun t k => castTop (ef_15 m a1 p2) k
  obtain ⟨T147, X147, e147, st147⟩ := getF X0 hx hZ hown (host := "") (Or.inl (ww hw 43 rfl)) Via.refl e0 F_numbers_a1 (g := (mkF m 1 #[.val (.ref a1), .val (.int p2)] [(.ref a1)])) rfl rfl (hb hby d15_1)
  obtain ⟨cl148, Ar148, q148, Sz148, Nn148, Hh148, Gg148⟩ := id V_aB
  have hin148 : ¬ (p2 < 0 ∨ cl148.slots.size ≤ (p2).toNatClampNeg) := inb_of Sz148 ⟨i1, i2⟩
  have hat148 : cl148.slots[(p2).toNatClampNeg]? = some (.int x) := Hh148.at hin148 i3
  obtain ⟨fs, hr, hrun, hended, hW, hsame⟩ := X147.leave (v := some (.int x)) (fun h => by rw [Bd.returns] at h; cases h)
  refine ⟨_, _, pre0 _ ?_, hrun, hended, _, _, rfl, ?_, ⟨_, rfl⟩, hW, hsame.mono (by decide) (by decide)⟩
  · refine y_aloadN X0 hx hby d15_0 rfl rfl ?_
    refine st147 _ ?_
    show Steps p.tables e below (T147.setTop (mkF m 4 #[.val (.ref a1), .val (.int p2)] [(.ref aB)])) _
    refine y_iloadN X147 hx hby d15_4 rfl ?_
    refine X147.iaload hx (j := p2) (v := (.int x)) (by rw [e147]; exact Ar148.1) (State.isArrayOf_alike hZ.alike Ar148.2.1) Ar148.2.2 hin148 hat148 (g := (mkF m 5 #[.val (.ref a1), .val (.int p2)] [(.int p2), (.ref aB)])) rfl rfl (hb hby d15_5) _ ?_
    show Steps p.tables e below (T147.setTop (mkF m 6 #[.val (.ref a1), .val (.int p2)] [(.int x)])) _
    exact retI X147 hx Bd.returns (hb hby d15_6) hr
  · show QP _ h0 n0 _ T147.heap _
    rw [e147]
    exact ⟨rfl, N0, rfl⟩
def nu_1 (p2 x0 : Int32) : Int32 := x0
theorem own_nuget_1 {p2 x0 : Int32} (hp : p2 = (0 : Int32)) : ¬ p2 < 0 ∧ p2 < (1 : Int32) ∧ ([(.int x0)] : List Value).getD p2.toNatClampNeg (.int (0 : Int32)) = .int (nu_1 p2 x0) := by
  rcases hp with rfl <;> exact ⟨by decide, by decide, rfl⟩
set_option maxRecDepth 65536 in
set_option maxHeartbeats 40000000 in
theorem rm5_4_2_2 (l : Launch) (Z : State) (a0 : Array Value) (hw : HW a0 Z) (ws : List Jvm.Cond) (a1 : Addr) (k1 : ClassId) (x0 x1 : Int32) (h0 : Heap) (n0 : Nat) (Z0 : n0 ≤ h0.size) (E_a1 : Exa Z h0 a1 "[I") (V_a1 : Arv Z h0 a1 k1 .int (4 : Int32) [(.int x0), (.int x1), (.int (0 : Int32)), (.int (0 : Int32))] (.int (0 : Int32))) :
    MF l mn5 jdk_65_method_123_code 3 (some (.array .int)) ws ({ frames := 1, cells := 1, slots := 2, locals := 18 } : Room) #[(.ref a1), (.int (2 : Int32))] Z h0 (QC Z (2 : Int32) [(.int x0), (.int x1)] h0 n0) := by
  refine MetFree.of_bodySF (plainFor_of_name pn_5) hisR ?_
  intro p e s m args below meth c s₁ Bd hml0 hP hK
  obtain ⟨rfl, hZ, hh⟩ := hP
  have hx := Bd.exec
  have hby := Bd.bytes
  have hml : c.maxLocals = 3 := hml0
  have hown : s.vm.findClass "java/util/Arrays" = some m.cls := findClass_of_methodNamed Bd.named
  have hnm := (name_of_methodNamed Bd.named Bd.method).1
  have X0 : Stand p l e ({ frames := 1, cells := 1, slots := 2, locals := 18 } : Room) s m #[(.ref a1), (.int (2 : Int32))] below meth c s₁ [] 0 0 := Stand.of_body Bd
  have e0 : s₁.heap = h0 := by rw [← hh, Bd.state]; rfl
  have N0 := Fr.nil n0
  have pre0 : GO p e below (s₁.setTop (mkF m 0 #[.val (.ref a1), .val (.int (2 : Int32)), .unset] [])) (s₁.setTop (entryFrame m #[(.ref a1), (.int (2 : Int32))] 3)) := fun t k => castTop (ef_5 m a1 (2 : Int32)) k
  have KK := Keep.refl h0 []
  obtain ⟨cl149, Ar149, q149, Sz149, Nn149, Hh149, Gg149⟩ := id V_a1
  obtain ⟨T150, h150, k150, X150, e150, E150, A150, Ex150, st150⟩ := newPE X0 hx hZ (ww hw 17 rfl) e0 (g := (mkF m 15 #[.val (.ref a1), .val (.int (2 : Int32)), .unset] [(.int (2 : Int32))])) rfl (hb hby d5_15) rfl (by decide) (cap := 2) (by decide) (by decide) (by decide) (by decide) (ad := "[I") (by first | rfl | decide)
  obtain ⟨b150, g150⟩ : ∃ z, z = h0.size := ⟨_, rfl⟩
  rw [← g150] at A150 Ex150 st150
  have g_b150 : n0 ≤ b150 := Nat.le_trans Z0 (Nat.le_of_eq g150.symm)
  have sz_b150 : h0.size ≤ b150 := Nat.le_trans KK.1 (Nat.le_of_eq g150.symm)
  have ne_a1_b150 : a1 ≠ b150 := Nat.ne_of_lt (Nat.lt_of_lt_of_le E_a1.lt (Nat.le_of_eq g150.symm))
  replace E_a1 := E_a1.ext E150
  replace V_a1 := V_a1.ext E150
  replace Z0 := Nat.le_trans Z0 E150.1
  replace KK := KK.ext E150
  have V_b150 : Arv Z h150 b150 k150 .int (2 : Int32) [(.int (0 : Int32)), (.int (0 : Int32))] (.int (0 : Int32)) := (Arv.new A150 (by decide)).pad (pad_rep [] (.int (0 : Int32)) 2)
  have E_b150 : Exa Z h150 b150 "[I" := Ex150
  obtain ⟨cl151, Ar151, q151, Sz151, Nn151, Hh151, Gg151⟩ := id V_a1
  obtain ⟨_, _, ⟨T152, L152, k152, n152⟩, -, X152, ⟨Lc152, hQ152, l152, y152, z152⟩, st152⟩ := Jvm.LawKit.callS X150 hx (y := mn0) hown (mvT hZ (ww hw 34 rfl)) (mvT hZ (ww hw 5 rfl)) (mvT hZ (ww hw 6 rfl)) (mvT hZ (ww hw 7 rfl)) (by decide) (backOf (W := 4) (rm1 l Z a0 hw [] (4 : Int32) (2 : Int32) h150 n0 Z0) hZ (ww hw 7 rfl) (ww hw 6 rfl) (by decide) (by decide)) (g := (mkF m 25 #[.val (.ref a1), .val (.int (2 : Int32)), .val (.ref b150)] [(.int (2 : Int32)), (.int (4 : Int32)), (.int (0 : Int32)), (.ref b150), (.int (0 : Int32)), (.ref a1)])) rfl (by rw [hml]; rfl) (argsL := [(.int (4 : Int32)), (.int (2 : Int32))]) (rest := [(.int (0 : Int32)), (.ref b150), (.int (0 : Int32)), (.ref a1)]) (lenOf pd_0 rfl) rfl (by show 2 * 0 + _ ≤ _; exact Nat.le_of_eq rfl) (hb hby d5_25) (fun _ _ => ⟨rfl, e150, (by decide : 1 + 0 ≤ _), (by decide : 2 + 0 ≤ _)⟩)
  dsimp only [Pt.U, Pt.locs, Pt.cells, Pt.slots] at X152 l152 y152 z152 st152 hQ152
  subst l152 y152 z152
  obtain ⟨rfl, N152q, e152⟩ := hQ152
  rw [show f1 (4 : Int32) (2 : Int32) = (2 : Int32) from by decide] at st152
  have N152 := Fr.app N0 N152q
  obtain ⟨T153, h153, L153, X153, e153, N153, K153, Vn153, st153⟩ := cpA X152 hx hZ hown (ww hw 35 rfl) (ww hw 38 rfl) (ww hw 36 rfl) (ww hw 37 rfl) e152 (us := [(.int x0), (.int x1)]) V_a1 V_b150 (Or.inl ⟨rfl, rfl⟩) (by decide) (by decide) (by decide) (by decide) (by decide) rfl (by decide) N152 g_b150 (g := (mkF m 28 #[.val (.ref a1), .val (.int (2 : Int32)), .val (.ref b150)] [(.int (2 : Int32)), (.int (0 : Int32)), (.ref b150), (.int (0 : Int32)), (.ref a1)])) rfl (by rw [hml]; rfl) rfl (hb hby d5_28) (by decide) (W := 0) (by show 2 * 0 + _ ≤ _; exact Nat.le_of_eq rfl) (by decide)
  replace E_a1 := E_a1.keep K153
  replace V_a1 := V_a1.keep K153 (ninS ne_a1_b150 nin0)
  replace E_b150 := E_b150.keep K153
  replace Z0 := Nat.le_trans Z0 K153.1
  replace KK := KK.trans K153 (allS (Or.inr sz_b150) all0)
  have V_b150 : Arv Z h153 b150 k150 .int (2 : Int32) [(.int x0), (.int x1)] (.int (0 : Int32)) := Vn153
  obtain ⟨fs, hr, hrun, hended, hW, hsame⟩ := X153.leave (v := some (.ref b150)) (fun h => by rw [Bd.returns] at h; cases h)
  refine ⟨_, _, pre0 _ ?_, hrun, hended, _, _, rfl, ?_, ⟨_, rfl⟩, hW, hsame.mono (by decide) (by decide)⟩
  · refine y_iloadN X0 hx hby d5_0 rfl ?_
    refine y_aloadN X0 hx hby d5_1 rfl rfl ?_
    refine X0.arraylength hx (by rw [e0]; exact Ar149.1) (State.isArrayOf_alike hZ.alike Ar149.2.1) (g := (mkF m 2 #[.val (.ref a1), .val (.int (2 : Int32)), .unset] [(.ref a1), (.int (2 : Int32))])) rfl rfl (hb hby d5_2) _ ?_
    rw [len_of Sz149 Nn149]
    show Steps p.tables e below (s₁.setTop (mkF m 3 #[.val (.ref a1), .val (.int (2 : Int32)), .unset] [(.int (4 : Int32)), (.int (2 : Int32))])) _
    refine y_icmpYes X0 hx hby (pc' := 14) d5_3 (feq (by decide)).2 (by decide) (by decide) ?_
    refine y_iloadN X0 hx hby d5_14 rfl ?_
    refine st150 _ ?_
    show Steps p.tables e below (T150.setTop (mkF m 17 #[.val (.ref a1), .val (.int (2 : Int32)), .unset] [(.ref b150)])) _
    refine y_astoreN X150 hx hby d5_17 rfl (l' := #[.val (.ref a1), .val (.int (2 : Int32)), .val (.ref b150)]) rfl ?_
    refine y_aloadN X150 hx hby d5_18 rfl rfl ?_
    refine y_iconst X150 hx hby (v := (0 : Int32)) d5_19 rfl ?_
    refine y_aloadN X150 hx hby d5_20 rfl rfl ?_
    refine y_iconst X150 hx hby (v := (0 : Int32)) d5_21 rfl ?_
    refine y_aloadN X150 hx hby d5_22 rfl rfl ?_
    refine X150.arraylength hx (by rw [e150]; exact Ar151.1) (State.isArrayOf_alike hZ.alike Ar151.2.1) (g := (mkF m 23 #[.val (.ref a1), .val (.int (2 : Int32)), .val (.ref b150)] [(.ref a1), (.int (0 : Int32)), (.ref b150), (.int (0 : Int32)), (.ref a1)])) rfl rfl (hb hby d5_23) _ ?_
    rw [len_of Sz151 Nn151]
    show Steps p.tables e below (T150.setTop (mkF m 24 #[.val (.ref a1), .val (.int (2 : Int32)), .val (.ref b150)] [(.int (4 : Int32)), (.int (0 : Int32)), (.ref b150), (.int (0 : Int32)), (.ref a1)])) _
    refine y_iloadN X150 hx hby d5_24 rfl ?_
    refine st152 _ ?_
    show Steps p.tables e below (T152.setTop (mkF m 28 #[.val (.ref a1), .val (.int (2 : Int32)), .val (.ref b150)] [(.int (2 : Int32)), (.int (0 : Int32)), (.ref b150), (.int (0 : Int32)), (.ref a1)])) _
    refine st153 _ ?_
    show Steps p.tables e below (T153.setTop (mkF m 31 #[.val (.ref a1), .val (.int (2 : Int32)), .val (.ref b150)] [])) _
    refine y_aloadN X153 hx hby d5_31 rfl rfl ?_
    show Steps p.tables e below (T153.setTop (mkF m 32 #[.val (.ref a1), .val (.int (2 : Int32)), .val (.ref b150)] [(.ref b150)])) _
    jvm_step X153.here [X153.here.top, hx, (hb hby d5_32), X153.method', Bd.returns, Value.isRef, FieldType.isReference]
    first | (intro acts; rw [hr _ acts rfl rfl rfl]) | rw [hr _ _ rfl rfl rfl]
    exact Steps.refl _
  · show QC Z (2 : Int32) [(.int x0), (.int x1)] h0 n0 _ T153.heap _
    rw [e153]
    exact ⟨b150, _, rfl, N153, KK, sz_b150, V_b150, E_b150⟩
set_option maxRecDepth 65536 in
set_option maxHeartbeats 40000000 in
theorem rm4_2 (l : Launch) (Z : State) (a0 : Array Value) (hw : HW a0 Z) (ws : List Jvm.Cond) (a1 aA : Addr) (kA : ClassId) (x0 x1 : Int32) (h0 : Heap) (n0 : Nat) (Z0 : n0 ≤ h0.size) (E_a1 : Exa Z h0 a1 "com/example/hard_delay_bounds/harddelaybounds/analysis/FlowSet$Builder") (F_numbers_a1 : Fld Z h0 a1 "com/example/hard_delay_bounds/harddelaybounds/analysis/FlowSet$Builder" "numbers" "[I" (.ref aA)) (F_size_a1 : Fld Z h0 a1 "com/example/hard_delay_bounds/harddelaybounds/analysis/FlowSet$Builder" "size" "I" (.int (2 : Int32))) (E_aA : Exa Z h0 aA "[I") (V_aA : Arv Z h0 aA kA .int (4 : Int32) [(.int x0), (.int x1), (.int (0 : Int32)), (.int (0 : Int32))] (.int (0 : Int32))) (ne_a1_aA : a1 ≠ aA) :
    MF l mn7 prog_18_method_3_code 1 (some (.object "com/example/hard_delay_bounds/harddelaybounds/analysis/FlowSet")) ws ({ frames := 2, cells := 2, slots := 4, locals := 34 } : Room) #[(.ref a1)] Z h0 (QS Z (2 : Int32) [(.int x0), (.int x1)] h0 n0) := by
  refine MetFree.of_bodySF (plainFor_of_name pn_2) hisR ?_
  intro p e s m args below meth c s₁ Bd hml0 hP hK
  obtain ⟨rfl, hZ, hh⟩ := hP
  have hx := Bd.exec
  have hby := Bd.bytes
  have hml : c.maxLocals = 1 := hml0
  have hown : s.vm.findClass "com/example/hard_delay_bounds/harddelaybounds/analysis/FlowSet$Builder" = some m.cls := findClass_of_methodNamed Bd.named
  have hnm := (name_of_methodNamed Bd.named Bd.method).1
  have X0 : Stand p l e ({ frames := 2, cells := 2, slots := 4, locals := 34 } : Room) s m #[(.ref a1)] below meth c s₁ [] 0 0 := Stand.of_body Bd
  have e0 : s₁.heap = h0 := by rw [← hh, Bd.state]; rfl
  have N0 := Fr.nil n0
  have pre0 : GO p e below (s₁.setTop (mkF m 0 #[.val (.ref a1)] [])) (s₁.setTop (entryFrame m #[(.ref a1)] 1)) := fun t k => castTop (ef_4 m a1) k
  have KK := Keep.refl h0 []
  obtain ⟨T154, h154, X154, e154, E154, A154, D154, -, st154⟩ := newO X0 hx hZ hown (ww hw 25 rfl) (ww hw 26 rfl) (ww hw 27 rfl) e0 (g := (mkF m 0 #[.val (.ref a1)] [])) rfl (hb hby d4_0) (by decide) (by decide)
  obtain ⟨b154, g154⟩ : ∃ z, z = h0.size := ⟨_, rfl⟩
  rw [← g154] at A154 D154 st154
  have g_b154 : n0 ≤ b154 := Nat.le_trans Z0 (Nat.le_of_eq g154.symm)
  have sz_b154 : h0.size ≤ b154 := Nat.le_trans KK.1 (Nat.le_of_eq g154.symm)
  have ne_a1_b154 : a1 ≠ b154 := Nat.ne_of_lt (Nat.lt_of_lt_of_le E_a1.lt (Nat.le_of_eq g154.symm))
  have ne_aA_b154 : aA ≠ b154 := Nat.ne_of_lt (Nat.lt_of_lt_of_le E_aA.lt (Nat.le_of_eq g154.symm))
  replace E_a1 := E_a1.ext E154
  replace F_numbers_a1 := F_numbers_a1.ext E154
  replace F_size_a1 := F_size_a1.ext E154
  replace E_aA := E_aA.ext E154
  replace V_aA := V_aA.ext E154
  replace Z0 := Nat.le_trans Z0 E154.1
  replace KK := KK.ext E154
  have E_b154 := A154
  have F_numbers_b154 : Fld Z h154 b154 "com/example/hard_delay_bounds/harddelaybounds/analysis/FlowSet" "numbers" "[I" .null := D154 (Or.inr (ww hw 44 rfl)) (ty := (.array .int)) (by decide)
  have F_hash_b154 : Fld Z h154 b154 "com/example/hard_delay_bounds/harddelaybounds/analysis/FlowSet" "hash" "I" (.int (0 : Int32)) := D154 (Or.inr (ww hw 46 rfl)) (ty := .int) (by decide)
  obtain ⟨T155, X155, e155, st155⟩ := getF X154 hx hZ hown (host := "") (Or.inl (ww hw 18 rfl)) Via.refl e154 F_numbers_a1 (g := (mkF m 5 #[.val (.ref a1)] [(.ref a1), (.ref b154), (.ref b154)])) rfl rfl (hb hby d4_5)
  obtain ⟨T156, X156, e156, st156⟩ := getF X155 hx hZ hown (host := "") (Or.inl (ww hw 28 rfl)) Via.refl e155 F_size_a1 (g := (mkF m 9 #[.val (.ref a1)] [(.ref a1), (.ref aA), (.ref b154), (.ref b154)])) rfl rfl (hb hby d4_9)
  obtain ⟨_, _, ⟨T157, L157, k157, n157⟩, -, X157, ⟨Lc157, hQ157, l157, y157, z157⟩, st157⟩ := Jvm.LawKit.callS X156 hx (y := mn5) hown (mvT hZ (ww hw 30 rfl)) (mvT hZ (ww hw 31 rfl)) (mvT hZ (ww hw 32 rfl)) (mvT hZ (ww hw 33 rfl)) (by decide) (backOf (W := 2) (rm5_4_2_2 l Z a0 hw [] aA kA x0 x1 h154 n0 Z0 E_aA V_aA) hZ (ww hw 33 rfl) (ww hw 32 rfl) (by decide) (by decide)) (g := (mkF m 12 #[.val (.ref a1)] [(.int (2 : Int32)), (.ref aA), (.ref b154), (.ref b154)])) rfl (by rw [hml]; rfl) (argsL := [(.ref aA), (.int (2 : Int32))]) (rest := [(.ref b154), (.ref b154)]) (lenOf pd_1 rfl) rfl (by show 2 * 0 + _ ≤ _; exact Nat.le_of_eq rfl) (hb hby d4_12) (fun _ _ => ⟨rfl, e156, (by decide : 1 + 1 ≤ _), (by decide : 2 + 2 ≤ _)⟩)
  dsimp only [Pt.U, Pt.locs, Pt.cells, Pt.slots] at X157 l157 y157 z157 st157 hQ157
  subst l157 y157 z157
  obtain ⟨h157, e157⟩ : ∃ z, T157.heap = z := ⟨_, rfl⟩
  rw [e157] at hQ157
  obtain ⟨b157, k157, rfl, N157q, K157, s157, Vn157, En157⟩ := hQ157
  have g_b157 : n0 ≤ b157 := Nat.le_trans Z0 s157
  have sz_b157 : h0.size ≤ b157 := Nat.le_trans KK.1 s157
  have ne_a1_b157 : a1 ≠ b157 := Nat.ne_of_lt (Nat.lt_of_lt_of_le E_a1.lt s157)
  have ne_aA_b157 : aA ≠ b157 := Nat.ne_of_lt (Nat.lt_of_lt_of_le E_aA.lt s157)
  have ne_b154_b157 : b154 ≠ b157 := Nat.ne_of_lt (Nat.lt_of_lt_of_le E_b154.lt s157)
  replace E_a1 := E_a1.keep K157
  replace F_numbers_a1 := F_numbers_a1.keep K157 nin0
  replace F_size_a1 := F_size_a1.keep K157 nin0
  replace E_aA := E_aA.keep K157
  replace V_aA := V_aA.keep K157 nin0
  replace E_b154 := E_b154.keep K157
  replace F_numbers_b154 := F_numbers_b154.keep K157 nin0
  replace F_hash_b154 := F_hash_b154.keep K157 nin0
  replace Z0 := Nat.le_trans Z0 K157.1
  replace KK := KK.trans K157 all0
  have V_b157 : Arv Z h157 b157 k157 .int (2 : Int32) [(.int x0), (.int x1)] (.int (0 : Int32)) := Vn157
  have E_b157 := En157
  have N157 := Fr.app N0 N157q
  obtain ⟨_, _, ⟨T158, L158, k158, n158⟩, -, X158, ⟨Lc158, hQ158, l158, y158, z158⟩, st158⟩ := X157.specialBackNest hx (y := mn6) rfl hown (own_mvMN hZ (ww hw 39 rfl)) (mvT hZ (ww hw 40 rfl)) (mvT hZ (ww hw 41 rfl)) (by decide) (backOf (W := 1) (rm6 l Z a0 hw [] b154 b157 k157 _ _ h157 n0 Z0 E_b154 F_numbers_b154 F_hash_b154 V_b157 g_b154 ne_b154_b157) hZ (ww hw 41 rfl) (ww hw 27 rfl) (by decide) (by decide)) (g := (mkF m 15 #[.val (.ref a1)] [(.ref b157), (.ref b154), (.ref b154)])) rfl (by rw [hml]; rfl) (Steps.refl _) (a := b154) (argsL := [(.ref b157)]) (rest := [(.ref b154)]) (lenOf pd_2 rfl) rfl (by show 2 * 0 + _ ≤ _; exact Nat.le_of_eq rfl) (hb hby d4_15) (fun _ _ => ⟨rfl, e157, (by decide : 2 + 0 ≤ _), (by decide : 4 + 0 ≤ _)⟩)
  dsimp only [Pt.U, Pt.locs, Pt.cells, Pt.slots] at X158 l158 y158 z158 st158 hQ158
  subst l158 y158 z158
  obtain ⟨h158, e158⟩ : ∃ z, T158.heap = z := ⟨_, rfl⟩
  rw [e158] at hQ158
  obtain ⟨rfl, N158q, K158, Fn158⟩ := hQ158
  replace E_a1 := E_a1.keep K158
  replace F_numbers_a1 := F_numbers_a1.keep K158 (ninS ne_a1_b154 nin0)
  replace F_size_a1 := F_size_a1.keep K158 (ninS ne_a1_b154 nin0)
  replace E_aA := E_aA.keep K158
  replace V_aA := V_aA.keep K158 (ninS ne_aA_b154 nin0)
  replace E_b154 := E_b154.keep K158
  replace V_b157 := V_b157.keep K158 (ninS (Ne.symm ne_b154_b157) nin0)
  replace E_b157 := E_b157.keep K158
  replace Z0 := Nat.le_trans Z0 K158.1
  replace KK := KK.trans K158 (allS (Or.inr sz_b154) all0)
  have F_numbers_b154 := Fn158
  have N158 := Fr.app N157 N158q
  obtain ⟨fs, hr, hrun, hended, hW, hsame⟩ := X158.leave (v := some (.ref b154)) (fun h => by rw [Bd.returns] at h; cases h)
  refine ⟨_, _, pre0 _ ?_, hrun, hended, _, _, rfl, ?_, ⟨_, rfl⟩, hW, hsame.mono (by decide) (by decide)⟩
  · refine st154 _ ?_
    show Steps p.tables e below (T154.setTop (mkF m 3 #[.val (.ref a1)] [(.ref b154)])) _
    refine y_dup X154 hx hby d4_3 rfl ?_
    refine y_aloadN X154 hx hby d4_4 rfl rfl ?_
    refine st155 _ ?_
    show Steps p.tables e below (T155.setTop (mkF m 8 #[.val (.ref a1)] [(.ref aA), (.ref b154), (.ref b154)])) _
    refine y_aloadN X155 hx hby d4_8 rfl rfl ?_
    refine st156 _ ?_
    show Steps p.tables e below (T156.setTop (mkF m 12 #[.val (.ref a1)] [(.int (2 : Int32)), (.ref aA), (.ref b154), (.ref b154)])) _
    refine st157 _ ?_
    show Steps p.tables e below (T157.setTop (mkF m 15 #[.val (.ref a1)] [(.ref b157), (.ref b154), (.ref b154)])) _
    refine st158.trans ?_
    show Steps p.tables e below (T158.setTop (mkF m 18 #[.val (.ref a1)] [(.ref b154)])) _
    jvm_step X158.here [X158.here.top, hx, (hb hby d4_18), X158.method', Bd.returns, Value.isRef, FieldType.isReference]
    first | (intro acts; rw [hr _ acts rfl rfl rfl]) | rw [hr _ _ rfl rfl rfl]
    exact Steps.refl _
  · show QS Z (2 : Int32) [(.int x0), (.int x1)] h0 n0 _ T158.heap _
    rw [e158]
    exact ⟨b154, b157, _, rfl, N158, KK, sz_b154, sz_b157, E_b154, F_numbers_b154, V_b157⟩
set_option maxRecDepth 65536 in
set_option maxHeartbeats 40000000 in
theorem rm7_2 (l : Launch) (Z : State) (a0 : Array Value) (hw : HW a0 Z) (ws : List Jvm.Cond) (a1 aB : Addr) (kB : ClassId) (x0 x1 : Int32) (h0 : Heap) (n0 : Nat) (Z0 : n0 ≤ h0.size) (F_numbers_a1 : Fld Z h0 a1 "com/example/hard_delay_bounds/harddelaybounds/analysis/FlowSet" "numbers" "[I" (.ref aB)) (V_aB : Arv Z h0 aB kB .int (2 : Int32) [(.int x0), (.int x1)] (.int (0 : Int32))) :
    MF l mn8 prog_17_method_2_code 1 (some .int) ws ({ frames := 0, cells := 0, slots := 0, locals := 0 } : Room) #[(.ref a1)] Z h0 (QP (some (.int (2 : Int32))) h0 n0) := by
  refine MetFree.of_bodySF (plainFor_of_name pn_6) hisR ?_
  intro p e s m args below meth c s₁ Bd hml0 hP hK
  obtain ⟨rfl, hZ, hh⟩ := hP
  have hx := Bd.exec
  have hby := Bd.bytes
  have hml : c.maxLocals = 1 := hml0
  have hown : s.vm.findClass "com/example/hard_delay_bounds/harddelaybounds/analysis/FlowSet" = some m.cls := findClass_of_methodNamed Bd.named
  have hnm := (name_of_methodNamed Bd.named Bd.method).1
  have X0 : Stand p l e ({ frames := 0, cells := 0, slots := 0, locals := 0 } : Room) s m #[(.ref a1)] below meth c s₁ [] 0 0 := Stand.of_body Bd
  have e0 : s₁.heap = h0 := by rw [← hh, Bd.state]; rfl
  have N0 := Fr.nil n0
  have pre0 : GO p e below (s₁.setTop (mkF m 0 #[.val (.ref a1)] [])) (s₁.setTop (entryFrame m #[(.ref a1)] 1)) := fun t k => castTop (ef_7 m a1) k
  obtain ⟨T159, X159, e159, st159⟩ := getF X0 hx hZ hown (host := "") (Or.inl (ww hw 43 rfl)) Via.refl e0 F_numbers_a1 (g := (mkF m 1 #[.val (.ref a1)] [(.ref a1)])) rfl rfl (hb hby d7_1)
  obtain ⟨cl160, Ar160, q160, Sz160, Nn160, Hh160, Gg160⟩ := id V_aB
  obtain ⟨fs, hr, hrun, hended, hW, hsame⟩ := X159.leave (v := some (.int (2 : Int32))) (fun h => by rw [Bd.returns] at h; cases h)
  refine ⟨_, _, pre0 _ ?_, hrun, hended, _, _, rfl, ?_, ⟨_, rfl⟩, hW, hsame.mono (by decide) (by decide)⟩
  · refine y_aloadN X0 hx hby d7_0 rfl rfl ?_
    refine st159 _ ?_
    show Steps p.tables e below (T159.setTop (mkF m 4 #[.val (.ref a1)] [(.ref aB)])) _
    refine X159.arraylength hx (by rw [e159]; exact Ar160.1) (State.isArrayOf_alike hZ.alike Ar160.2.1) (g := (mkF m 4 #[.val (.ref a1)] [(.ref aB)])) rfl rfl (hb hby d7_4) _ ?_
    rw [len_of Sz160 Nn160]
    show Steps p.tables e below (T159.setTop (mkF m 5 #[.val (.ref a1)] [(.int (2 : Int32))])) _
    exact retI X159 hx Bd.returns (hb hby d7_5) hr
  · show QP _ h0 n0 _ T159.heap _
    rw [e159]
    exact ⟨rfl, N0, rfl⟩
abbrev lo13_2_0 (a1 : Addr) (p4 : Int32) : Array Slot := #[.val (.ref a1), .val (.int (0 : Int32)), .val (.int (2 : Int32)), .val (.int p4), .val (.int (0 : Int32)), .unset, .unset, .unset]
abbrev lo13_2_1 (a1 : Addr) (p4 : Int32) : Array Slot := #[.val (.ref a1), .val (.int (0 : Int32)), .val (.int (2 : Int32)), .val (.int p4), .val (.int (0 : Int32)), .val (.int (1 : Int32)), .unset, .unset]
abbrev lo13_2_2 (a1 : Addr) (p4 : Int32) : Array Slot := #[.val (.ref a1), .val (.int (0 : Int32)), .val (.int (2 : Int32)), .val (.int p4), .val (.int (0 : Int32)), .val (.int (1 : Int32)), .val (.int (0 : Int32)), .unset]
abbrev lo13_2_3 (a1 : Addr) (p4 x0 : Int32) : Array Slot := #[.val (.ref a1), .val (.int (0 : Int32)), .val (.int (2 : Int32)), .val (.int p4), .val (.int (0 : Int32)), .val (.int (1 : Int32)), .val (.int (0 : Int32)), .val (.int x0)]
abbrev lo13_2_4 (a1 : Addr) (p4 x0 : Int32) : Array Slot := #[.val (.ref a1), .val (.int (0 : Int32)), .val (.int (2 : Int32)), .val (.int p4), .val (.int (1 : Int32)), .val (.int (1 : Int32)), .val (.int (0 : Int32)), .val (.int x0)]
abbrev lo13_2_5 (a1 : Addr) (p4 x0 : Int32) : Array Slot := #[.val (.ref a1), .val (.int (0 : Int32)), .val (.int (2 : Int32)), .val (.int p4), .val (.int (1 : Int32)), .val (.int (1 : Int32)), .val (.int (1 : Int32)), .val (.int x0)]
abbrev lo13_2_6 (a1 : Addr) (p4 x1 : Int32) : Array Slot := #[.val (.ref a1), .val (.int (0 : Int32)), .val (.int (2 : Int32)), .val (.int p4), .val (.int (1 : Int32)), .val (.int (1 : Int32)), .val (.int (1 : Int32)), .val (.int x1)]
abbrev lo13_2_7 (a1 : Addr) (p4 x1 : Int32) : Array Slot := #[.val (.ref a1), .val (.int (0 : Int32)), .val (.int (2 : Int32)), .val (.int p4), .val (.int (2 : Int32)), .val (.int (1 : Int32)), .val (.int (1 : Int32)), .val (.int x1)]
abbrev lo13_2_8 (a1 : Addr) (p4 x1 : Int32) : Array Slot := #[.val (.ref a1), .val (.int (0 : Int32)), .val (.int (2 : Int32)), .val (.int p4), .val (.int (1 : Int32)), .val (.int (0 : Int32)), .val (.int (1 : Int32)), .val (.int x1)]
abbrev lo13_2_9 (a1 : Addr) (p4 x0 : Int32) : Array Slot := #[.val (.ref a1), .val (.int (0 : Int32)), .val (.int (2 : Int32)), .val (.int p4), .val (.int (0 : Int32)), .val (.int (-1 : Int32)), .val (.int (0 : Int32)), .val (.int x0)]
def f13_2 (a1 : Addr) (p4 : Int32) (k1 : ClassId) (x0 x1 : Int32) : Int32 := (if x0 < p4 then (if x1 < p4 then (-3 : Int32) else (if p4 < x1 then (-2 : Int32) else (1 : Int32))) else (if p4 < x0 then (-1 : Int32) else (0 : Int32)))
set_option maxRecDepth 65536 in
set_option maxHeartbeats 40000000 in
theorem rm13_2 (l : Launch) (Z : State) (a0 : Array Value) (hw : HW a0 Z) (ws : List Jvm.Cond) (a1 : Addr) (p4 : Int32) (k1 : ClassId) (x0 x1 : Int32) (h0 : Heap) (n0 : Nat) (Z0 : n0 ≤ h0.size) (V_a1 : Arv Z h0 a1 k1 .int (2 : Int32) [(.int x0), (.int x1)] (.int (0 : Int32))) :
    MF l mn9 jdk_65_method_59_code 8 (some .int) ws ({ frames := 0, cells := 0, slots := 0, locals := 0 } : Room) #[(.ref a1), (.int (0 : Int32)), (.int (2 : Int32)), (.int p4)] Z h0 (QP (some (.int (f13_2 a1 p4 k1 x0 x1))) h0 n0) := by
  refine MetFree.of_bodySF (plainFor_of_name pn_5) hisR ?_
  intro p e s m args below meth c s₁ Bd hml0 hP hK
  obtain ⟨rfl, hZ, hh⟩ := hP
  have hx := Bd.exec
  have hby := Bd.bytes
  have hml : c.maxLocals = 8 := hml0
  have hown : s.vm.findClass "java/util/Arrays" = some m.cls := findClass_of_methodNamed Bd.named
  have hnm := (name_of_methodNamed Bd.named Bd.method).1
  have X0 : Stand p l e ({ frames := 0, cells := 0, slots := 0, locals := 0 } : Room) s m #[(.ref a1), (.int (0 : Int32)), (.int (2 : Int32)), (.int p4)] below meth c s₁ [] 0 0 := Stand.of_body Bd
  have e0 : s₁.heap = h0 := by rw [← hh, Bd.state]; rfl
  have N0 := Fr.nil n0
  have pre0 : GO p e below (s₁.setTop (mkF m 0 #[.val (.ref a1), .val (.int (0 : Int32)), .val (.int (2 : Int32)), .val (.int p4), .unset, .unset, .unset, .unset] [])) (s₁.setTop (entryFrame m #[(.ref a1), (.int (0 : Int32)), (.int (2 : Int32)), (.int p4)] 8)) := fun t k => castTop (ef_13 m a1 (0 : Int32) (2 : Int32) p4) k
  obtain ⟨cl161, Ar161, q161, Sz161, Nn161, Hh161, Gg161⟩ := id V_a1
  have hin161 : ¬ ((0 : Int32) < 0 ∨ cl161.slots.size ≤ ((0 : Int32)).toNatClampNeg) := inb_of Sz161 ⟨by decide, by decide⟩
  have hat161 : cl161.slots[((0 : Int32)).toNatClampNeg]? = some (.int x0) := Hh161.at hin161 rfl
  have pre163 : GO p e below (s₁.setTop (mkF m 33 (lo13_2_3 a1 p4 x0) [(.int p4), (.int x0)])) (s₁.setTop (entryFrame m #[(.ref a1), (.int (0 : Int32)), (.int (2 : Int32)), (.int p4)] 8)) := fun t k => by
    refine pre0 _ ?_
    refine y_iloadN X0 hx hby d13_0 rfl ?_
    refine y_istore X0 hx hby d13_1 (l' := (lo13_2_0 a1 p4)) rfl ?_
    refine y_iloadN X0 hx hby d13_3 rfl ?_
    refine y_iconst X0 hx hby (v := (1 : Int32)) d13_4 rfl ?_
    refine y_isub X0 hx hby d13_5 ?_
    rw [show ((2 : Int32) - (1 : Int32)) = (1 : Int32) from by decide]
    refine y_istore X0 hx hby d13_6 (l' := (lo13_2_1 a1 p4)) rfl ?_
    refine y_iload X0 hx hby d13_8 rfl ?_
    refine y_iload X0 hx hby d13_10 rfl ?_
    refine y_icmpNo X0 hx hby d13_12 (flt (by decide)).2.2.1 ?_
    refine y_iload X0 hx hby d13_15 rfl ?_
    refine y_iload X0 hx hby d13_17 rfl ?_
    refine y_iadd X0 hx hby d13_19 ?_
    rw [show ((0 : Int32) + (1 : Int32)) = (1 : Int32) from by decide]
    refine y_iconst X0 hx hby (v := (1 : Int32)) d13_20 rfl ?_
    refine y_iushr X0 hx hby d13_21 ?_
    rw [show (((1 : Int32).toUInt32 >>> ((1 : Int32) &&& 31).toUInt32).toInt32) = (0 : Int32) from by decide]
    refine y_istore X0 hx hby d13_22 (l' := (lo13_2_2 a1 p4)) rfl ?_
    refine y_aloadN X0 hx hby d13_24 rfl rfl ?_
    refine y_iload X0 hx hby d13_25 rfl ?_
    refine X0.iaload hx (j := (0 : Int32)) (v := (.int x0)) (by rw [e0]; exact Ar161.1) (State.isArrayOf_alike hZ.alike Ar161.2.1) Ar161.2.2 hin161 hat161 (g := (mkF m 27 (lo13_2_2 a1 p4) [(.int (0 : Int32)), (.ref a1)])) rfl rfl (hb hby d13_27) _ ?_
    show Steps p.tables e below (s₁.setTop (mkF m 28 (lo13_2_2 a1 p4) [(.int x0)])) _
    refine y_istore X0 hx hby d13_28 (l' := (lo13_2_3 a1 p4 x0)) rfl ?_
    refine y_iload X0 hx hby d13_30 rfl ?_
    refine y_iloadN X0 hx hby d13_32 rfl ?_
    exact k
  by_cases hc162 : x0 < p4
  · obtain ⟨cl164, Ar164, q164, Sz164, Nn164, Hh164, Gg164⟩ := id V_a1
    have hin164 : ¬ ((1 : Int32) < 0 ∨ cl164.slots.size ≤ ((1 : Int32)).toNatClampNeg) := inb_of Sz164 ⟨by decide, by decide⟩
    have hat164 : cl164.slots[((1 : Int32)).toNatClampNeg]? = some (.int x1) := Hh164.at hin164 rfl
    have pre166 : GO p e below (s₁.setTop (mkF m 33 (lo13_2_6 a1 p4 x1) [(.int p4), (.int x1)])) (s₁.setTop (entryFrame m #[(.ref a1), (.int (0 : Int32)), (.int (2 : Int32)), (.int p4)] 8)) := fun t k => by
      refine pre163 _ ?_
      refine y_icmpNo X0 hx hby d13_33 (tlt hc162).2.1 ?_
      refine y_iload X0 hx hby d13_36 rfl ?_
      refine y_iconst X0 hx hby (v := (1 : Int32)) d13_38 rfl ?_
      refine y_iadd X0 hx hby d13_39 ?_
      rw [show ((0 : Int32) + (1 : Int32)) = (1 : Int32) from by decide]
      refine y_istore X0 hx hby d13_40 (l' := (lo13_2_4 a1 p4 x0)) rfl ?_
      refine y_goto X0 hx hby (pc' := 63) d13_42 (by decide) (by decide) ?_
      refine y_goto X0 hx hby (pc' := 8) d13_63 (by decide) (by decide) ?_
      refine y_iload X0 hx hby d13_8 rfl ?_
      refine y_iload X0 hx hby d13_10 rfl ?_
      refine y_icmpNo X0 hx hby d13_12 (flt (by decide)).2.2.1 ?_
      refine y_iload X0 hx hby d13_15 rfl ?_
      refine y_iload X0 hx hby d13_17 rfl ?_
      refine y_iadd X0 hx hby d13_19 ?_
      rw [show ((1 : Int32) + (1 : Int32)) = (2 : Int32) from by decide]
      refine y_iconst X0 hx hby (v := (1 : Int32)) d13_20 rfl ?_
      refine y_iushr X0 hx hby d13_21 ?_
      rw [show (((2 : Int32).toUInt32 >>> ((1 : Int32) &&& 31).toUInt32).toInt32) = (1 : Int32) from by decide]
      refine y_istore X0 hx hby d13_22 (l' := (lo13_2_5 a1 p4 x0)) rfl ?_
      refine y_aloadN X0 hx hby d13_24 rfl rfl ?_
      refine y_iload X0 hx hby d13_25 rfl ?_
      refine X0.iaload hx (j := (1 : Int32)) (v := (.int x1)) (by rw [e0]; exact Ar164.1) (State.isArrayOf_alike hZ.alike Ar164.2.1) Ar164.2.2 hin164 hat164 (g := (mkF m 27 (lo13_2_5 a1 p4 x0) [(.int (1 : Int32)), (.ref a1)])) rfl rfl (hb hby d13_27) _ ?_
      show Steps p.tables e below (s₁.setTop (mkF m 28 (lo13_2_5 a1 p4 x0) [(.int x1)])) _
      refine y_istore X0 hx hby d13_28 (l' := (lo13_2_6 a1 p4 x1)) rfl ?_
      refine y_iload X0 hx hby d13_30 rfl ?_
      refine y_iloadN X0 hx hby d13_32 rfl ?_
      exact k
    by_cases hc165 : x1 < p4
    · obtain ⟨fs, hr, hrun, hended, hW, hsame⟩ := X0.leave (v := some (.int (-3 : Int32))) (fun h => by rw [Bd.returns] at h; cases h)
      refine ⟨_, _, pre166 _ ?_, hrun, hended, _, _, rfl, ?_, ⟨_, rfl⟩, hW, hsame.mono (by decide) (by decide)⟩
      · refine y_icmpNo X0 hx hby d13_33 (tlt hc165).2.1 ?_
        refine y_iload X0 hx hby d13_36 rfl ?_
        refine y_iconst X0 hx hby (v := (1 : Int32)) d13_38 rfl ?_
        refine y_iadd X0 hx hby d13_39 ?_
        rw [show ((1 : Int32) + (1 : Int32)) = (2 : Int32) from by decide]
        refine y_istore X0 hx hby d13_40 (l' := (lo13_2_7 a1 p4 x1)) rfl ?_
        refine y_goto X0 hx hby (pc' := 63) d13_42 (by decide) (by decide) ?_
        refine y_goto X0 hx hby (pc' := 8) d13_63 (by decide) (by decide) ?_
        refine y_iload X0 hx hby d13_8 rfl ?_
        refine y_iload X0 hx hby d13_10 rfl ?_
        refine y_icmpYes X0 hx hby (pc' := 66) d13_12 (tlt (by decide)).2.2.1 (by decide) (by decide) ?_
        refine y_iload X0 hx hby d13_66 rfl ?_
        refine y_iconst X0 hx hby (v := (1 : Int32)) d13_68 rfl ?_
        refine y_iadd X0 hx hby d13_69 ?_
        rw [show ((2 : Int32) + (1 : Int32)) = (3 : Int32) from by decide]
        refine y_ineg X0 hx hby d13_70 ?_
        rw [show ((-(3 : Int32))) = (-3 : Int32) from by decide]
        exact retI X0 hx Bd.returns (hb hby d13_71) hr
      · show QP _ h0 n0 _ s₁.heap _
        rw [e0, show f13_2 a1 p4 k1 x0 x1 = (-3 : Int32) from by unfold f13_2; rw [if_pos hc162, if_pos hc165]]
        exact ⟨rfl, N0, rfl⟩
    · have pre168 : GO p e below (s₁.setTop (mkF m 48 (lo13_2_6 a1 p4 x1) [(.int p4), (.int x1)])) (s₁.setTop (entryFrame m #[(.ref a1), (.int (0 : Int32)), (.int (2 : Int32)), (.int p4)] 8)) := fun t k => by
        refine pre166 _ ?_
        refine y_icmpYes X0 hx hby (pc' := 45) d13_33 (flt hc165).2.1 (by decide) (by decide) ?_
        refine y_iload X0 hx hby d13_45 rfl ?_
        refine y_iloadN X0 hx hby d13_47 rfl ?_
        exact k
      by_cases hc167 : p4 < x1
      · obtain ⟨fs, hr, hrun, hended, hW, hsame⟩ := X0.leave (v := some (.int (-2 : Int32))) (fun h => by rw [Bd.returns] at h; cases h)
        refine ⟨_, _, pre168 _ ?_, hrun, hended, _, _, rfl, ?_, ⟨_, rfl⟩, hW, hsame.mono (by decide) (by decide)⟩
        · refine y_icmpNo X0 hx hby d13_48 (tlt hc167).2.2.2 ?_
          refine y_iload X0 hx hby d13_51 rfl ?_
          refine y_iconst X0 hx hby (v := (1 : Int32)) d13_53 rfl ?_
          refine y_isub X0 hx hby d13_54 ?_
          rw [show ((1 : Int32) - (1 : Int32)) = (0 : Int32) from by decide]
          refine y_istore X0 hx hby d13_55 (l' := (lo13_2_8 a1 p4 x1)) rfl ?_
          refine y_goto X0 hx hby (pc' := 63) d13_57 (by decide) (by decide) ?_
          refine y_goto X0 hx hby (pc' := 8) d13_63 (by decide) (by decide) ?_
          refine y_iload X0 hx hby d13_8 rfl ?_
          refine y_iload X0 hx hby d13_10 rfl ?_
          refine y_icmpYes X0 hx hby (pc' := 66) d13_12 (tlt (by decide)).2.2.1 (by decide) (by decide) ?_
          refine y_iload X0 hx hby d13_66 rfl ?_
          refine y_iconst X0 hx hby (v := (1 : Int32)) d13_68 rfl ?_
          refine y_iadd X0 hx hby d13_69 ?_
          rw [show ((1 : Int32) + (1 : Int32)) = (2 : Int32) from by decide]
          refine y_ineg X0 hx hby d13_70 ?_
          rw [show ((-(2 : Int32))) = (-2 : Int32) from by decide]
          exact retI X0 hx Bd.returns (hb hby d13_71) hr
        · show QP _ h0 n0 _ s₁.heap _
          rw [e0, show f13_2 a1 p4 k1 x0 x1 = (-2 : Int32) from by unfold f13_2; rw [if_pos hc162, if_neg hc165, if_pos hc167]]
          exact ⟨rfl, N0, rfl⟩
      · obtain ⟨fs, hr, hrun, hended, hW, hsame⟩ := X0.leave (v := some (.int (1 : Int32))) (fun h => by rw [Bd.returns] at h; cases h)
        refine ⟨_, _, pre168 _ ?_, hrun, hended, _, _, rfl, ?_, ⟨_, rfl⟩, hW, hsame.mono (by decide) (by decide)⟩
        · refine y_icmpYes X0 hx hby (pc' := 60) d13_48 (flt hc167).2.2.2 (by decide) (by decide) ?_
          refine y_iload X0 hx hby d13_60 rfl ?_
          exact retI X0 hx Bd.returns (hb hby d13_62) hr
        · show QP _ h0 n0 _ s₁.heap _
          rw [e0, show f13_2 a1 p4 k1 x0 x1 = (1 : Int32) from by unfold f13_2; rw [if_pos hc162, if_neg hc165, if_neg hc167]]
          exact ⟨rfl, N0, rfl⟩
  · have pre170 : GO p e below (s₁.setTop (mkF m 48 (lo13_2_3 a1 p4 x0) [(.int p4), (.int x0)])) (s₁.setTop (entryFrame m #[(.ref a1), (.int (0 : Int32)), (.int (2 : Int32)), (.int p4)] 8)) := fun t k => by
      refine pre163 _ ?_
      refine y_icmpYes X0 hx hby (pc' := 45) d13_33 (flt hc162).2.1 (by decide) (by decide) ?_
      refine y_iload X0 hx hby d13_45 rfl ?_
      refine y_iloadN X0 hx hby d13_47 rfl ?_
      exact k
    by_cases hc169 : p4 < x0
    · obtain ⟨fs, hr, hrun, hended, hW, hsame⟩ := X0.leave (v := some (.int (-1 : Int32))) (fun h => by rw [Bd.returns] at h; cases h)
      refine ⟨_, _, pre170 _ ?_, hrun, hended, _, _, rfl, ?_, ⟨_, rfl⟩, hW, hsame.mono (by decide) (by decide)⟩
      · refine y_icmpNo X0 hx hby d13_48 (tlt hc169).2.2.2 ?_
        refine y_iload X0 hx hby d13_51 rfl ?_
        refine y_iconst X0 hx hby (v := (1 : Int32)) d13_53 rfl ?_
        refine y_isub X0 hx hby d13_54 ?_
        rw [show ((0 : Int32) - (1 : Int32)) = (-1 : Int32) from by decide]
        refine y_istore X0 hx hby d13_55 (l' := (lo13_2_9 a1 p4 x0)) rfl ?_
        refine y_goto X0 hx hby (pc' := 63) d13_57 (by decide) (by decide) ?_
        refine y_goto X0 hx hby (pc' := 8) d13_63 (by decide) (by decide) ?_
        refine y_iload X0 hx hby d13_8 rfl ?_
        refine y_iload X0 hx hby d13_10 rfl ?_
        refine y_icmpYes X0 hx hby (pc' := 66) d13_12 (tlt (by decide)).2.2.1 (by decide) (by decide) ?_
        refine y_iload X0 hx hby d13_66 rfl ?_
        refine y_iconst X0 hx hby (v := (1 : Int32)) d13_68 rfl ?_
        refine y_iadd X0 hx hby d13_69 ?_
        rw [show ((0 : Int32) + (1 : Int32)) = (1 : Int32) from by decide]
        refine y_ineg X0 hx hby d13_70 ?_
        rw [show ((-(1 : Int32))) = (-1 : Int32) from by decide]
        exact retI X0 hx Bd.returns (hb hby d13_71) hr
      · show QP _ h0 n0 _ s₁.heap _
        rw [e0, show f13_2 a1 p4 k1 x0 x1 = (-1 : Int32) from by unfold f13_2; rw [if_neg hc162, if_pos hc169]]
        exact ⟨rfl, N0, rfl⟩
    · obtain ⟨fs, hr, hrun, hended, hW, hsame⟩ := X0.leave (v := some (.int (0 : Int32))) (fun h => by rw [Bd.returns] at h; cases h)
      refine ⟨_, _, pre170 _ ?_, hrun, hended, _, _, rfl, ?_, ⟨_, rfl⟩, hW, hsame.mono (by decide) (by decide)⟩
      · refine y_icmpYes X0 hx hby (pc' := 60) d13_48 (flt hc169).2.2.2 (by decide) (by decide) ?_
        refine y_iload X0 hx hby d13_60 rfl ?_
        exact retI X0 hx Bd.returns (hb hby d13_62) hr
      · show QP _ h0 n0 _ s₁.heap _
        rw [e0, show f13_2 a1 p4 k1 x0 x1 = (0 : Int32) from by unfold f13_2; rw [if_neg hc162, if_neg hc169]]
        exact ⟨rfl, N0, rfl⟩
abbrev bs_2 (p4 x0 x1 : Int32) : Int32 := f13_2 (0 : Addr) p4 (0 : ClassId) x0 x1
set_option maxRecDepth 65536 in
set_option maxHeartbeats 40000000 in
theorem rm12_2 (l : Launch) (Z : State) (a0 : Array Value) (hw : HW a0 Z) (ws : List Jvm.Cond) (a1 : Addr) (p2 : Int32) (k1 : ClassId) (x0 x1 : Int32) (h0 : Heap) (n0 : Nat) (Z0 : n0 ≤ h0.size) (V_a1 : Arv Z h0 a1 k1 .int (2 : Int32) [(.int x0), (.int x1)] (.int (0 : Int32))) :
    MF l mn10 jdk_65_method_57_code 2 (some .int) ws ({ frames := 1, cells := 0, slots := 0, locals := 19 } : Room) #[(.ref a1), (.int p2)] Z h0 (QP (some (.int (bs_2 p2 x0 x1))) h0 n0) := by
  refine MetFree.of_bodySF (plainFor_of_name pn_5) hisR ?_
  intro p e s m args below meth c s₁ Bd hml0 hP hK
  obtain ⟨rfl, hZ, hh⟩ := hP
  have hx := Bd.exec
  have hby := Bd.bytes
  have hml : c.maxLocals = 2 := hml0
  have hown : s.vm.findClass "java/util/Arrays" = some m.cls := findClass_of_methodNamed Bd.named
  have hnm := (name_of_methodNamed Bd.named Bd.method).1
  have X0 : Stand p l e ({ frames := 1, cells := 0, slots := 0, locals := 19 } : Room) s m #[(.ref a1), (.int p2)] below meth c s₁ [] 0 0 := Stand.of_body Bd
  have e0 : s₁.heap = h0 := by rw [← hh, Bd.state]; rfl
  have N0 := Fr.nil n0
  have pre0 : GO p e below (s₁.setTop (mkF m 0 #[.val (.ref a1), .val (.int p2)] [])) (s₁.setTop (entryFrame m #[(.ref a1), (.int p2)] 2)) := fun t k => castTop (ef_12 m a1 p2) k
  obtain ⟨cl171, Ar171, q171, Sz171, Nn171, Hh171, Gg171⟩ := id V_a1
  obtain ⟨_, _, ⟨T172, L172, k172, n172⟩, -, X172, ⟨Lc172, hQ172, l172, y172, z172⟩, st172⟩ := Jvm.LawKit.callS X0 hx (y := mn9) hown (mvT hZ (ww hw 72 rfl)) (mvT hZ (ww hw 73 rfl)) (mvT hZ (ww hw 32 rfl)) (mvT hZ (ww hw 74 rfl)) (by decide) (backOf (W := 0) (rm13_2 l Z a0 hw [] a1 p2 k1 x0 x1 h0 n0 Z0 V_a1) hZ (ww hw 74 rfl) (ww hw 32 rfl) (by decide) (by decide)) (g := (mkF m 5 #[.val (.ref a1), .val (.int p2)] [(.int p2), (.int (2 : Int32)), (.int (0 : Int32)), (.ref a1)])) rfl (by rw [hml]; rfl) (argsL := [(.ref a1), (.int (0 : Int32)), (.int (2 : Int32)), (.int p2)]) (rest := []) (lenOf pd_3 rfl) rfl (by show 2 * 0 + _ ≤ _; exact Nat.le_of_eq rfl) (hb hby d12_5) (fun _ _ => ⟨rfl, e0, (by decide : 0 + 0 ≤ _), (by decide : 0 + 0 ≤ _)⟩)
  dsimp only [Pt.U, Pt.locs, Pt.cells, Pt.slots] at X172 l172 y172 z172 st172 hQ172
  subst l172 y172 z172
  obtain ⟨rfl, N172q, e172⟩ := hQ172
  have N172 := Fr.app N0 N172q
  obtain ⟨fs, hr, hrun, hended, hW, hsame⟩ := X172.leave (v := some (.int (bs_2 p2 x0 x1))) (fun h => by rw [Bd.returns] at h; cases h)
  refine ⟨_, _, pre0 _ ?_, hrun, hended, _, _, rfl, ?_, ⟨_, rfl⟩, hW, hsame.mono (by decide) (by decide)⟩
  · refine y_aloadN X0 hx hby d12_0 rfl rfl ?_
    refine y_iconst X0 hx hby (v := (0 : Int32)) d12_1 rfl ?_
    refine y_aloadN X0 hx hby d12_2 rfl rfl ?_
    refine X0.arraylength hx (by rw [e0]; exact Ar171.1) (State.isArrayOf_alike hZ.alike Ar171.2.1) (g := (mkF m 3 #[.val (.ref a1), .val (.int p2)] [(.ref a1), (.int (0 : Int32)), (.ref a1)])) rfl rfl (hb hby d12_3) _ ?_
    rw [len_of Sz171 Nn171]
    show Steps p.tables e below (s₁.setTop (mkF m 4 #[.val (.ref a1), .val (.int p2)] [(.int (2 : Int32)), (.int (0 : Int32)), (.ref a1)])) _
    refine y_iloadN X0 hx hby d12_4 rfl ?_
    refine st172 _ ?_
    show Steps p.tables e below (T172.setTop (mkF m 8 #[.val (.ref a1), .val (.int p2)] [(.int (bs_2 p2 x0 x1))])) _
    exact retI X172 hx Bd.returns (hb hby d12_8) hr
  · show QP _ h0 n0 _ T172.heap _
    rw [e172]
    exact ⟨rfl, N172, rfl⟩
set_option maxRecDepth 65536 in
set_option maxHeartbeats 40000000 in
theorem rm11_2 (l : Launch) (Z : State) (a0 : Array Value) (hw : HW a0 Z) (ws : List Jvm.Cond) (a1 : Addr) (p2 : Int32) (aB : Addr) (kB : ClassId) (x0 x1 : Int32) (h0 : Heap) (n0 : Nat) (Z0 : n0 ≤ h0.size) (E_a1 : Exa Z h0 a1 "com/example/hard_delay_bounds/harddelaybounds/analysis/FlowSet") (F_numbers_a1 : Fld Z h0 a1 "com/example/hard_delay_bounds/harddelaybounds/analysis/FlowSet" "numbers" "[I" (.ref aB)) (V_aB : Arv Z h0 aB kB .int (2 : Int32) [(.int x0), (.int x1)] (.int (0 : Int32))) :
    MF l mn11 prog_17_method_4_code 2 (some .int) ws ({ frames := 2, cells := 0, slots := 0, locals := 32 } : Room) #[(.ref a1), (.int p2)] Z h0 (QP (some (.int (bs_2 p2 x0 x1))) h0 n0) := by
  refine MetFree.of_bodySF (plainFor_of_name pn_6) hisR ?_
  intro p e s m args below meth c s₁ Bd hml0 hP hK
  obtain ⟨rfl, hZ, hh⟩ := hP
  have hx := Bd.exec
  have hby := Bd.bytes
  have hml : c.maxLocals = 2 := hml0
  have hown : s.vm.findClass "com/example/hard_delay_bounds/harddelaybounds/analysis/FlowSet" = some m.cls := findClass_of_methodNamed Bd.named
  have hnm := (name_of_methodNamed Bd.named Bd.method).1
  have X0 : Stand p l e ({ frames := 2, cells := 0, slots := 0, locals := 32 } : Room) s m #[(.ref a1), (.int p2)] below meth c s₁ [] 0 0 := Stand.of_body Bd
  have e0 : s₁.heap = h0 := by rw [← hh, Bd.state]; rfl
  have N0 := Fr.nil n0
  have pre0 : GO p e below (s₁.setTop (mkF m 0 #[.val (.ref a1), .val (.int p2)] [])) (s₁.setTop (entryFrame m #[(.ref a1), (.int p2)] 2)) := fun t k => castTop (ef_11 m a1 p2) k
  obtain ⟨T173, X173, e173, st173⟩ := getF X0 hx hZ hown (host := "") (Or.inl (ww hw 43 rfl)) Via.refl e0 F_numbers_a1 (g := (mkF m 1 #[.val (.ref a1), .val (.int p2)] [(.ref a1)])) rfl rfl (hb hby d11_1)
  obtain ⟨_, _, ⟨T174, L174, k174, n174⟩, -, X174, ⟨Lc174, hQ174, l174, y174, z174⟩, st174⟩ := Jvm.LawKit.callS X173 hx (y := mn10) hown (mvT hZ (ww hw 69 rfl)) (mvT hZ (ww hw 70 rfl)) (mvT hZ (ww hw 32 rfl)) (mvT hZ (ww hw 71 rfl)) (by decide) (backOf (W := 0) (rm12_2 l Z a0 hw [] aB p2 kB x0 x1 h0 n0 Z0 V_aB) hZ (ww hw 71 rfl) (ww hw 32 rfl) (by decide) (by decide)) (g := (mkF m 5 #[.val (.ref a1), .val (.int p2)] [(.int p2), (.ref aB)])) rfl (by rw [hml]; rfl) (argsL := [(.ref aB), (.int p2)]) (rest := []) (lenOf pd_4 rfl) rfl (by show 2 * 0 + _ ≤ _; exact Nat.le_of_eq rfl) (hb hby d11_5) (fun _ _ => ⟨rfl, e173, (by decide : 0 + 0 ≤ _), (by decide : 0 + 0 ≤ _)⟩)
  dsimp only [Pt.U, Pt.locs, Pt.cells, Pt.slots] at X174 l174 y174 z174 st174 hQ174
  subst l174 y174 z174
  obtain ⟨rfl, N174q, e174⟩ := hQ174
  have N174 := Fr.app N0 N174q
  obtain ⟨fs, hr, hrun, hended, hW, hsame⟩ := X174.leave (v := some (.int (bs_2 p2 x0 x1))) (fun h => by rw [Bd.returns] at h; cases h)
  refine ⟨_, _, pre0 _ ?_, hrun, hended, _, _, rfl, ?_, ⟨_, rfl⟩, hW, hsame.mono (by decide) (by decide)⟩
  · refine y_aloadN X0 hx hby d11_0 rfl rfl ?_
    refine st173 _ ?_
    show Steps p.tables e below (T173.setTop (mkF m 4 #[.val (.ref a1), .val (.int p2)] [(.ref aB)])) _
    refine y_iloadN X173 hx hby d11_4 rfl ?_
    refine st174 _ ?_
    show Steps p.tables e below (T174.setTop (mkF m 8 #[.val (.ref a1), .val (.int p2)] [(.int (bs_2 p2 x0 x1))])) _
    exact retI X174 hx Bd.returns (hb hby d11_8) hr
  · show QP _ h0 n0 _ T174.heap _
    rw [e174]
    exact ⟨rfl, N174, rfl⟩
def f10_2 (a1 : Addr) (p2 : Int32) (aB : Addr) (kB : ClassId) (x0 x1 : Int32) : Int32 := (if (bs_2 p2 x0 x1) < (0 : Int32) then (0 : Int32) else (1 : Int32))
set_option maxRecDepth 65536 in
set_option maxHeartbeats 40000000 in
theorem rm10_2 (l : Launch) (Z : State) (a0 : Array Value) (hw : HW a0 Z) (ws : List Jvm.Cond) (a1 : Addr) (p2 : Int32) (aB : Addr) (kB : ClassId) (x0 x1 : Int32) (h0 : Heap) (n0 : Nat) (Z0 : n0 ≤ h0.size) (E_a1 : Exa Z h0 a1 "com/example/hard_delay_bounds/harddelaybounds/analysis/FlowSet") (F_numbers_a1 : Fld Z h0 a1 "com/example/hard_delay_bounds/harddelaybounds/analysis/FlowSet" "numbers" "[I" (.ref aB)) (V_aB : Arv Z h0 aB kB .int (2 : Int32) [(.int x0), (.int x1)] (.int (0 : Int32))) :
    MF l mn12 prog_17_method_5_code 2 (some .boolean) ws ({ frames := 3, cells := 0, slots := 0, locals := 45 } : Room) #[(.ref a1), (.int p2)] Z h0 (QP (some (.int (f10_2 a1 p2 aB kB x0 x1))) h0 n0) := by
  refine MetFree.of_bodySF (plainFor_of_name pn_6) hisR ?_
  intro p e s m args below meth c s₁ Bd hml0 hP hK
  obtain ⟨rfl, hZ, hh⟩ := hP
  have hx := Bd.exec
  have hby := Bd.bytes
  have hml : c.maxLocals = 2 := hml0
  have hown : s.vm.findClass "com/example/hard_delay_bounds/harddelaybounds/analysis/FlowSet" = some m.cls := findClass_of_methodNamed Bd.named
  have hnm := (name_of_methodNamed Bd.named Bd.method).1
  have X0 : Stand p l e ({ frames := 3, cells := 0, slots := 0, locals := 45 } : Room) s m #[(.ref a1), (.int p2)] below meth c s₁ [] 0 0 := Stand.of_body Bd
  have e0 : s₁.heap = h0 := by rw [← hh, Bd.state]; rfl
  have N0 := Fr.nil n0
  have pre0 : GO p e below (s₁.setTop (mkF m 0 #[.val (.ref a1), .val (.int p2)] [])) (s₁.setTop (entryFrame m #[(.ref a1), (.int p2)] 2)) := fun t k => castTop (ef_10 m a1 p2) k
  obtain ⟨cq175, kq175, q175a, q175b, q175c⟩ := isOf hZ e0 E_a1
  obtain ⟨_, _, ⟨T175, L175, k175, n175⟩, -, X175, ⟨Lc175, hQ175, l175, y175, z175⟩, st175⟩ := X0.virtualBack hx (y := mn11) (z := mn11) hown (mvT hZ (ww hw 64 rfl)) (mvT hZ (ww hw 65 rfl)) (notFace_of_selects (args := #[]) (mvT hZ (ww hw 67 rfl))) (mvT hZ (ww hw 67 rfl)) (mvT hZ (ww hw 66 rfl)) (by decide) (backOf (W := 0) (rm11_2 l Z a0 hw [] a1 p2 aB kB x0 x1 h0 n0 Z0 E_a1 F_numbers_a1 V_aB) hZ (ww hw 68 rfl) (ww hw 27 rfl) (by decide) (by decide)) q175a q175c (g := (mkF m 2 #[.val (.ref a1), .val (.int p2)] [(.int p2), (.ref a1)])) rfl (by rw [hml]; rfl) (Steps.refl _) (argsL := [(.int p2)]) (rest := []) (lenOf pd_5 rfl) rfl (by show 2 * 0 + _ ≤ _; exact Nat.le_of_eq rfl) (hb hby d10_2) (fun _ _ => ⟨rfl, e0, (by decide : 0 + 0 ≤ _), (by decide : 0 + 0 ≤ _)⟩)
  dsimp only [Pt.U, Pt.locs, Pt.cells, Pt.slots] at X175 l175 y175 z175 st175 hQ175
  subst l175 y175 z175
  obtain ⟨rfl, N175q, e175⟩ := hQ175
  have N175 := Fr.app N0 N175q
  have pre177 : GO p e below (T175.setTop (mkF m 5 #[.val (.ref a1), .val (.int p2)] [(.int (bs_2 p2 x0 x1))])) (s₁.setTop (entryFrame m #[(.ref a1), (.int p2)] 2)) := fun t k => by
    refine pre0 _ ?_
    refine y_aloadN X0 hx hby d10_0 rfl rfl ?_
    refine y_iloadN X0 hx hby d10_1 rfl ?_
    refine st175.trans ?_
    show Steps p.tables e below (T175.setTop (mkF m 5 #[.val (.ref a1), .val (.int p2)] [(.int (bs_2 p2 x0 x1))])) _
    exact k
  by_cases hc176 : (bs_2 p2 x0 x1) < (0 : Int32)
  · obtain ⟨fs, hr, hrun, hended, hW, hsame⟩ := X175.leave (v := some (.int (0 : Int32))) (fun h => by rw [Bd.returns] at h; cases h)
    refine ⟨_, _, pre177 _ ?_, hrun, hended, _, _, rfl, ?_, ⟨_, rfl⟩, hW, hsame.mono (by decide) (by decide)⟩
    · refine y_ifYes X175 hx hby (pc' := 12) d10_5 ((if0 _ _).trans (tlt hc176).1) (by decide) (by decide) ?_
      refine y_iconst X175 hx hby (v := (0 : Int32)) d10_12 rfl ?_
      exact retN X175 hx (t := .boolean) Bd.returns (by simp) (hb hby d10_13) hr
    · show QP _ h0 n0 _ T175.heap _
      rw [e175, show f10_2 a1 p2 aB kB x0 x1 = (0 : Int32) from by unfold f10_2; rw [if_pos hc176]]
      exact ⟨rfl, N175, rfl⟩
  · obtain ⟨fs, hr, hrun, hended, hW, hsame⟩ := X175.leave (v := some (.int (1 : Int32))) (fun h => by rw [Bd.returns] at h; cases h)
    refine ⟨_, _, pre177 _ ?_, hrun, hended, _, _, rfl, ?_, ⟨_, rfl⟩, hW, hsame.mono (by decide) (by decide)⟩
    · refine y_ifNo X175 hx hby d10_5 ((if0 _ _).trans (flt hc176).1) ?_
      refine y_iconst X175 hx hby (v := (1 : Int32)) d10_8 rfl ?_
      refine y_goto X175 hx hby (pc' := 13) d10_9 (by decide) (by decide) ?_
      exact retN X175 hx (t := .boolean) Bd.returns (by simp) (hb hby d10_13) hr
    · show QP _ h0 n0 _ T175.heap _
      rw [e175, show f10_2 a1 p2 aB kB x0 x1 = (1 : Int32) from by unfold f10_2; rw [if_neg hc176]]
      exact ⟨rfl, N175, rfl⟩
abbrev ct_2 (p2 x0 x1 : Int32) : Int32 := f10_2 (0 : Addr) p2 (0 : Addr) (0 : ClassId) x0 x1
def nu_2 (p2 x0 x1 : Int32) : Int32 := if p2 = (0 : Int32) then x0 else x1
theorem own_nuget_2 {p2 x0 x1 : Int32} (hp : p2 = (0 : Int32) ∨ p2 = (1 : Int32)) : ¬ p2 < 0 ∧ p2 < (2 : Int32) ∧ ([(.int x0), (.int x1)] : List Value).getD p2.toNatClampNeg (.int (0 : Int32)) = .int (nu_2 p2 x0 x1) := by
  rcases hp with rfl | rfl <;> exact ⟨by decide, by decide, rfl⟩
set_option maxRecDepth 65536 in
set_option maxHeartbeats 40000000 in
theorem rm5_4_3_3 (l : Launch) (Z : State) (a0 : Array Value) (hw : HW a0 Z) (ws : List Jvm.Cond) (a1 : Addr) (k1 : ClassId) (x0 x1 x2 : Int32) (h0 : Heap) (n0 : Nat) (Z0 : n0 ≤ h0.size) (E_a1 : Exa Z h0 a1 "[I") (V_a1 : Arv Z h0 a1 k1 .int (4 : Int32) [(.int x0), (.int x1), (.int x2), (.int (0 : Int32))] (.int (0 : Int32))) :
    MF l mn5 jdk_65_method_123_code 3 (some (.array .int)) ws ({ frames := 1, cells := 1, slots := 3, locals := 18 } : Room) #[(.ref a1), (.int (3 : Int32))] Z h0 (QC Z (3 : Int32) [(.int x0), (.int x1), (.int x2)] h0 n0) := by
  refine MetFree.of_bodySF (plainFor_of_name pn_5) hisR ?_
  intro p e s m args below meth c s₁ Bd hml0 hP hK
  obtain ⟨rfl, hZ, hh⟩ := hP
  have hx := Bd.exec
  have hby := Bd.bytes
  have hml : c.maxLocals = 3 := hml0
  have hown : s.vm.findClass "java/util/Arrays" = some m.cls := findClass_of_methodNamed Bd.named
  have hnm := (name_of_methodNamed Bd.named Bd.method).1
  have X0 : Stand p l e ({ frames := 1, cells := 1, slots := 3, locals := 18 } : Room) s m #[(.ref a1), (.int (3 : Int32))] below meth c s₁ [] 0 0 := Stand.of_body Bd
  have e0 : s₁.heap = h0 := by rw [← hh, Bd.state]; rfl
  have N0 := Fr.nil n0
  have pre0 : GO p e below (s₁.setTop (mkF m 0 #[.val (.ref a1), .val (.int (3 : Int32)), .unset] [])) (s₁.setTop (entryFrame m #[(.ref a1), (.int (3 : Int32))] 3)) := fun t k => castTop (ef_5 m a1 (3 : Int32)) k
  have KK := Keep.refl h0 []
  obtain ⟨cl178, Ar178, q178, Sz178, Nn178, Hh178, Gg178⟩ := id V_a1
  obtain ⟨T179, h179, k179, X179, e179, E179, A179, Ex179, st179⟩ := newPE X0 hx hZ (ww hw 17 rfl) e0 (g := (mkF m 15 #[.val (.ref a1), .val (.int (3 : Int32)), .unset] [(.int (3 : Int32))])) rfl (hb hby d5_15) rfl (by decide) (cap := 3) (by decide) (by decide) (by decide) (by decide) (ad := "[I") (by first | rfl | decide)
  obtain ⟨b179, g179⟩ : ∃ z, z = h0.size := ⟨_, rfl⟩
  rw [← g179] at A179 Ex179 st179
  have g_b179 : n0 ≤ b179 := Nat.le_trans Z0 (Nat.le_of_eq g179.symm)
  have sz_b179 : h0.size ≤ b179 := Nat.le_trans KK.1 (Nat.le_of_eq g179.symm)
  have ne_a1_b179 : a1 ≠ b179 := Nat.ne_of_lt (Nat.lt_of_lt_of_le E_a1.lt (Nat.le_of_eq g179.symm))
  replace E_a1 := E_a1.ext E179
  replace V_a1 := V_a1.ext E179
  replace Z0 := Nat.le_trans Z0 E179.1
  replace KK := KK.ext E179
  have V_b179 : Arv Z h179 b179 k179 .int (3 : Int32) [(.int (0 : Int32)), (.int (0 : Int32)), (.int (0 : Int32))] (.int (0 : Int32)) := (Arv.new A179 (by decide)).pad (pad_rep [] (.int (0 : Int32)) 3)
  have E_b179 : Exa Z h179 b179 "[I" := Ex179
  obtain ⟨cl180, Ar180, q180, Sz180, Nn180, Hh180, Gg180⟩ := id V_a1
  obtain ⟨_, _, ⟨T181, L181, k181, n181⟩, -, X181, ⟨Lc181, hQ181, l181, y181, z181⟩, st181⟩ := Jvm.LawKit.callS X179 hx (y := mn0) hown (mvT hZ (ww hw 34 rfl)) (mvT hZ (ww hw 5 rfl)) (mvT hZ (ww hw 6 rfl)) (mvT hZ (ww hw 7 rfl)) (by decide) (backOf (W := 4) (rm1 l Z a0 hw [] (4 : Int32) (3 : Int32) h179 n0 Z0) hZ (ww hw 7 rfl) (ww hw 6 rfl) (by decide) (by decide)) (g := (mkF m 25 #[.val (.ref a1), .val (.int (3 : Int32)), .val (.ref b179)] [(.int (3 : Int32)), (.int (4 : Int32)), (.int (0 : Int32)), (.ref b179), (.int (0 : Int32)), (.ref a1)])) rfl (by rw [hml]; rfl) (argsL := [(.int (4 : Int32)), (.int (3 : Int32))]) (rest := [(.int (0 : Int32)), (.ref b179), (.int (0 : Int32)), (.ref a1)]) (lenOf pd_0 rfl) rfl (by show 2 * 0 + _ ≤ _; exact Nat.le_of_eq rfl) (hb hby d5_25) (fun _ _ => ⟨rfl, e179, (by decide : 1 + 0 ≤ _), (by decide : 3 + 0 ≤ _)⟩)
  dsimp only [Pt.U, Pt.locs, Pt.cells, Pt.slots] at X181 l181 y181 z181 st181 hQ181
  subst l181 y181 z181
  obtain ⟨rfl, N181q, e181⟩ := hQ181
  rw [show f1 (4 : Int32) (3 : Int32) = (3 : Int32) from by decide] at st181
  have N181 := Fr.app N0 N181q
  obtain ⟨T182, h182, L182, X182, e182, N182, K182, Vn182, st182⟩ := cpA X181 hx hZ hown (ww hw 35 rfl) (ww hw 38 rfl) (ww hw 36 rfl) (ww hw 37 rfl) e181 (us := [(.int x0), (.int x1), (.int x2)]) V_a1 V_b179 (Or.inl ⟨rfl, rfl⟩) (by decide) (by decide) (by decide) (by decide) (by decide) rfl (by decide) N181 g_b179 (g := (mkF m 28 #[.val (.ref a1), .val (.int (3 : Int32)), .val (.ref b179)] [(.int (3 : Int32)), (.int (0 : Int32)), (.ref b179), (.int (0 : Int32)), (.ref a1)])) rfl (by rw [hml]; rfl) rfl (hb hby d5_28) (by decide) (W := 0) (by show 2 * 0 + _ ≤ _; exact Nat.le_of_eq rfl) (by decide)
  replace E_a1 := E_a1.keep K182
  replace V_a1 := V_a1.keep K182 (ninS ne_a1_b179 nin0)
  replace E_b179 := E_b179.keep K182
  replace Z0 := Nat.le_trans Z0 K182.1
  replace KK := KK.trans K182 (allS (Or.inr sz_b179) all0)
  have V_b179 : Arv Z h182 b179 k179 .int (3 : Int32) [(.int x0), (.int x1), (.int x2)] (.int (0 : Int32)) := Vn182
  obtain ⟨fs, hr, hrun, hended, hW, hsame⟩ := X182.leave (v := some (.ref b179)) (fun h => by rw [Bd.returns] at h; cases h)
  refine ⟨_, _, pre0 _ ?_, hrun, hended, _, _, rfl, ?_, ⟨_, rfl⟩, hW, hsame.mono (by decide) (by decide)⟩
  · refine y_iloadN X0 hx hby d5_0 rfl ?_
    refine y_aloadN X0 hx hby d5_1 rfl rfl ?_
    refine X0.arraylength hx (by rw [e0]; exact Ar178.1) (State.isArrayOf_alike hZ.alike Ar178.2.1) (g := (mkF m 2 #[.val (.ref a1), .val (.int (3 : Int32)), .unset] [(.ref a1), (.int (3 : Int32))])) rfl rfl (hb hby d5_2) _ ?_
    rw [len_of Sz178 Nn178]
    show Steps p.tables e below (s₁.setTop (mkF m 3 #[.val (.ref a1), .val (.int (3 : Int32)), .unset] [(.int (4 : Int32)), (.int (3 : Int32))])) _
    refine y_icmpYes X0 hx hby (pc' := 14) d5_3 (feq (by decide)).2 (by decide) (by decide) ?_
    refine y_iloadN X0 hx hby d5_14 rfl ?_
    refine st179 _ ?_
    show Steps p.tables e below (T179.setTop (mkF m 17 #[.val (.ref a1), .val (.int (3 : Int32)), .unset] [(.ref b179)])) _
    refine y_astoreN X179 hx hby d5_17 rfl (l' := #[.val (.ref a1), .val (.int (3 : Int32)), .val (.ref b179)]) rfl ?_
    refine y_aloadN X179 hx hby d5_18 rfl rfl ?_
    refine y_iconst X179 hx hby (v := (0 : Int32)) d5_19 rfl ?_
    refine y_aloadN X179 hx hby d5_20 rfl rfl ?_
    refine y_iconst X179 hx hby (v := (0 : Int32)) d5_21 rfl ?_
    refine y_aloadN X179 hx hby d5_22 rfl rfl ?_
    refine X179.arraylength hx (by rw [e179]; exact Ar180.1) (State.isArrayOf_alike hZ.alike Ar180.2.1) (g := (mkF m 23 #[.val (.ref a1), .val (.int (3 : Int32)), .val (.ref b179)] [(.ref a1), (.int (0 : Int32)), (.ref b179), (.int (0 : Int32)), (.ref a1)])) rfl rfl (hb hby d5_23) _ ?_
    rw [len_of Sz180 Nn180]
    show Steps p.tables e below (T179.setTop (mkF m 24 #[.val (.ref a1), .val (.int (3 : Int32)), .val (.ref b179)] [(.int (4 : Int32)), (.int (0 : Int32)), (.ref b179), (.int (0 : Int32)), (.ref a1)])) _
    refine y_iloadN X179 hx hby d5_24 rfl ?_
    refine st181 _ ?_
    show Steps p.tables e below (T181.setTop (mkF m 28 #[.val (.ref a1), .val (.int (3 : Int32)), .val (.ref b179)] [(.int (3 : Int32)), (.int (0 : Int32)), (.ref b179), (.int (0 : Int32)), (.ref a1)])) _
    refine st182 _ ?_
    show Steps p.tables e below (T182.setTop (mkF m 31 #[.val (.ref a1), .val (.int (3 : Int32)), .val (.ref b179)] [])) _
    refine y_aloadN X182 hx hby d5_31 rfl rfl ?_
    show Steps p.tables e below (T182.setTop (mkF m 32 #[.val (.ref a1), .val (.int (3 : Int32)), .val (.ref b179)] [(.ref b179)])) _
    jvm_step X182.here [X182.here.top, hx, (hb hby d5_32), X182.method', Bd.returns, Value.isRef, FieldType.isReference]
    first | (intro acts; rw [hr _ acts rfl rfl rfl]) | rw [hr _ _ rfl rfl rfl]
    exact Steps.refl _
  · show QC Z (3 : Int32) [(.int x0), (.int x1), (.int x2)] h0 n0 _ T182.heap _
    rw [e182]
    exact ⟨b179, _, rfl, N182, KK, sz_b179, V_b179, E_b179⟩
set_option maxRecDepth 65536 in
set_option maxHeartbeats 40000000 in
theorem rm4_3 (l : Launch) (Z : State) (a0 : Array Value) (hw : HW a0 Z) (ws : List Jvm.Cond) (a1 aA : Addr) (kA : ClassId) (x0 x1 x2 : Int32) (h0 : Heap) (n0 : Nat) (Z0 : n0 ≤ h0.size) (E_a1 : Exa Z h0 a1 "com/example/hard_delay_bounds/harddelaybounds/analysis/FlowSet$Builder") (F_numbers_a1 : Fld Z h0 a1 "com/example/hard_delay_bounds/harddelaybounds/analysis/FlowSet$Builder" "numbers" "[I" (.ref aA)) (F_size_a1 : Fld Z h0 a1 "com/example/hard_delay_bounds/harddelaybounds/analysis/FlowSet$Builder" "size" "I" (.int (3 : Int32))) (E_aA : Exa Z h0 aA "[I") (V_aA : Arv Z h0 aA kA .int (4 : Int32) [(.int x0), (.int x1), (.int x2), (.int (0 : Int32))] (.int (0 : Int32))) (ne_a1_aA : a1 ≠ aA) :
    MF l mn7 prog_18_method_3_code 1 (some (.object "com/example/hard_delay_bounds/harddelaybounds/analysis/FlowSet")) ws ({ frames := 2, cells := 2, slots := 5, locals := 34 } : Room) #[(.ref a1)] Z h0 (QS Z (3 : Int32) [(.int x0), (.int x1), (.int x2)] h0 n0) := by
  refine MetFree.of_bodySF (plainFor_of_name pn_2) hisR ?_
  intro p e s m args below meth c s₁ Bd hml0 hP hK
  obtain ⟨rfl, hZ, hh⟩ := hP
  have hx := Bd.exec
  have hby := Bd.bytes
  have hml : c.maxLocals = 1 := hml0
  have hown : s.vm.findClass "com/example/hard_delay_bounds/harddelaybounds/analysis/FlowSet$Builder" = some m.cls := findClass_of_methodNamed Bd.named
  have hnm := (name_of_methodNamed Bd.named Bd.method).1
  have X0 : Stand p l e ({ frames := 2, cells := 2, slots := 5, locals := 34 } : Room) s m #[(.ref a1)] below meth c s₁ [] 0 0 := Stand.of_body Bd
  have e0 : s₁.heap = h0 := by rw [← hh, Bd.state]; rfl
  have N0 := Fr.nil n0
  have pre0 : GO p e below (s₁.setTop (mkF m 0 #[.val (.ref a1)] [])) (s₁.setTop (entryFrame m #[(.ref a1)] 1)) := fun t k => castTop (ef_4 m a1) k
  have KK := Keep.refl h0 []
  obtain ⟨T183, h183, X183, e183, E183, A183, D183, -, st183⟩ := newO X0 hx hZ hown (ww hw 25 rfl) (ww hw 26 rfl) (ww hw 27 rfl) e0 (g := (mkF m 0 #[.val (.ref a1)] [])) rfl (hb hby d4_0) (by decide) (by decide)
  obtain ⟨b183, g183⟩ : ∃ z, z = h0.size := ⟨_, rfl⟩
  rw [← g183] at A183 D183 st183
  have g_b183 : n0 ≤ b183 := Nat.le_trans Z0 (Nat.le_of_eq g183.symm)
  have sz_b183 : h0.size ≤ b183 := Nat.le_trans KK.1 (Nat.le_of_eq g183.symm)
  have ne_a1_b183 : a1 ≠ b183 := Nat.ne_of_lt (Nat.lt_of_lt_of_le E_a1.lt (Nat.le_of_eq g183.symm))
  have ne_aA_b183 : aA ≠ b183 := Nat.ne_of_lt (Nat.lt_of_lt_of_le E_aA.lt (Nat.le_of_eq g183.symm))
  replace E_a1 := E_a1.ext E183
  replace F_numbers_a1 := F_numbers_a1.ext E183
  replace F_size_a1 := F_size_a1.ext E183
  replace E_aA := E_aA.ext E183
  replace V_aA := V_aA.ext E183
  replace Z0 := Nat.le_trans Z0 E183.1
  replace KK := KK.ext E183
  have E_b183 := A183
  have F_numbers_b183 : Fld Z h183 b183 "com/example/hard_delay_bounds/harddelaybounds/analysis/FlowSet" "numbers" "[I" .null := D183 (Or.inr (ww hw 44 rfl)) (ty := (.array .int)) (by decide)
  have F_hash_b183 : Fld Z h183 b183 "com/example/hard_delay_bounds/harddelaybounds/analysis/FlowSet" "hash" "I" (.int (0 : Int32)) := D183 (Or.inr (ww hw 46 rfl)) (ty := .int) (by decide)
  obtain ⟨T184, X184, e184, st184⟩ := getF X183 hx hZ hown (host := "") (Or.inl (ww hw 18 rfl)) Via.refl e183 F_numbers_a1 (g := (mkF m 5 #[.val (.ref a1)] [(.ref a1), (.ref b183), (.ref b183)])) rfl rfl (hb hby d4_5)
  obtain ⟨T185, X185, e185, st185⟩ := getF X184 hx hZ hown (host := "") (Or.inl (ww hw 28 rfl)) Via.refl e184 F_size_a1 (g := (mkF m 9 #[.val (.ref a1)] [(.ref a1), (.ref aA), (.ref b183), (.ref b183)])) rfl rfl (hb hby d4_9)
  obtain ⟨_, _, ⟨T186, L186, k186, n186⟩, -, X186, ⟨Lc186, hQ186, l186, y186, z186⟩, st186⟩ := Jvm.LawKit.callS X185 hx (y := mn5) hown (mvT hZ (ww hw 30 rfl)) (mvT hZ (ww hw 31 rfl)) (mvT hZ (ww hw 32 rfl)) (mvT hZ (ww hw 33 rfl)) (by decide) (backOf (W := 2) (rm5_4_3_3 l Z a0 hw [] aA kA x0 x1 x2 h183 n0 Z0 E_aA V_aA) hZ (ww hw 33 rfl) (ww hw 32 rfl) (by decide) (by decide)) (g := (mkF m 12 #[.val (.ref a1)] [(.int (3 : Int32)), (.ref aA), (.ref b183), (.ref b183)])) rfl (by rw [hml]; rfl) (argsL := [(.ref aA), (.int (3 : Int32))]) (rest := [(.ref b183), (.ref b183)]) (lenOf pd_1 rfl) rfl (by show 2 * 0 + _ ≤ _; exact Nat.le_of_eq rfl) (hb hby d4_12) (fun _ _ => ⟨rfl, e185, (by decide : 1 + 1 ≤ _), (by decide : 2 + 3 ≤ _)⟩)
  dsimp only [Pt.U, Pt.locs, Pt.cells, Pt.slots] at X186 l186 y186 z186 st186 hQ186
  subst l186 y186 z186
  obtain ⟨h186, e186⟩ : ∃ z, T186.heap = z := ⟨_, rfl⟩
  rw [e186] at hQ186
  obtain ⟨b186, k186, rfl, N186q, K186, s186, Vn186, En186⟩ := hQ186
  have g_b186 : n0 ≤ b186 := Nat.le_trans Z0 s186
  have sz_b186 : h0.size ≤ b186 := Nat.le_trans KK.1 s186
  have ne_a1_b186 : a1 ≠ b186 := Nat.ne_of_lt (Nat.lt_of_lt_of_le E_a1.lt s186)
  have ne_aA_b186 : aA ≠ b186 := Nat.ne_of_lt (Nat.lt_of_lt_of_le E_aA.lt s186)
  have ne_b183_b186 : b183 ≠ b186 := Nat.ne_of_lt (Nat.lt_of_lt_of_le E_b183.lt s186)
  replace E_a1 := E_a1.keep K186
  replace F_numbers_a1 := F_numbers_a1.keep K186 nin0
  replace F_size_a1 := F_size_a1.keep K186 nin0
  replace E_aA := E_aA.keep K186
  replace V_aA := V_aA.keep K186 nin0
  replace E_b183 := E_b183.keep K186
  replace F_numbers_b183 := F_numbers_b183.keep K186 nin0
  replace F_hash_b183 := F_hash_b183.keep K186 nin0
  replace Z0 := Nat.le_trans Z0 K186.1
  replace KK := KK.trans K186 all0
  have V_b186 : Arv Z h186 b186 k186 .int (3 : Int32) [(.int x0), (.int x1), (.int x2)] (.int (0 : Int32)) := Vn186
  have E_b186 := En186
  have N186 := Fr.app N0 N186q
  obtain ⟨_, _, ⟨T187, L187, k187, n187⟩, -, X187, ⟨Lc187, hQ187, l187, y187, z187⟩, st187⟩ := X186.specialBackNest hx (y := mn6) rfl hown (own_mvMN hZ (ww hw 39 rfl)) (mvT hZ (ww hw 40 rfl)) (mvT hZ (ww hw 41 rfl)) (by decide) (backOf (W := 1) (rm6 l Z a0 hw [] b183 b186 k186 _ _ h186 n0 Z0 E_b183 F_numbers_b183 F_hash_b183 V_b186 g_b183 ne_b183_b186) hZ (ww hw 41 rfl) (ww hw 27 rfl) (by decide) (by decide)) (g := (mkF m 15 #[.val (.ref a1)] [(.ref b186), (.ref b183), (.ref b183)])) rfl (by rw [hml]; rfl) (Steps.refl _) (a := b183) (argsL := [(.ref b186)]) (rest := [(.ref b183)]) (lenOf pd_2 rfl) rfl (by show 2 * 0 + _ ≤ _; exact Nat.le_of_eq rfl) (hb hby d4_15) (fun _ _ => ⟨rfl, e186, (by decide : 2 + 0 ≤ _), (by decide : 5 + 0 ≤ _)⟩)
  dsimp only [Pt.U, Pt.locs, Pt.cells, Pt.slots] at X187 l187 y187 z187 st187 hQ187
  subst l187 y187 z187
  obtain ⟨h187, e187⟩ : ∃ z, T187.heap = z := ⟨_, rfl⟩
  rw [e187] at hQ187
  obtain ⟨rfl, N187q, K187, Fn187⟩ := hQ187
  replace E_a1 := E_a1.keep K187
  replace F_numbers_a1 := F_numbers_a1.keep K187 (ninS ne_a1_b183 nin0)
  replace F_size_a1 := F_size_a1.keep K187 (ninS ne_a1_b183 nin0)
  replace E_aA := E_aA.keep K187
  replace V_aA := V_aA.keep K187 (ninS ne_aA_b183 nin0)
  replace E_b183 := E_b183.keep K187
  replace V_b186 := V_b186.keep K187 (ninS (Ne.symm ne_b183_b186) nin0)
  replace E_b186 := E_b186.keep K187
  replace Z0 := Nat.le_trans Z0 K187.1
  replace KK := KK.trans K187 (allS (Or.inr sz_b183) all0)
  have F_numbers_b183 := Fn187
  have N187 := Fr.app N186 N187q
  obtain ⟨fs, hr, hrun, hended, hW, hsame⟩ := X187.leave (v := some (.ref b183)) (fun h => by rw [Bd.returns] at h; cases h)
  refine ⟨_, _, pre0 _ ?_, hrun, hended, _, _, rfl, ?_, ⟨_, rfl⟩, hW, hsame.mono (by decide) (by decide)⟩
  · refine st183 _ ?_
    show Steps p.tables e below (T183.setTop (mkF m 3 #[.val (.ref a1)] [(.ref b183)])) _
    refine y_dup X183 hx hby d4_3 rfl ?_
    refine y_aloadN X183 hx hby d4_4 rfl rfl ?_
    refine st184 _ ?_
    show Steps p.tables e below (T184.setTop (mkF m 8 #[.val (.ref a1)] [(.ref aA), (.ref b183), (.ref b183)])) _
    refine y_aloadN X184 hx hby d4_8 rfl rfl ?_
    refine st185 _ ?_
    show Steps p.tables e below (T185.setTop (mkF m 12 #[.val (.ref a1)] [(.int (3 : Int32)), (.ref aA), (.ref b183), (.ref b183)])) _
    refine st186 _ ?_
    show Steps p.tables e below (T186.setTop (mkF m 15 #[.val (.ref a1)] [(.ref b186), (.ref b183), (.ref b183)])) _
    refine st187.trans ?_
    show Steps p.tables e below (T187.setTop (mkF m 18 #[.val (.ref a1)] [(.ref b183)])) _
    jvm_step X187.here [X187.here.top, hx, (hb hby d4_18), X187.method', Bd.returns, Value.isRef, FieldType.isReference]
    first | (intro acts; rw [hr _ acts rfl rfl rfl]) | rw [hr _ _ rfl rfl rfl]
    exact Steps.refl _
  · show QS Z (3 : Int32) [(.int x0), (.int x1), (.int x2)] h0 n0 _ T187.heap _
    rw [e187]
    exact ⟨b183, b186, _, rfl, N187, KK, sz_b183, sz_b186, E_b183, F_numbers_b183, V_b186⟩
set_option maxRecDepth 65536 in
set_option maxHeartbeats 40000000 in
theorem rm7_3 (l : Launch) (Z : State) (a0 : Array Value) (hw : HW a0 Z) (ws : List Jvm.Cond) (a1 aB : Addr) (kB : ClassId) (x0 x1 x2 : Int32) (h0 : Heap) (n0 : Nat) (Z0 : n0 ≤ h0.size) (F_numbers_a1 : Fld Z h0 a1 "com/example/hard_delay_bounds/harddelaybounds/analysis/FlowSet" "numbers" "[I" (.ref aB)) (V_aB : Arv Z h0 aB kB .int (3 : Int32) [(.int x0), (.int x1), (.int x2)] (.int (0 : Int32))) :
    MF l mn8 prog_17_method_2_code 1 (some .int) ws ({ frames := 0, cells := 0, slots := 0, locals := 0 } : Room) #[(.ref a1)] Z h0 (QP (some (.int (3 : Int32))) h0 n0) := by
  refine MetFree.of_bodySF (plainFor_of_name pn_6) hisR ?_
  intro p e s m args below meth c s₁ Bd hml0 hP hK
  obtain ⟨rfl, hZ, hh⟩ := hP
  have hx := Bd.exec
  have hby := Bd.bytes
  have hml : c.maxLocals = 1 := hml0
  have hown : s.vm.findClass "com/example/hard_delay_bounds/harddelaybounds/analysis/FlowSet" = some m.cls := findClass_of_methodNamed Bd.named
  have hnm := (name_of_methodNamed Bd.named Bd.method).1
  have X0 : Stand p l e ({ frames := 0, cells := 0, slots := 0, locals := 0 } : Room) s m #[(.ref a1)] below meth c s₁ [] 0 0 := Stand.of_body Bd
  have e0 : s₁.heap = h0 := by rw [← hh, Bd.state]; rfl
  have N0 := Fr.nil n0
  have pre0 : GO p e below (s₁.setTop (mkF m 0 #[.val (.ref a1)] [])) (s₁.setTop (entryFrame m #[(.ref a1)] 1)) := fun t k => castTop (ef_7 m a1) k
  obtain ⟨T188, X188, e188, st188⟩ := getF X0 hx hZ hown (host := "") (Or.inl (ww hw 43 rfl)) Via.refl e0 F_numbers_a1 (g := (mkF m 1 #[.val (.ref a1)] [(.ref a1)])) rfl rfl (hb hby d7_1)
  obtain ⟨cl189, Ar189, q189, Sz189, Nn189, Hh189, Gg189⟩ := id V_aB
  obtain ⟨fs, hr, hrun, hended, hW, hsame⟩ := X188.leave (v := some (.int (3 : Int32))) (fun h => by rw [Bd.returns] at h; cases h)
  refine ⟨_, _, pre0 _ ?_, hrun, hended, _, _, rfl, ?_, ⟨_, rfl⟩, hW, hsame.mono (by decide) (by decide)⟩
  · refine y_aloadN X0 hx hby d7_0 rfl rfl ?_
    refine st188 _ ?_
    show Steps p.tables e below (T188.setTop (mkF m 4 #[.val (.ref a1)] [(.ref aB)])) _
    refine X188.arraylength hx (by rw [e188]; exact Ar189.1) (State.isArrayOf_alike hZ.alike Ar189.2.1) (g := (mkF m 4 #[.val (.ref a1)] [(.ref aB)])) rfl rfl (hb hby d7_4) _ ?_
    rw [len_of Sz189 Nn189]
    show Steps p.tables e below (T188.setTop (mkF m 5 #[.val (.ref a1)] [(.int (3 : Int32))])) _
    exact retI X188 hx Bd.returns (hb hby d7_5) hr
  · show QP _ h0 n0 _ T188.heap _
    rw [e188]
    exact ⟨rfl, N0, rfl⟩
abbrev lo13_3_0 (a1 : Addr) (p4 : Int32) : Array Slot := #[.val (.ref a1), .val (.int (0 : Int32)), .val (.int (3 : Int32)), .val (.int p4), .val (.int (0 : Int32)), .unset, .unset, .unset]
abbrev lo13_3_1 (a1 : Addr) (p4 : Int32) : Array Slot := #[.val (.ref a1), .val (.int (0 : Int32)), .val (.int (3 : Int32)), .val (.int p4), .val (.int (0 : Int32)), .val (.int (2 : Int32)), .unset, .unset]
abbrev lo13_3_2 (a1 : Addr) (p4 : Int32) : Array Slot := #[.val (.ref a1), .val (.int (0 : Int32)), .val (.int (3 : Int32)), .val (.int p4), .val (.int (0 : Int32)), .val (.int (2 : Int32)), .val (.int (1 : Int32)), .unset]
abbrev lo13_3_3 (a1 : Addr) (p4 x1 : Int32) : Array Slot := #[.val (.ref a1), .val (.int (0 : Int32)), .val (.int (3 : Int32)), .val (.int p4), .val (.int (0 : Int32)), .val (.int (2 : Int32)), .val (.int (1 : Int32)), .val (.int x1)]
abbrev lo13_3_4 (a1 : Addr) (p4 x1 : Int32) : Array Slot := #[.val (.ref a1), .val (.int (0 : Int32)), .val (.int (3 : Int32)), .val (.int p4), .val (.int (2 : Int32)), .val (.int (2 : Int32)), .val (.int (1 : Int32)), .val (.int x1)]
abbrev lo13_3_5 (a1 : Addr) (p4 x1 : Int32) : Array Slot := #[.val (.ref a1), .val (.int (0 : Int32)), .val (.int (3 : Int32)), .val (.int p4), .val (.int (2 : Int32)), .val (.int (2 : Int32)), .val (.int (2 : Int32)), .val (.int x1)]
abbrev lo13_3_6 (a1 : Addr) (p4 x2 : Int32) : Array Slot := #[.val (.ref a1), .val (.int (0 : Int32)), .val (.int (3 : Int32)), .val (.int p4), .val (.int (2 : Int32)), .val (.int (2 : Int32)), .val (.int (2 : Int32)), .val (.int x2)]
abbrev lo13_3_7 (a1 : Addr) (p4 x2 : Int32) : Array Slot := #[.val (.ref a1), .val (.int (0 : Int32)), .val (.int (3 : Int32)), .val (.int p4), .val (.int (3 : Int32)), .val (.int (2 : Int32)), .val (.int (2 : Int32)), .val (.int x2)]
abbrev lo13_3_8 (a1 : Addr) (p4 x2 : Int32) : Array Slot := #[.val (.ref a1), .val (.int (0 : Int32)), .val (.int (3 : Int32)), .val (.int p4), .val (.int (2 : Int32)), .val (.int (1 : Int32)), .val (.int (2 : Int32)), .val (.int x2)]
abbrev lo13_3_9 (a1 : Addr) (p4 x1 : Int32) : Array Slot := #[.val (.ref a1), .val (.int (0 : Int32)), .val (.int (3 : Int32)), .val (.int p4), .val (.int (0 : Int32)), .val (.int (0 : Int32)), .val (.int (1 : Int32)), .val (.int x1)]
abbrev lo13_3_10 (a1 : Addr) (p4 x1 : Int32) : Array Slot := #[.val (.ref a1), .val (.int (0 : Int32)), .val (.int (3 : Int32)), .val (.int p4), .val (.int (0 : Int32)), .val (.int (0 : Int32)), .val (.int (0 : Int32)), .val (.int x1)]
abbrev lo13_3_11 (a1 : Addr) (p4 x0 : Int32) : Array Slot := #[.val (.ref a1), .val (.int (0 : Int32)), .val (.int (3 : Int32)), .val (.int p4), .val (.int (0 : Int32)), .val (.int (0 : Int32)), .val (.int (0 : Int32)), .val (.int x0)]
abbrev lo13_3_12 (a1 : Addr) (p4 x0 : Int32) : Array Slot := #[.val (.ref a1), .val (.int (0 : Int32)), .val (.int (3 : Int32)), .val (.int p4), .val (.int (1 : Int32)), .val (.int (0 : Int32)), .val (.int (0 : Int32)), .val (.int x0)]
abbrev lo13_3_13 (a1 : Addr) (p4 x0 : Int32) : Array Slot := #[.val (.ref a1), .val (.int (0 : Int32)), .val (.int (3 : Int32)), .val (.int p4), .val (.int (0 : Int32)), .val (.int (-1 : Int32)), .val (.int (0 : Int32)), .val (.int x0)]
def f13_3 (a1 : Addr) (p4 : Int32) (k1 : ClassId) (x0 x1 x2 : Int32) : Int32 := (if x1 < p4 then (if x2 < p4 then (-4 : Int32) else (if p4 < x2 then (-3 : Int32) else (2 : Int32))) else (if p4 < x1 then (if x0 < p4 then (-2 : Int32) else (if p4 < x0 then (-1 : Int32) else (0 : Int32))) else (1 : Int32)))
set_option maxRecDepth 65536 in
set_option maxHeartbeats 40000000 in
theorem rm13_3 (l : Launch) (Z : State) (a0 : Array Value) (hw : HW a0 Z) (ws : List Jvm.Cond) (a1 : Addr) (p4 : Int32) (k1 : ClassId) (x0 x1 x2 : Int32) (h0 : Heap) (n0 : Nat) (Z0 : n0 ≤ h0.size) (V_a1 : Arv Z h0 a1 k1 .int (3 : Int32) [(.int x0), (.int x1), (.int x2)] (.int (0 : Int32))) :
    MF l mn9 jdk_65_method_59_code 8 (some .int) ws ({ frames := 0, cells := 0, slots := 0, locals := 0 } : Room) #[(.ref a1), (.int (0 : Int32)), (.int (3 : Int32)), (.int p4)] Z h0 (QP (some (.int (f13_3 a1 p4 k1 x0 x1 x2))) h0 n0) := by
  refine MetFree.of_bodySF (plainFor_of_name pn_5) hisR ?_
  intro p e s m args below meth c s₁ Bd hml0 hP hK
  obtain ⟨rfl, hZ, hh⟩ := hP
  have hx := Bd.exec
  have hby := Bd.bytes
  have hml : c.maxLocals = 8 := hml0
  have hown : s.vm.findClass "java/util/Arrays" = some m.cls := findClass_of_methodNamed Bd.named
  have hnm := (name_of_methodNamed Bd.named Bd.method).1
  have X0 : Stand p l e ({ frames := 0, cells := 0, slots := 0, locals := 0 } : Room) s m #[(.ref a1), (.int (0 : Int32)), (.int (3 : Int32)), (.int p4)] below meth c s₁ [] 0 0 := Stand.of_body Bd
  have e0 : s₁.heap = h0 := by rw [← hh, Bd.state]; rfl
  have N0 := Fr.nil n0
  have pre0 : GO p e below (s₁.setTop (mkF m 0 #[.val (.ref a1), .val (.int (0 : Int32)), .val (.int (3 : Int32)), .val (.int p4), .unset, .unset, .unset, .unset] [])) (s₁.setTop (entryFrame m #[(.ref a1), (.int (0 : Int32)), (.int (3 : Int32)), (.int p4)] 8)) := fun t k => castTop (ef_13 m a1 (0 : Int32) (3 : Int32) p4) k
  obtain ⟨cl190, Ar190, q190, Sz190, Nn190, Hh190, Gg190⟩ := id V_a1
  have hin190 : ¬ ((1 : Int32) < 0 ∨ cl190.slots.size ≤ ((1 : Int32)).toNatClampNeg) := inb_of Sz190 ⟨by decide, by decide⟩
  have hat190 : cl190.slots[((1 : Int32)).toNatClampNeg]? = some (.int x1) := Hh190.at hin190 rfl
  have pre192 : GO p e below (s₁.setTop (mkF m 33 (lo13_3_3 a1 p4 x1) [(.int p4), (.int x1)])) (s₁.setTop (entryFrame m #[(.ref a1), (.int (0 : Int32)), (.int (3 : Int32)), (.int p4)] 8)) := fun t k => by
    refine pre0 _ ?_
    refine y_iloadN X0 hx hby d13_0 rfl ?_
    refine y_istore X0 hx hby d13_1 (l' := (lo13_3_0 a1 p4)) rfl ?_
    refine y_iloadN X0 hx hby d13_3 rfl ?_
    refine y_iconst X0 hx hby (v := (1 : Int32)) d13_4 rfl ?_
    refine y_isub X0 hx hby d13_5 ?_
    rw [show ((3 : Int32) - (1 : Int32)) = (2 : Int32) from by decide]
    refine y_istore X0 hx hby d13_6 (l' := (lo13_3_1 a1 p4)) rfl ?_
    refine y_iload X0 hx hby d13_8 rfl ?_
    refine y_iload X0 hx hby d13_10 rfl ?_
    refine y_icmpNo X0 hx hby d13_12 (flt (by decide)).2.2.1 ?_
    refine y_iload X0 hx hby d13_15 rfl ?_
    refine y_iload X0 hx hby d13_17 rfl ?_
    refine y_iadd X0 hx hby d13_19 ?_
    rw [show ((0 : Int32) + (2 : Int32)) = (2 : Int32) from by decide]
    refine y_iconst X0 hx hby (v := (1 : Int32)) d13_20 rfl ?_
    refine y_iushr X0 hx hby d13_21 ?_
    rw [show (((2 : Int32).toUInt32 >>> ((1 : Int32) &&& 31).toUInt32).toInt32) = (1 : Int32) from by decide]
    refine y_istore X0 hx hby d13_22 (l' := (lo13_3_2 a1 p4)) rfl ?_
    refine y_aloadN X0 hx hby d13_24 rfl rfl ?_
    refine y_iload X0 hx hby d13_25 rfl ?_
    refine X0.iaload hx (j := (1 : Int32)) (v := (.int x1)) (by rw [e0]; exact Ar190.1) (State.isArrayOf_alike hZ.alike Ar190.2.1) Ar190.2.2 hin190 hat190 (g := (mkF m 27 (lo13_3_2 a1 p4) [(.int (1 : Int32)), (.ref a1)])) rfl rfl (hb hby d13_27) _ ?_
    show Steps p.tables e below (s₁.setTop (mkF m 28 (lo13_3_2 a1 p4) [(.int x1)])) _
    refine y_istore X0 hx hby d13_28 (l' := (lo13_3_3 a1 p4 x1)) rfl ?_
    refine y_iload X0 hx hby d13_30 rfl ?_
    refine y_iloadN X0 hx hby d13_32 rfl ?_
    exact k
  by_cases hc191 : x1 < p4
  · obtain ⟨cl193, Ar193, q193, Sz193, Nn193, Hh193, Gg193⟩ := id V_a1
    have hin193 : ¬ ((2 : Int32) < 0 ∨ cl193.slots.size ≤ ((2 : Int32)).toNatClampNeg) := inb_of Sz193 ⟨by decide, by decide⟩
    have hat193 : cl193.slots[((2 : Int32)).toNatClampNeg]? = some (.int x2) := Hh193.at hin193 rfl
    have pre195 : GO p e below (s₁.setTop (mkF m 33 (lo13_3_6 a1 p4 x2) [(.int p4), (.int x2)])) (s₁.setTop (entryFrame m #[(.ref a1), (.int (0 : Int32)), (.int (3 : Int32)), (.int p4)] 8)) := fun t k => by
      refine pre192 _ ?_
      refine y_icmpNo X0 hx hby d13_33 (tlt hc191).2.1 ?_
      refine y_iload X0 hx hby d13_36 rfl ?_
      refine y_iconst X0 hx hby (v := (1 : Int32)) d13_38 rfl ?_
      refine y_iadd X0 hx hby d13_39 ?_
      rw [show ((1 : Int32) + (1 : Int32)) = (2 : Int32) from by decide]
      refine y_istore X0 hx hby d13_40 (l' := (lo13_3_4 a1 p4 x1)) rfl ?_
      refine y_goto X0 hx hby (pc' := 63) d13_42 (by decide) (by decide) ?_
      refine y_goto X0 hx hby (pc' := 8) d13_63 (by decide) (by decide) ?_
      refine y_iload X0 hx hby d13_8 rfl ?_
      refine y_iload X0 hx hby d13_10 rfl ?_
      refine y_icmpNo X0 hx hby d13_12 (flt (by decide)).2.2.1 ?_
      refine y_iload X0 hx hby d13_15 rfl ?_
      refine y_iload X0 hx hby d13_17 rfl ?_
      refine y_iadd X0 hx hby d13_19 ?_
      rw [show ((2 : Int32) + (2 : Int32)) = (4 : Int32) from by decide]
      refine y_iconst X0 hx hby (v := (1 : Int32)) d13_20 rfl ?_
      refine y_iushr X0 hx hby d13_21 ?_
      rw [show (((4 : Int32).toUInt32 >>> ((1 : Int32) &&& 31).toUInt32).toInt32) = (2 : Int32) from by decide]
      refine y_istore X0 hx hby d13_22 (l' := (lo13_3_5 a1 p4 x1)) rfl ?_
      refine y_aloadN X0 hx hby d13_24 rfl rfl ?_
      refine y_iload X0 hx hby d13_25 rfl ?_
      refine X0.iaload hx (j := (2 : Int32)) (v := (.int x2)) (by rw [e0]; exact Ar193.1) (State.isArrayOf_alike hZ.alike Ar193.2.1) Ar193.2.2 hin193 hat193 (g := (mkF m 27 (lo13_3_5 a1 p4 x1) [(.int (2 : Int32)), (.ref a1)])) rfl rfl (hb hby d13_27) _ ?_
      show Steps p.tables e below (s₁.setTop (mkF m 28 (lo13_3_5 a1 p4 x1) [(.int x2)])) _
      refine y_istore X0 hx hby d13_28 (l' := (lo13_3_6 a1 p4 x2)) rfl ?_
      refine y_iload X0 hx hby d13_30 rfl ?_
      refine y_iloadN X0 hx hby d13_32 rfl ?_
      exact k
    by_cases hc194 : x2 < p4
    · obtain ⟨fs, hr, hrun, hended, hW, hsame⟩ := X0.leave (v := some (.int (-4 : Int32))) (fun h => by rw [Bd.returns] at h; cases h)
      refine ⟨_, _, pre195 _ ?_, hrun, hended, _, _, rfl, ?_, ⟨_, rfl⟩, hW, hsame.mono (by decide) (by decide)⟩
      · refine y_icmpNo X0 hx hby d13_33 (tlt hc194).2.1 ?_
        refine y_iload X0 hx hby d13_36 rfl ?_
        refine y_iconst X0 hx hby (v := (1 : Int32)) d13_38 rfl ?_
        refine y_iadd X0 hx hby d13_39 ?_
        rw [show ((2 : Int32) + (1 : Int32)) = (3 : Int32) from by decide]
        refine y_istore X0 hx hby d13_40 (l' := (lo13_3_7 a1 p4 x2)) rfl ?_
        refine y_goto X0 hx hby (pc' := 63) d13_42 (by decide) (by decide) ?_
        refine y_goto X0 hx hby (pc' := 8) d13_63 (by decide) (by decide) ?_
        refine y_iload X0 hx hby d13_8 rfl ?_
        refine y_iload X0 hx hby d13_10 rfl ?_
        refine y_icmpYes X0 hx hby (pc' := 66) d13_12 (tlt (by decide)).2.2.1 (by decide) (by decide) ?_
        refine y_iload X0 hx hby d13_66 rfl ?_
        refine y_iconst X0 hx hby (v := (1 : Int32)) d13_68 rfl ?_
        refine y_iadd X0 hx hby d13_69 ?_
        rw [show ((3 : Int32) + (1 : Int32)) = (4 : Int32) from by decide]
        refine y_ineg X0 hx hby d13_70 ?_
        rw [show ((-(4 : Int32))) = (-4 : Int32) from by decide]
        exact retI X0 hx Bd.returns (hb hby d13_71) hr
      · show QP _ h0 n0 _ s₁.heap _
        rw [e0, show f13_3 a1 p4 k1 x0 x1 x2 = (-4 : Int32) from by unfold f13_3; rw [if_pos hc191, if_pos hc194]]
        exact ⟨rfl, N0, rfl⟩
    · have pre197 : GO p e below (s₁.setTop (mkF m 48 (lo13_3_6 a1 p4 x2) [(.int p4), (.int x2)])) (s₁.setTop (entryFrame m #[(.ref a1), (.int (0 : Int32)), (.int (3 : Int32)), (.int p4)] 8)) := fun t k => by
        refine pre195 _ ?_
        refine y_icmpYes X0 hx hby (pc' := 45) d13_33 (flt hc194).2.1 (by decide) (by decide) ?_
        refine y_iload X0 hx hby d13_45 rfl ?_
        refine y_iloadN X0 hx hby d13_47 rfl ?_
        exact k
      by_cases hc196 : p4 < x2
      · obtain ⟨fs, hr, hrun, hended, hW, hsame⟩ := X0.leave (v := some (.int (-3 : Int32))) (fun h => by rw [Bd.returns] at h; cases h)
        refine ⟨_, _, pre197 _ ?_, hrun, hended, _, _, rfl, ?_, ⟨_, rfl⟩, hW, hsame.mono (by decide) (by decide)⟩
        · refine y_icmpNo X0 hx hby d13_48 (tlt hc196).2.2.2 ?_
          refine y_iload X0 hx hby d13_51 rfl ?_
          refine y_iconst X0 hx hby (v := (1 : Int32)) d13_53 rfl ?_
          refine y_isub X0 hx hby d13_54 ?_
          rw [show ((2 : Int32) - (1 : Int32)) = (1 : Int32) from by decide]
          refine y_istore X0 hx hby d13_55 (l' := (lo13_3_8 a1 p4 x2)) rfl ?_
          refine y_goto X0 hx hby (pc' := 63) d13_57 (by decide) (by decide) ?_
          refine y_goto X0 hx hby (pc' := 8) d13_63 (by decide) (by decide) ?_
          refine y_iload X0 hx hby d13_8 rfl ?_
          refine y_iload X0 hx hby d13_10 rfl ?_
          refine y_icmpYes X0 hx hby (pc' := 66) d13_12 (tlt (by decide)).2.2.1 (by decide) (by decide) ?_
          refine y_iload X0 hx hby d13_66 rfl ?_
          refine y_iconst X0 hx hby (v := (1 : Int32)) d13_68 rfl ?_
          refine y_iadd X0 hx hby d13_69 ?_
          rw [show ((2 : Int32) + (1 : Int32)) = (3 : Int32) from by decide]
          refine y_ineg X0 hx hby d13_70 ?_
          rw [show ((-(3 : Int32))) = (-3 : Int32) from by decide]
          exact retI X0 hx Bd.returns (hb hby d13_71) hr
        · show QP _ h0 n0 _ s₁.heap _
          rw [e0, show f13_3 a1 p4 k1 x0 x1 x2 = (-3 : Int32) from by unfold f13_3; rw [if_pos hc191, if_neg hc194, if_pos hc196]]
          exact ⟨rfl, N0, rfl⟩
      · obtain ⟨fs, hr, hrun, hended, hW, hsame⟩ := X0.leave (v := some (.int (2 : Int32))) (fun h => by rw [Bd.returns] at h; cases h)
        refine ⟨_, _, pre197 _ ?_, hrun, hended, _, _, rfl, ?_, ⟨_, rfl⟩, hW, hsame.mono (by decide) (by decide)⟩
        · refine y_icmpYes X0 hx hby (pc' := 60) d13_48 (flt hc196).2.2.2 (by decide) (by decide) ?_
          refine y_iload X0 hx hby d13_60 rfl ?_
          exact retI X0 hx Bd.returns (hb hby d13_62) hr
        · show QP _ h0 n0 _ s₁.heap _
          rw [e0, show f13_3 a1 p4 k1 x0 x1 x2 = (2 : Int32) from by unfold f13_3; rw [if_pos hc191, if_neg hc194, if_neg hc196]]
          exact ⟨rfl, N0, rfl⟩
  · have pre199 : GO p e below (s₁.setTop (mkF m 48 (lo13_3_3 a1 p4 x1) [(.int p4), (.int x1)])) (s₁.setTop (entryFrame m #[(.ref a1), (.int (0 : Int32)), (.int (3 : Int32)), (.int p4)] 8)) := fun t k => by
      refine pre192 _ ?_
      refine y_icmpYes X0 hx hby (pc' := 45) d13_33 (flt hc191).2.1 (by decide) (by decide) ?_
      refine y_iload X0 hx hby d13_45 rfl ?_
      refine y_iloadN X0 hx hby d13_47 rfl ?_
      exact k
    by_cases hc198 : p4 < x1
    · obtain ⟨cl200, Ar200, q200, Sz200, Nn200, Hh200, Gg200⟩ := id V_a1
      have hin200 : ¬ ((0 : Int32) < 0 ∨ cl200.slots.size ≤ ((0 : Int32)).toNatClampNeg) := inb_of Sz200 ⟨by decide, by decide⟩
      have hat200 : cl200.slots[((0 : Int32)).toNatClampNeg]? = some (.int x0) := Hh200.at hin200 rfl
      have pre202 : GO p e below (s₁.setTop (mkF m 33 (lo13_3_11 a1 p4 x0) [(.int p4), (.int x0)])) (s₁.setTop (entryFrame m #[(.ref a1), (.int (0 : Int32)), (.int (3 : Int32)), (.int p4)] 8)) := fun t k => by
        refine pre199 _ ?_
        refine y_icmpNo X0 hx hby d13_48 (tlt hc198).2.2.2 ?_
        refine y_iload X0 hx hby d13_51 rfl ?_
        refine y_iconst X0 hx hby (v := (1 : Int32)) d13_53 rfl ?_
        refine y_isub X0 hx hby d13_54 ?_
        rw [show ((1 : Int32) - (1 : Int32)) = (0 : Int32) from by decide]
        refine y_istore X0 hx hby d13_55 (l' := (lo13_3_9 a1 p4 x1)) rfl ?_
        refine y_goto X0 hx hby (pc' := 63) d13_57 (by decide) (by decide) ?_
        refine y_goto X0 hx hby (pc' := 8) d13_63 (by decide) (by decide) ?_
        refine y_iload X0 hx hby d13_8 rfl ?_
        refine y_iload X0 hx hby d13_10 rfl ?_
        refine y_icmpNo X0 hx hby d13_12 (flt (by decide)).2.2.1 ?_
        refine y_iload X0 hx hby d13_15 rfl ?_
        refine y_iload X0 hx hby d13_17 rfl ?_
        refine y_iadd X0 hx hby d13_19 ?_
        rw [show ((0 : Int32) + (0 : Int32)) = (0 : Int32) from by decide]
        refine y_iconst X0 hx hby (v := (1 : Int32)) d13_20 rfl ?_
        refine y_iushr X0 hx hby d13_21 ?_
        rw [show (((0 : Int32).toUInt32 >>> ((1 : Int32) &&& 31).toUInt32).toInt32) = (0 : Int32) from by decide]
        refine y_istore X0 hx hby d13_22 (l' := (lo13_3_10 a1 p4 x1)) rfl ?_
        refine y_aloadN X0 hx hby d13_24 rfl rfl ?_
        refine y_iload X0 hx hby d13_25 rfl ?_
        refine X0.iaload hx (j := (0 : Int32)) (v := (.int x0)) (by rw [e0]; exact Ar200.1) (State.isArrayOf_alike hZ.alike Ar200.2.1) Ar200.2.2 hin200 hat200 (g := (mkF m 27 (lo13_3_10 a1 p4 x1) [(.int (0 : Int32)), (.ref a1)])) rfl rfl (hb hby d13_27) _ ?_
        show Steps p.tables e below (s₁.setTop (mkF m 28 (lo13_3_10 a1 p4 x1) [(.int x0)])) _
        refine y_istore X0 hx hby d13_28 (l' := (lo13_3_11 a1 p4 x0)) rfl ?_
        refine y_iload X0 hx hby d13_30 rfl ?_
        refine y_iloadN X0 hx hby d13_32 rfl ?_
        exact k
      by_cases hc201 : x0 < p4
      · obtain ⟨fs, hr, hrun, hended, hW, hsame⟩ := X0.leave (v := some (.int (-2 : Int32))) (fun h => by rw [Bd.returns] at h; cases h)
        refine ⟨_, _, pre202 _ ?_, hrun, hended, _, _, rfl, ?_, ⟨_, rfl⟩, hW, hsame.mono (by decide) (by decide)⟩
        · refine y_icmpNo X0 hx hby d13_33 (tlt hc201).2.1 ?_
          refine y_iload X0 hx hby d13_36 rfl ?_
          refine y_iconst X0 hx hby (v := (1 : Int32)) d13_38 rfl ?_
          refine y_iadd X0 hx hby d13_39 ?_
          rw [show ((0 : Int32) + (1 : Int32)) = (1 : Int32) from by decide]
          refine y_istore X0 hx hby d13_40 (l' := (lo13_3_12 a1 p4 x0)) rfl ?_
          refine y_goto X0 hx hby (pc' := 63) d13_42 (by decide) (by decide) ?_
          refine y_goto X0 hx hby (pc' := 8) d13_63 (by decide) (by decide) ?_
          refine y_iload X0 hx hby d13_8 rfl ?_
          refine y_iload X0 hx hby d13_10 rfl ?_
          refine y_icmpYes X0 hx hby (pc' := 66) d13_12 (tlt (by decide)).2.2.1 (by decide) (by decide) ?_
          refine y_iload X0 hx hby d13_66 rfl ?_
          refine y_iconst X0 hx hby (v := (1 : Int32)) d13_68 rfl ?_
          refine y_iadd X0 hx hby d13_69 ?_
          rw [show ((1 : Int32) + (1 : Int32)) = (2 : Int32) from by decide]
          refine y_ineg X0 hx hby d13_70 ?_
          rw [show ((-(2 : Int32))) = (-2 : Int32) from by decide]
          exact retI X0 hx Bd.returns (hb hby d13_71) hr
        · show QP _ h0 n0 _ s₁.heap _
          rw [e0, show f13_3 a1 p4 k1 x0 x1 x2 = (-2 : Int32) from by unfold f13_3; rw [if_neg hc191, if_pos hc198, if_pos hc201]]
          exact ⟨rfl, N0, rfl⟩
      · have pre204 : GO p e below (s₁.setTop (mkF m 48 (lo13_3_11 a1 p4 x0) [(.int p4), (.int x0)])) (s₁.setTop (entryFrame m #[(.ref a1), (.int (0 : Int32)), (.int (3 : Int32)), (.int p4)] 8)) := fun t k => by
          refine pre202 _ ?_
          refine y_icmpYes X0 hx hby (pc' := 45) d13_33 (flt hc201).2.1 (by decide) (by decide) ?_
          refine y_iload X0 hx hby d13_45 rfl ?_
          refine y_iloadN X0 hx hby d13_47 rfl ?_
          exact k
        by_cases hc203 : p4 < x0
        · obtain ⟨fs, hr, hrun, hended, hW, hsame⟩ := X0.leave (v := some (.int (-1 : Int32))) (fun h => by rw [Bd.returns] at h; cases h)
          refine ⟨_, _, pre204 _ ?_, hrun, hended, _, _, rfl, ?_, ⟨_, rfl⟩, hW, hsame.mono (by decide) (by decide)⟩
          · refine y_icmpNo X0 hx hby d13_48 (tlt hc203).2.2.2 ?_
            refine y_iload X0 hx hby d13_51 rfl ?_
            refine y_iconst X0 hx hby (v := (1 : Int32)) d13_53 rfl ?_
            refine y_isub X0 hx hby d13_54 ?_
            rw [show ((0 : Int32) - (1 : Int32)) = (-1 : Int32) from by decide]
            refine y_istore X0 hx hby d13_55 (l' := (lo13_3_13 a1 p4 x0)) rfl ?_
            refine y_goto X0 hx hby (pc' := 63) d13_57 (by decide) (by decide) ?_
            refine y_goto X0 hx hby (pc' := 8) d13_63 (by decide) (by decide) ?_
            refine y_iload X0 hx hby d13_8 rfl ?_
            refine y_iload X0 hx hby d13_10 rfl ?_
            refine y_icmpYes X0 hx hby (pc' := 66) d13_12 (tlt (by decide)).2.2.1 (by decide) (by decide) ?_
            refine y_iload X0 hx hby d13_66 rfl ?_
            refine y_iconst X0 hx hby (v := (1 : Int32)) d13_68 rfl ?_
            refine y_iadd X0 hx hby d13_69 ?_
            rw [show ((0 : Int32) + (1 : Int32)) = (1 : Int32) from by decide]
            refine y_ineg X0 hx hby d13_70 ?_
            rw [show ((-(1 : Int32))) = (-1 : Int32) from by decide]
            exact retI X0 hx Bd.returns (hb hby d13_71) hr
          · show QP _ h0 n0 _ s₁.heap _
            rw [e0, show f13_3 a1 p4 k1 x0 x1 x2 = (-1 : Int32) from by unfold f13_3; rw [if_neg hc191, if_pos hc198, if_neg hc201, if_pos hc203]]
            exact ⟨rfl, N0, rfl⟩
        · obtain ⟨fs, hr, hrun, hended, hW, hsame⟩ := X0.leave (v := some (.int (0 : Int32))) (fun h => by rw [Bd.returns] at h; cases h)
          refine ⟨_, _, pre204 _ ?_, hrun, hended, _, _, rfl, ?_, ⟨_, rfl⟩, hW, hsame.mono (by decide) (by decide)⟩
          · refine y_icmpYes X0 hx hby (pc' := 60) d13_48 (flt hc203).2.2.2 (by decide) (by decide) ?_
            refine y_iload X0 hx hby d13_60 rfl ?_
            exact retI X0 hx Bd.returns (hb hby d13_62) hr
          · show QP _ h0 n0 _ s₁.heap _
            rw [e0, show f13_3 a1 p4 k1 x0 x1 x2 = (0 : Int32) from by unfold f13_3; rw [if_neg hc191, if_pos hc198, if_neg hc201, if_neg hc203]]
            exact ⟨rfl, N0, rfl⟩
    · obtain ⟨fs, hr, hrun, hended, hW, hsame⟩ := X0.leave (v := some (.int (1 : Int32))) (fun h => by rw [Bd.returns] at h; cases h)
      refine ⟨_, _, pre199 _ ?_, hrun, hended, _, _, rfl, ?_, ⟨_, rfl⟩, hW, hsame.mono (by decide) (by decide)⟩
      · refine y_icmpYes X0 hx hby (pc' := 60) d13_48 (flt hc198).2.2.2 (by decide) (by decide) ?_
        refine y_iload X0 hx hby d13_60 rfl ?_
        exact retI X0 hx Bd.returns (hb hby d13_62) hr
      · show QP _ h0 n0 _ s₁.heap _
        rw [e0, show f13_3 a1 p4 k1 x0 x1 x2 = (1 : Int32) from by unfold f13_3; rw [if_neg hc191, if_neg hc198]]
        exact ⟨rfl, N0, rfl⟩
abbrev bs_3 (p4 x0 x1 x2 : Int32) : Int32 := f13_3 (0 : Addr) p4 (0 : ClassId) x0 x1 x2
set_option maxRecDepth 65536 in
set_option maxHeartbeats 40000000 in
theorem rm12_3 (l : Launch) (Z : State) (a0 : Array Value) (hw : HW a0 Z) (ws : List Jvm.Cond) (a1 : Addr) (p2 : Int32) (k1 : ClassId) (x0 x1 x2 : Int32) (h0 : Heap) (n0 : Nat) (Z0 : n0 ≤ h0.size) (V_a1 : Arv Z h0 a1 k1 .int (3 : Int32) [(.int x0), (.int x1), (.int x2)] (.int (0 : Int32))) :
    MF l mn10 jdk_65_method_57_code 2 (some .int) ws ({ frames := 1, cells := 0, slots := 0, locals := 19 } : Room) #[(.ref a1), (.int p2)] Z h0 (QP (some (.int (bs_3 p2 x0 x1 x2))) h0 n0) := by
  refine MetFree.of_bodySF (plainFor_of_name pn_5) hisR ?_
  intro p e s m args below meth c s₁ Bd hml0 hP hK
  obtain ⟨rfl, hZ, hh⟩ := hP
  have hx := Bd.exec
  have hby := Bd.bytes
  have hml : c.maxLocals = 2 := hml0
  have hown : s.vm.findClass "java/util/Arrays" = some m.cls := findClass_of_methodNamed Bd.named
  have hnm := (name_of_methodNamed Bd.named Bd.method).1
  have X0 : Stand p l e ({ frames := 1, cells := 0, slots := 0, locals := 19 } : Room) s m #[(.ref a1), (.int p2)] below meth c s₁ [] 0 0 := Stand.of_body Bd
  have e0 : s₁.heap = h0 := by rw [← hh, Bd.state]; rfl
  have N0 := Fr.nil n0
  have pre0 : GO p e below (s₁.setTop (mkF m 0 #[.val (.ref a1), .val (.int p2)] [])) (s₁.setTop (entryFrame m #[(.ref a1), (.int p2)] 2)) := fun t k => castTop (ef_12 m a1 p2) k
  obtain ⟨cl205, Ar205, q205, Sz205, Nn205, Hh205, Gg205⟩ := id V_a1
  obtain ⟨_, _, ⟨T206, L206, k206, n206⟩, -, X206, ⟨Lc206, hQ206, l206, y206, z206⟩, st206⟩ := Jvm.LawKit.callS X0 hx (y := mn9) hown (mvT hZ (ww hw 72 rfl)) (mvT hZ (ww hw 73 rfl)) (mvT hZ (ww hw 32 rfl)) (mvT hZ (ww hw 74 rfl)) (by decide) (backOf (W := 0) (rm13_3 l Z a0 hw [] a1 p2 k1 x0 x1 x2 h0 n0 Z0 V_a1) hZ (ww hw 74 rfl) (ww hw 32 rfl) (by decide) (by decide)) (g := (mkF m 5 #[.val (.ref a1), .val (.int p2)] [(.int p2), (.int (3 : Int32)), (.int (0 : Int32)), (.ref a1)])) rfl (by rw [hml]; rfl) (argsL := [(.ref a1), (.int (0 : Int32)), (.int (3 : Int32)), (.int p2)]) (rest := []) (lenOf pd_3 rfl) rfl (by show 2 * 0 + _ ≤ _; exact Nat.le_of_eq rfl) (hb hby d12_5) (fun _ _ => ⟨rfl, e0, (by decide : 0 + 0 ≤ _), (by decide : 0 + 0 ≤ _)⟩)
  dsimp only [Pt.U, Pt.locs, Pt.cells, Pt.slots] at X206 l206 y206 z206 st206 hQ206
  subst l206 y206 z206
  obtain ⟨rfl, N206q, e206⟩ := hQ206
  have N206 := Fr.app N0 N206q
  obtain ⟨fs, hr, hrun, hended, hW, hsame⟩ := X206.leave (v := some (.int (bs_3 p2 x0 x1 x2))) (fun h => by rw [Bd.returns] at h; cases h)
  refine ⟨_, _, pre0 _ ?_, hrun, hended, _, _, rfl, ?_, ⟨_, rfl⟩, hW, hsame.mono (by decide) (by decide)⟩
  · refine y_aloadN X0 hx hby d12_0 rfl rfl ?_
    refine y_iconst X0 hx hby (v := (0 : Int32)) d12_1 rfl ?_
    refine y_aloadN X0 hx hby d12_2 rfl rfl ?_
    refine X0.arraylength hx (by rw [e0]; exact Ar205.1) (State.isArrayOf_alike hZ.alike Ar205.2.1) (g := (mkF m 3 #[.val (.ref a1), .val (.int p2)] [(.ref a1), (.int (0 : Int32)), (.ref a1)])) rfl rfl (hb hby d12_3) _ ?_
    rw [len_of Sz205 Nn205]
    show Steps p.tables e below (s₁.setTop (mkF m 4 #[.val (.ref a1), .val (.int p2)] [(.int (3 : Int32)), (.int (0 : Int32)), (.ref a1)])) _
    refine y_iloadN X0 hx hby d12_4 rfl ?_
    refine st206 _ ?_
    show Steps p.tables e below (T206.setTop (mkF m 8 #[.val (.ref a1), .val (.int p2)] [(.int (bs_3 p2 x0 x1 x2))])) _
    exact retI X206 hx Bd.returns (hb hby d12_8) hr
  · show QP _ h0 n0 _ T206.heap _
    rw [e206]
    exact ⟨rfl, N206, rfl⟩
set_option maxRecDepth 65536 in
set_option maxHeartbeats 40000000 in
theorem rm11_3 (l : Launch) (Z : State) (a0 : Array Value) (hw : HW a0 Z) (ws : List Jvm.Cond) (a1 : Addr) (p2 : Int32) (aB : Addr) (kB : ClassId) (x0 x1 x2 : Int32) (h0 : Heap) (n0 : Nat) (Z0 : n0 ≤ h0.size) (E_a1 : Exa Z h0 a1 "com/example/hard_delay_bounds/harddelaybounds/analysis/FlowSet") (F_numbers_a1 : Fld Z h0 a1 "com/example/hard_delay_bounds/harddelaybounds/analysis/FlowSet" "numbers" "[I" (.ref aB)) (V_aB : Arv Z h0 aB kB .int (3 : Int32) [(.int x0), (.int x1), (.int x2)] (.int (0 : Int32))) :
    MF l mn11 prog_17_method_4_code 2 (some .int) ws ({ frames := 2, cells := 0, slots := 0, locals := 32 } : Room) #[(.ref a1), (.int p2)] Z h0 (QP (some (.int (bs_3 p2 x0 x1 x2))) h0 n0) := by
  refine MetFree.of_bodySF (plainFor_of_name pn_6) hisR ?_
  intro p e s m args below meth c s₁ Bd hml0 hP hK
  obtain ⟨rfl, hZ, hh⟩ := hP
  have hx := Bd.exec
  have hby := Bd.bytes
  have hml : c.maxLocals = 2 := hml0
  have hown : s.vm.findClass "com/example/hard_delay_bounds/harddelaybounds/analysis/FlowSet" = some m.cls := findClass_of_methodNamed Bd.named
  have hnm := (name_of_methodNamed Bd.named Bd.method).1
  have X0 : Stand p l e ({ frames := 2, cells := 0, slots := 0, locals := 32 } : Room) s m #[(.ref a1), (.int p2)] below meth c s₁ [] 0 0 := Stand.of_body Bd
  have e0 : s₁.heap = h0 := by rw [← hh, Bd.state]; rfl
  have N0 := Fr.nil n0
  have pre0 : GO p e below (s₁.setTop (mkF m 0 #[.val (.ref a1), .val (.int p2)] [])) (s₁.setTop (entryFrame m #[(.ref a1), (.int p2)] 2)) := fun t k => castTop (ef_11 m a1 p2) k
  obtain ⟨T207, X207, e207, st207⟩ := getF X0 hx hZ hown (host := "") (Or.inl (ww hw 43 rfl)) Via.refl e0 F_numbers_a1 (g := (mkF m 1 #[.val (.ref a1), .val (.int p2)] [(.ref a1)])) rfl rfl (hb hby d11_1)
  obtain ⟨_, _, ⟨T208, L208, k208, n208⟩, -, X208, ⟨Lc208, hQ208, l208, y208, z208⟩, st208⟩ := Jvm.LawKit.callS X207 hx (y := mn10) hown (mvT hZ (ww hw 69 rfl)) (mvT hZ (ww hw 70 rfl)) (mvT hZ (ww hw 32 rfl)) (mvT hZ (ww hw 71 rfl)) (by decide) (backOf (W := 0) (rm12_3 l Z a0 hw [] aB p2 kB x0 x1 x2 h0 n0 Z0 V_aB) hZ (ww hw 71 rfl) (ww hw 32 rfl) (by decide) (by decide)) (g := (mkF m 5 #[.val (.ref a1), .val (.int p2)] [(.int p2), (.ref aB)])) rfl (by rw [hml]; rfl) (argsL := [(.ref aB), (.int p2)]) (rest := []) (lenOf pd_4 rfl) rfl (by show 2 * 0 + _ ≤ _; exact Nat.le_of_eq rfl) (hb hby d11_5) (fun _ _ => ⟨rfl, e207, (by decide : 0 + 0 ≤ _), (by decide : 0 + 0 ≤ _)⟩)
  dsimp only [Pt.U, Pt.locs, Pt.cells, Pt.slots] at X208 l208 y208 z208 st208 hQ208
  subst l208 y208 z208
  obtain ⟨rfl, N208q, e208⟩ := hQ208
  have N208 := Fr.app N0 N208q
  obtain ⟨fs, hr, hrun, hended, hW, hsame⟩ := X208.leave (v := some (.int (bs_3 p2 x0 x1 x2))) (fun h => by rw [Bd.returns] at h; cases h)
  refine ⟨_, _, pre0 _ ?_, hrun, hended, _, _, rfl, ?_, ⟨_, rfl⟩, hW, hsame.mono (by decide) (by decide)⟩
  · refine y_aloadN X0 hx hby d11_0 rfl rfl ?_
    refine st207 _ ?_
    show Steps p.tables e below (T207.setTop (mkF m 4 #[.val (.ref a1), .val (.int p2)] [(.ref aB)])) _
    refine y_iloadN X207 hx hby d11_4 rfl ?_
    refine st208 _ ?_
    show Steps p.tables e below (T208.setTop (mkF m 8 #[.val (.ref a1), .val (.int p2)] [(.int (bs_3 p2 x0 x1 x2))])) _
    exact retI X208 hx Bd.returns (hb hby d11_8) hr
  · show QP _ h0 n0 _ T208.heap _
    rw [e208]
    exact ⟨rfl, N208, rfl⟩
def f10_3 (a1 : Addr) (p2 : Int32) (aB : Addr) (kB : ClassId) (x0 x1 x2 : Int32) : Int32 := (if (bs_3 p2 x0 x1 x2) < (0 : Int32) then (0 : Int32) else (1 : Int32))
set_option maxRecDepth 65536 in
set_option maxHeartbeats 40000000 in
theorem rm10_3 (l : Launch) (Z : State) (a0 : Array Value) (hw : HW a0 Z) (ws : List Jvm.Cond) (a1 : Addr) (p2 : Int32) (aB : Addr) (kB : ClassId) (x0 x1 x2 : Int32) (h0 : Heap) (n0 : Nat) (Z0 : n0 ≤ h0.size) (E_a1 : Exa Z h0 a1 "com/example/hard_delay_bounds/harddelaybounds/analysis/FlowSet") (F_numbers_a1 : Fld Z h0 a1 "com/example/hard_delay_bounds/harddelaybounds/analysis/FlowSet" "numbers" "[I" (.ref aB)) (V_aB : Arv Z h0 aB kB .int (3 : Int32) [(.int x0), (.int x1), (.int x2)] (.int (0 : Int32))) :
    MF l mn12 prog_17_method_5_code 2 (some .boolean) ws ({ frames := 3, cells := 0, slots := 0, locals := 45 } : Room) #[(.ref a1), (.int p2)] Z h0 (QP (some (.int (f10_3 a1 p2 aB kB x0 x1 x2))) h0 n0) := by
  refine MetFree.of_bodySF (plainFor_of_name pn_6) hisR ?_
  intro p e s m args below meth c s₁ Bd hml0 hP hK
  obtain ⟨rfl, hZ, hh⟩ := hP
  have hx := Bd.exec
  have hby := Bd.bytes
  have hml : c.maxLocals = 2 := hml0
  have hown : s.vm.findClass "com/example/hard_delay_bounds/harddelaybounds/analysis/FlowSet" = some m.cls := findClass_of_methodNamed Bd.named
  have hnm := (name_of_methodNamed Bd.named Bd.method).1
  have X0 : Stand p l e ({ frames := 3, cells := 0, slots := 0, locals := 45 } : Room) s m #[(.ref a1), (.int p2)] below meth c s₁ [] 0 0 := Stand.of_body Bd
  have e0 : s₁.heap = h0 := by rw [← hh, Bd.state]; rfl
  have N0 := Fr.nil n0
  have pre0 : GO p e below (s₁.setTop (mkF m 0 #[.val (.ref a1), .val (.int p2)] [])) (s₁.setTop (entryFrame m #[(.ref a1), (.int p2)] 2)) := fun t k => castTop (ef_10 m a1 p2) k
  obtain ⟨cq209, kq209, q209a, q209b, q209c⟩ := isOf hZ e0 E_a1
  obtain ⟨_, _, ⟨T209, L209, k209, n209⟩, -, X209, ⟨Lc209, hQ209, l209, y209, z209⟩, st209⟩ := X0.virtualBack hx (y := mn11) (z := mn11) hown (mvT hZ (ww hw 64 rfl)) (mvT hZ (ww hw 65 rfl)) (notFace_of_selects (args := #[]) (mvT hZ (ww hw 67 rfl))) (mvT hZ (ww hw 67 rfl)) (mvT hZ (ww hw 66 rfl)) (by decide) (backOf (W := 0) (rm11_3 l Z a0 hw [] a1 p2 aB kB x0 x1 x2 h0 n0 Z0 E_a1 F_numbers_a1 V_aB) hZ (ww hw 68 rfl) (ww hw 27 rfl) (by decide) (by decide)) q209a q209c (g := (mkF m 2 #[.val (.ref a1), .val (.int p2)] [(.int p2), (.ref a1)])) rfl (by rw [hml]; rfl) (Steps.refl _) (argsL := [(.int p2)]) (rest := []) (lenOf pd_5 rfl) rfl (by show 2 * 0 + _ ≤ _; exact Nat.le_of_eq rfl) (hb hby d10_2) (fun _ _ => ⟨rfl, e0, (by decide : 0 + 0 ≤ _), (by decide : 0 + 0 ≤ _)⟩)
  dsimp only [Pt.U, Pt.locs, Pt.cells, Pt.slots] at X209 l209 y209 z209 st209 hQ209
  subst l209 y209 z209
  obtain ⟨rfl, N209q, e209⟩ := hQ209
  have N209 := Fr.app N0 N209q
  have pre211 : GO p e below (T209.setTop (mkF m 5 #[.val (.ref a1), .val (.int p2)] [(.int (bs_3 p2 x0 x1 x2))])) (s₁.setTop (entryFrame m #[(.ref a1), (.int p2)] 2)) := fun t k => by
    refine pre0 _ ?_
    refine y_aloadN X0 hx hby d10_0 rfl rfl ?_
    refine y_iloadN X0 hx hby d10_1 rfl ?_
    refine st209.trans ?_
    show Steps p.tables e below (T209.setTop (mkF m 5 #[.val (.ref a1), .val (.int p2)] [(.int (bs_3 p2 x0 x1 x2))])) _
    exact k
  by_cases hc210 : (bs_3 p2 x0 x1 x2) < (0 : Int32)
  · obtain ⟨fs, hr, hrun, hended, hW, hsame⟩ := X209.leave (v := some (.int (0 : Int32))) (fun h => by rw [Bd.returns] at h; cases h)
    refine ⟨_, _, pre211 _ ?_, hrun, hended, _, _, rfl, ?_, ⟨_, rfl⟩, hW, hsame.mono (by decide) (by decide)⟩
    · refine y_ifYes X209 hx hby (pc' := 12) d10_5 ((if0 _ _).trans (tlt hc210).1) (by decide) (by decide) ?_
      refine y_iconst X209 hx hby (v := (0 : Int32)) d10_12 rfl ?_
      exact retN X209 hx (t := .boolean) Bd.returns (by simp) (hb hby d10_13) hr
    · show QP _ h0 n0 _ T209.heap _
      rw [e209, show f10_3 a1 p2 aB kB x0 x1 x2 = (0 : Int32) from by unfold f10_3; rw [if_pos hc210]]
      exact ⟨rfl, N209, rfl⟩
  · obtain ⟨fs, hr, hrun, hended, hW, hsame⟩ := X209.leave (v := some (.int (1 : Int32))) (fun h => by rw [Bd.returns] at h; cases h)
    refine ⟨_, _, pre211 _ ?_, hrun, hended, _, _, rfl, ?_, ⟨_, rfl⟩, hW, hsame.mono (by decide) (by decide)⟩
    · refine y_ifNo X209 hx hby d10_5 ((if0 _ _).trans (flt hc210).1) ?_
      refine y_iconst X209 hx hby (v := (1 : Int32)) d10_8 rfl ?_
      refine y_goto X209 hx hby (pc' := 13) d10_9 (by decide) (by decide) ?_
      exact retN X209 hx (t := .boolean) Bd.returns (by simp) (hb hby d10_13) hr
    · show QP _ h0 n0 _ T209.heap _
      rw [e209, show f10_3 a1 p2 aB kB x0 x1 x2 = (1 : Int32) from by unfold f10_3; rw [if_neg hc210]]
      exact ⟨rfl, N209, rfl⟩
abbrev ct_3 (p2 x0 x1 x2 : Int32) : Int32 := f10_3 (0 : Addr) p2 (0 : Addr) (0 : ClassId) x0 x1 x2
def nu_3 (p2 x0 x1 x2 : Int32) : Int32 := if p2 = (0 : Int32) then x0 else if p2 = (1 : Int32) then x1 else x2
theorem own_nuget_3 {p2 x0 x1 x2 : Int32} (hp : p2 = (0 : Int32) ∨ p2 = (1 : Int32) ∨ p2 = (2 : Int32)) : ¬ p2 < 0 ∧ p2 < (3 : Int32) ∧ ([(.int x0), (.int x1), (.int x2)] : List Value).getD p2.toNatClampNeg (.int (0 : Int32)) = .int (nu_3 p2 x0 x1 x2) := by
  rcases hp with rfl | rfl | rfl <;> exact ⟨by decide, by decide, rfl⟩
theorem d5_6 : decode jdk_65_method_123_code 6 = .ok (.aload_n 0, 1) := by decide +kernel
theorem d5_7 : decode jdk_65_method_123_code 7 = .ok (.invokevirtual 316, 3) := by decide +kernel
theorem d5_10 : decode jdk_65_method_123_code 10 = .ok (.checkcast 317, 3) := by decide +kernel
theorem d5_13 : decode jdk_65_method_123_code 13 = .ok (.areturn, 1) := by decide +kernel
set_option maxRecDepth 65536 in
set_option maxHeartbeats 40000000 in
theorem rm5_4_4_4 (l : Launch) (Z : State) (a0 : Array Value) (hw : HW a0 Z) (ws : List Jvm.Cond) (a1 : Addr) (k1 : ClassId) (x0 x1 x2 x3 : Int32) (h0 : Heap) (n0 : Nat) (Z0 : n0 ≤ h0.size) (E_a1 : Exa Z h0 a1 "[I") (V_a1 : Arv Z h0 a1 k1 .int (4 : Int32) [(.int x0), (.int x1), (.int x2), (.int x3)] (.int (0 : Int32))) :
    MF l mn5 jdk_65_method_123_code 3 (some (.array .int)) ws ({ frames := 1, cells := 1, slots := 4, locals := 14 } : Room) #[(.ref a1), (.int (4 : Int32))] Z h0 (QC Z (4 : Int32) [(.int x0), (.int x1), (.int x2), (.int x3)] h0 n0) := by
  refine MetFree.of_bodySF (plainFor_of_name pn_5) hisR ?_
  intro p e s m args below meth c s₁ Bd hml0 hP hK
  obtain ⟨rfl, hZ, hh⟩ := hP
  have hx := Bd.exec
  have hby := Bd.bytes
  have hml : c.maxLocals = 3 := hml0
  have hown : s.vm.findClass "java/util/Arrays" = some m.cls := findClass_of_methodNamed Bd.named
  have hnm := (name_of_methodNamed Bd.named Bd.method).1
  have X0 : Stand p l e ({ frames := 1, cells := 1, slots := 4, locals := 14 } : Room) s m #[(.ref a1), (.int (4 : Int32))] below meth c s₁ [] 0 0 := Stand.of_body Bd
  have e0 : s₁.heap = h0 := by rw [← hh, Bd.state]; rfl
  have N0 := Fr.nil n0
  have pre0 : GO p e below (s₁.setTop (mkF m 0 #[.val (.ref a1), .val (.int (4 : Int32)), .unset] [])) (s₁.setTop (entryFrame m #[(.ref a1), (.int (4 : Int32))] 3)) := fun t k => castTop (ef_5 m a1 (4 : Int32)) k
  have KK := Keep.refl h0 []
  obtain ⟨cl212, Ar212, q212, Sz212, Nn212, Hh212, Gg212⟩ := id V_a1
  obtain ⟨T213, h213, X213, e213, E213, A213, Ex213, st213⟩ := cloneH X0 hx hZ hown (ww hw 80 rfl) (ww hw 81 rfl) (ww hw 85 rfl) (ww hw 83 rfl) (ww hw 84 rfl) (ww hw 86 rfl) e0 (Arv.arh V_a1) E_a1 (g := (mkF m 7 #[.val (.ref a1), .val (.int (4 : Int32)), .unset] [(.ref a1)])) rfl (by rw [hml]; rfl) rfl (hb hby d5_7) (by decide) (W := 0) (cap := 4) (by show 2 * 0 + _ ≤ _; exact Nat.le_of_eq rfl) (by decide) (by decide) (by decide) (by decide)
  obtain ⟨b213, g213⟩ : ∃ z, z = h0.size := ⟨_, rfl⟩
  rw [← g213] at A213 Ex213 st213
  have g_b213 : n0 ≤ b213 := Nat.le_trans Z0 (Nat.le_of_eq g213.symm)
  have sz_b213 : h0.size ≤ b213 := Nat.le_trans KK.1 (Nat.le_of_eq g213.symm)
  have ne_a1_b213 : a1 ≠ b213 := Nat.ne_of_lt (Nat.lt_of_lt_of_le E_a1.lt (Nat.le_of_eq g213.symm))
  replace E_a1 := E_a1.ext E213
  replace V_a1 := V_a1.ext E213
  replace Z0 := Nat.le_trans Z0 E213.1
  replace KK := KK.ext E213
  have V_b213 : Arv Z h213 b213 k1 .int (4 : Int32) [(.int x0), (.int x1), (.int x2), (.int x3)] (.int (0 : Int32)) := A213
  have E_b213 := Ex213
  obtain ⟨T214, X214, e214, st214⟩ := castY X213 hx hZ hown (ww hw 87 rfl) e213 (Ins.self E_b213) (g := (mkF m 10 #[.val (.ref a1), .val (.int (4 : Int32)), .unset] [(.ref b213)])) rfl rfl (hb hby d5_10)
  obtain ⟨fs, hr, hrun, hended, hW, hsame⟩ := X214.leave (v := some (.ref b213)) (fun h => by rw [Bd.returns] at h; cases h)
  refine ⟨_, _, pre0 _ ?_, hrun, hended, _, _, rfl, ?_, ⟨_, rfl⟩, hW, hsame.mono (by decide) (by decide)⟩
  · refine y_iloadN X0 hx hby d5_0 rfl ?_
    refine y_aloadN X0 hx hby d5_1 rfl rfl ?_
    refine X0.arraylength hx (by rw [e0]; exact Ar212.1) (State.isArrayOf_alike hZ.alike Ar212.2.1) (g := (mkF m 2 #[.val (.ref a1), .val (.int (4 : Int32)), .unset] [(.ref a1), (.int (4 : Int32))])) rfl rfl (hb hby d5_2) _ ?_
    rw [len_of Sz212 Nn212]
    show Steps p.tables e below (s₁.setTop (mkF m 3 #[.val (.ref a1), .val (.int (4 : Int32)), .unset] [(.int (4 : Int32)), (.int (4 : Int32))])) _
    refine y_icmpNo X0 hx hby d5_3 (teq rfl).2 ?_
    refine y_aloadN X0 hx hby d5_6 rfl rfl ?_
    refine st213 _ ?_
    show Steps p.tables e below (T213.setTop (mkF m 10 #[.val (.ref a1), .val (.int (4 : Int32)), .unset] [(.ref b213)])) _
    refine st214 _ ?_
    show Steps p.tables e below (T214.setTop (mkF m 13 #[.val (.ref a1), .val (.int (4 : Int32)), .unset] [(.ref b213)])) _
    jvm_step X214.here [X214.here.top, hx, (hb hby d5_13), X214.method', Bd.returns, Value.isRef, FieldType.isReference]
    first | (intro acts; rw [hr _ acts rfl rfl rfl]) | rw [hr _ _ rfl rfl rfl]
    exact Steps.refl _
  · show QC Z (4 : Int32) [(.int x0), (.int x1), (.int x2), (.int x3)] h0 n0 _ T214.heap _
    rw [e214]
    exact ⟨b213, _, rfl, N0, KK, sz_b213, V_b213, E_b213⟩
set_option maxRecDepth 65536 in
set_option maxHeartbeats 40000000 in
theorem rm4_4 (l : Launch) (Z : State) (a0 : Array Value) (hw : HW a0 Z) (ws : List Jvm.Cond) (a1 aA : Addr) (kA : ClassId) (x0 x1 x2 x3 : Int32) (h0 : Heap) (n0 : Nat) (Z0 : n0 ≤ h0.size) (E_a1 : Exa Z h0 a1 "com/example/hard_delay_bounds/harddelaybounds/analysis/FlowSet$Builder") (F_numbers_a1 : Fld Z h0 a1 "com/example/hard_delay_bounds/harddelaybounds/analysis/FlowSet$Builder" "numbers" "[I" (.ref aA)) (F_size_a1 : Fld Z h0 a1 "com/example/hard_delay_bounds/harddelaybounds/analysis/FlowSet$Builder" "size" "I" (.int (4 : Int32))) (E_aA : Exa Z h0 aA "[I") (V_aA : Arv Z h0 aA kA .int (4 : Int32) [(.int x0), (.int x1), (.int x2), (.int x3)] (.int (0 : Int32))) (ne_a1_aA : a1 ≠ aA) :
    MF l mn7 prog_18_method_3_code 1 (some (.object "com/example/hard_delay_bounds/harddelaybounds/analysis/FlowSet")) ws ({ frames := 2, cells := 2, slots := 6, locals := 31 } : Room) #[(.ref a1)] Z h0 (QS Z (4 : Int32) [(.int x0), (.int x1), (.int x2), (.int x3)] h0 n0) := by
  refine MetFree.of_bodySF (plainFor_of_name pn_2) hisR ?_
  intro p e s m args below meth c s₁ Bd hml0 hP hK
  obtain ⟨rfl, hZ, hh⟩ := hP
  have hx := Bd.exec
  have hby := Bd.bytes
  have hml : c.maxLocals = 1 := hml0
  have hown : s.vm.findClass "com/example/hard_delay_bounds/harddelaybounds/analysis/FlowSet$Builder" = some m.cls := findClass_of_methodNamed Bd.named
  have hnm := (name_of_methodNamed Bd.named Bd.method).1
  have X0 : Stand p l e ({ frames := 2, cells := 2, slots := 6, locals := 31 } : Room) s m #[(.ref a1)] below meth c s₁ [] 0 0 := Stand.of_body Bd
  have e0 : s₁.heap = h0 := by rw [← hh, Bd.state]; rfl
  have N0 := Fr.nil n0
  have pre0 : GO p e below (s₁.setTop (mkF m 0 #[.val (.ref a1)] [])) (s₁.setTop (entryFrame m #[(.ref a1)] 1)) := fun t k => castTop (ef_4 m a1) k
  have KK := Keep.refl h0 []
  obtain ⟨T215, h215, X215, e215, E215, A215, D215, -, st215⟩ := newO X0 hx hZ hown (ww hw 25 rfl) (ww hw 26 rfl) (ww hw 27 rfl) e0 (g := (mkF m 0 #[.val (.ref a1)] [])) rfl (hb hby d4_0) (by decide) (by decide)
  obtain ⟨b215, g215⟩ : ∃ z, z = h0.size := ⟨_, rfl⟩
  rw [← g215] at A215 D215 st215
  have g_b215 : n0 ≤ b215 := Nat.le_trans Z0 (Nat.le_of_eq g215.symm)
  have sz_b215 : h0.size ≤ b215 := Nat.le_trans KK.1 (Nat.le_of_eq g215.symm)
  have ne_a1_b215 : a1 ≠ b215 := Nat.ne_of_lt (Nat.lt_of_lt_of_le E_a1.lt (Nat.le_of_eq g215.symm))
  have ne_aA_b215 : aA ≠ b215 := Nat.ne_of_lt (Nat.lt_of_lt_of_le E_aA.lt (Nat.le_of_eq g215.symm))
  replace E_a1 := E_a1.ext E215
  replace F_numbers_a1 := F_numbers_a1.ext E215
  replace F_size_a1 := F_size_a1.ext E215
  replace E_aA := E_aA.ext E215
  replace V_aA := V_aA.ext E215
  replace Z0 := Nat.le_trans Z0 E215.1
  replace KK := KK.ext E215
  have E_b215 := A215
  have F_numbers_b215 : Fld Z h215 b215 "com/example/hard_delay_bounds/harddelaybounds/analysis/FlowSet" "numbers" "[I" .null := D215 (Or.inr (ww hw 44 rfl)) (ty := (.array .int)) (by decide)
  have F_hash_b215 : Fld Z h215 b215 "com/example/hard_delay_bounds/harddelaybounds/analysis/FlowSet" "hash" "I" (.int (0 : Int32)) := D215 (Or.inr (ww hw 46 rfl)) (ty := .int) (by decide)
  obtain ⟨T216, X216, e216, st216⟩ := getF X215 hx hZ hown (host := "") (Or.inl (ww hw 18 rfl)) Via.refl e215 F_numbers_a1 (g := (mkF m 5 #[.val (.ref a1)] [(.ref a1), (.ref b215), (.ref b215)])) rfl rfl (hb hby d4_5)
  obtain ⟨T217, X217, e217, st217⟩ := getF X216 hx hZ hown (host := "") (Or.inl (ww hw 28 rfl)) Via.refl e216 F_size_a1 (g := (mkF m 9 #[.val (.ref a1)] [(.ref a1), (.ref aA), (.ref b215), (.ref b215)])) rfl rfl (hb hby d4_9)
  obtain ⟨_, _, ⟨T218, L218, k218, n218⟩, -, X218, ⟨Lc218, hQ218, l218, y218, z218⟩, st218⟩ := Jvm.LawKit.callS X217 hx (y := mn5) hown (mvT hZ (ww hw 30 rfl)) (mvT hZ (ww hw 31 rfl)) (mvT hZ (ww hw 32 rfl)) (mvT hZ (ww hw 33 rfl)) (by decide) (backOf (W := 2) (rm5_4_4_4 l Z a0 hw [] aA kA x0 x1 x2 x3 h215 n0 Z0 E_aA V_aA) hZ (ww hw 33 rfl) (ww hw 32 rfl) (by decide) (by decide)) (g := (mkF m 12 #[.val (.ref a1)] [(.int (4 : Int32)), (.ref aA), (.ref b215), (.ref b215)])) rfl (by rw [hml]; rfl) (argsL := [(.ref aA), (.int (4 : Int32))]) (rest := [(.ref b215), (.ref b215)]) (lenOf pd_1 rfl) rfl (by show 2 * 0 + _ ≤ _; exact Nat.le_of_eq rfl) (hb hby d4_12) (fun _ _ => ⟨rfl, e217, (by decide : 1 + 1 ≤ _), (by decide : 2 + 4 ≤ _)⟩)
  dsimp only [Pt.U, Pt.locs, Pt.cells, Pt.slots] at X218 l218 y218 z218 st218 hQ218
  subst l218 y218 z218
  obtain ⟨h218, e218⟩ : ∃ z, T218.heap = z := ⟨_, rfl⟩
  rw [e218] at hQ218
  obtain ⟨b218, k218, rfl, N218q, K218, s218, Vn218, En218⟩ := hQ218
  have g_b218 : n0 ≤ b218 := Nat.le_trans Z0 s218
  have sz_b218 : h0.size ≤ b218 := Nat.le_trans KK.1 s218
  have ne_a1_b218 : a1 ≠ b218 := Nat.ne_of_lt (Nat.lt_of_lt_of_le E_a1.lt s218)
  have ne_aA_b218 : aA ≠ b218 := Nat.ne_of_lt (Nat.lt_of_lt_of_le E_aA.lt s218)
  have ne_b215_b218 : b215 ≠ b218 := Nat.ne_of_lt (Nat.lt_of_lt_of_le E_b215.lt s218)
  replace E_a1 := E_a1.keep K218
  replace F_numbers_a1 := F_numbers_a1.keep K218 nin0
  replace F_size_a1 := F_size_a1.keep K218 nin0
  replace E_aA := E_aA.keep K218
  replace V_aA := V_aA.keep K218 nin0
  replace E_b215 := E_b215.keep K218
  replace F_numbers_b215 := F_numbers_b215.keep K218 nin0
  replace F_hash_b215 := F_hash_b215.keep K218 nin0
  replace Z0 := Nat.le_trans Z0 K218.1
  replace KK := KK.trans K218 all0
  have V_b218 : Arv Z h218 b218 k218 .int (4 : Int32) [(.int x0), (.int x1), (.int x2), (.int x3)] (.int (0 : Int32)) := Vn218
  have E_b218 := En218
  have N218 := Fr.app N0 N218q
  obtain ⟨_, _, ⟨T219, L219, k219, n219⟩, -, X219, ⟨Lc219, hQ219, l219, y219, z219⟩, st219⟩ := X218.specialBackNest hx (y := mn6) rfl hown (own_mvMN hZ (ww hw 39 rfl)) (mvT hZ (ww hw 40 rfl)) (mvT hZ (ww hw 41 rfl)) (by decide) (backOf (W := 1) (rm6 l Z a0 hw [] b215 b218 k218 _ _ h218 n0 Z0 E_b215 F_numbers_b215 F_hash_b215 V_b218 g_b215 ne_b215_b218) hZ (ww hw 41 rfl) (ww hw 27 rfl) (by decide) (by decide)) (g := (mkF m 15 #[.val (.ref a1)] [(.ref b218), (.ref b215), (.ref b215)])) rfl (by rw [hml]; rfl) (Steps.refl _) (a := b215) (argsL := [(.ref b218)]) (rest := [(.ref b215)]) (lenOf pd_2 rfl) rfl (by show 2 * 0 + _ ≤ _; exact Nat.le_of_eq rfl) (hb hby d4_15) (fun _ _ => ⟨rfl, e218, (by decide : 2 + 0 ≤ _), (by decide : 6 + 0 ≤ _)⟩)
  dsimp only [Pt.U, Pt.locs, Pt.cells, Pt.slots] at X219 l219 y219 z219 st219 hQ219
  subst l219 y219 z219
  obtain ⟨h219, e219⟩ : ∃ z, T219.heap = z := ⟨_, rfl⟩
  rw [e219] at hQ219
  obtain ⟨rfl, N219q, K219, Fn219⟩ := hQ219
  replace E_a1 := E_a1.keep K219
  replace F_numbers_a1 := F_numbers_a1.keep K219 (ninS ne_a1_b215 nin0)
  replace F_size_a1 := F_size_a1.keep K219 (ninS ne_a1_b215 nin0)
  replace E_aA := E_aA.keep K219
  replace V_aA := V_aA.keep K219 (ninS ne_aA_b215 nin0)
  replace E_b215 := E_b215.keep K219
  replace V_b218 := V_b218.keep K219 (ninS (Ne.symm ne_b215_b218) nin0)
  replace E_b218 := E_b218.keep K219
  replace Z0 := Nat.le_trans Z0 K219.1
  replace KK := KK.trans K219 (allS (Or.inr sz_b215) all0)
  have F_numbers_b215 := Fn219
  have N219 := Fr.app N218 N219q
  obtain ⟨fs, hr, hrun, hended, hW, hsame⟩ := X219.leave (v := some (.ref b215)) (fun h => by rw [Bd.returns] at h; cases h)
  refine ⟨_, _, pre0 _ ?_, hrun, hended, _, _, rfl, ?_, ⟨_, rfl⟩, hW, hsame.mono (by decide) (by decide)⟩
  · refine st215 _ ?_
    show Steps p.tables e below (T215.setTop (mkF m 3 #[.val (.ref a1)] [(.ref b215)])) _
    refine y_dup X215 hx hby d4_3 rfl ?_
    refine y_aloadN X215 hx hby d4_4 rfl rfl ?_
    refine st216 _ ?_
    show Steps p.tables e below (T216.setTop (mkF m 8 #[.val (.ref a1)] [(.ref aA), (.ref b215), (.ref b215)])) _
    refine y_aloadN X216 hx hby d4_8 rfl rfl ?_
    refine st217 _ ?_
    show Steps p.tables e below (T217.setTop (mkF m 12 #[.val (.ref a1)] [(.int (4 : Int32)), (.ref aA), (.ref b215), (.ref b215)])) _
    refine st218 _ ?_
    show Steps p.tables e below (T218.setTop (mkF m 15 #[.val (.ref a1)] [(.ref b218), (.ref b215), (.ref b215)])) _
    refine st219.trans ?_
    show Steps p.tables e below (T219.setTop (mkF m 18 #[.val (.ref a1)] [(.ref b215)])) _
    jvm_step X219.here [X219.here.top, hx, (hb hby d4_18), X219.method', Bd.returns, Value.isRef, FieldType.isReference]
    first | (intro acts; rw [hr _ acts rfl rfl rfl]) | rw [hr _ _ rfl rfl rfl]
    exact Steps.refl _
  · show QS Z (4 : Int32) [(.int x0), (.int x1), (.int x2), (.int x3)] h0 n0 _ T219.heap _
    rw [e219]
    exact ⟨b215, b218, _, rfl, N219, KK, sz_b215, sz_b218, E_b215, F_numbers_b215, V_b218⟩
set_option maxRecDepth 65536 in
set_option maxHeartbeats 40000000 in
theorem rm7_4 (l : Launch) (Z : State) (a0 : Array Value) (hw : HW a0 Z) (ws : List Jvm.Cond) (a1 aB : Addr) (kB : ClassId) (x0 x1 x2 x3 : Int32) (h0 : Heap) (n0 : Nat) (Z0 : n0 ≤ h0.size) (F_numbers_a1 : Fld Z h0 a1 "com/example/hard_delay_bounds/harddelaybounds/analysis/FlowSet" "numbers" "[I" (.ref aB)) (V_aB : Arv Z h0 aB kB .int (4 : Int32) [(.int x0), (.int x1), (.int x2), (.int x3)] (.int (0 : Int32))) :
    MF l mn8 prog_17_method_2_code 1 (some .int) ws ({ frames := 0, cells := 0, slots := 0, locals := 0 } : Room) #[(.ref a1)] Z h0 (QP (some (.int (4 : Int32))) h0 n0) := by
  refine MetFree.of_bodySF (plainFor_of_name pn_6) hisR ?_
  intro p e s m args below meth c s₁ Bd hml0 hP hK
  obtain ⟨rfl, hZ, hh⟩ := hP
  have hx := Bd.exec
  have hby := Bd.bytes
  have hml : c.maxLocals = 1 := hml0
  have hown : s.vm.findClass "com/example/hard_delay_bounds/harddelaybounds/analysis/FlowSet" = some m.cls := findClass_of_methodNamed Bd.named
  have hnm := (name_of_methodNamed Bd.named Bd.method).1
  have X0 : Stand p l e ({ frames := 0, cells := 0, slots := 0, locals := 0 } : Room) s m #[(.ref a1)] below meth c s₁ [] 0 0 := Stand.of_body Bd
  have e0 : s₁.heap = h0 := by rw [← hh, Bd.state]; rfl
  have N0 := Fr.nil n0
  have pre0 : GO p e below (s₁.setTop (mkF m 0 #[.val (.ref a1)] [])) (s₁.setTop (entryFrame m #[(.ref a1)] 1)) := fun t k => castTop (ef_7 m a1) k
  obtain ⟨T220, X220, e220, st220⟩ := getF X0 hx hZ hown (host := "") (Or.inl (ww hw 43 rfl)) Via.refl e0 F_numbers_a1 (g := (mkF m 1 #[.val (.ref a1)] [(.ref a1)])) rfl rfl (hb hby d7_1)
  obtain ⟨cl221, Ar221, q221, Sz221, Nn221, Hh221, Gg221⟩ := id V_aB
  obtain ⟨fs, hr, hrun, hended, hW, hsame⟩ := X220.leave (v := some (.int (4 : Int32))) (fun h => by rw [Bd.returns] at h; cases h)
  refine ⟨_, _, pre0 _ ?_, hrun, hended, _, _, rfl, ?_, ⟨_, rfl⟩, hW, hsame.mono (by decide) (by decide)⟩
  · refine y_aloadN X0 hx hby d7_0 rfl rfl ?_
    refine st220 _ ?_
    show Steps p.tables e below (T220.setTop (mkF m 4 #[.val (.ref a1)] [(.ref aB)])) _
    refine X220.arraylength hx (by rw [e220]; exact Ar221.1) (State.isArrayOf_alike hZ.alike Ar221.2.1) (g := (mkF m 4 #[.val (.ref a1)] [(.ref aB)])) rfl rfl (hb hby d7_4) _ ?_
    rw [len_of Sz221 Nn221]
    show Steps p.tables e below (T220.setTop (mkF m 5 #[.val (.ref a1)] [(.int (4 : Int32))])) _
    exact retI X220 hx Bd.returns (hb hby d7_5) hr
  · show QP _ h0 n0 _ T220.heap _
    rw [e220]
    exact ⟨rfl, N0, rfl⟩
abbrev lo13_4_0 (a1 : Addr) (p4 : Int32) : Array Slot := #[.val (.ref a1), .val (.int (0 : Int32)), .val (.int (4 : Int32)), .val (.int p4), .val (.int (0 : Int32)), .unset, .unset, .unset]
abbrev lo13_4_1 (a1 : Addr) (p4 : Int32) : Array Slot := #[.val (.ref a1), .val (.int (0 : Int32)), .val (.int (4 : Int32)), .val (.int p4), .val (.int (0 : Int32)), .val (.int (3 : Int32)), .unset, .unset]
abbrev lo13_4_2 (a1 : Addr) (p4 : Int32) : Array Slot := #[.val (.ref a1), .val (.int (0 : Int32)), .val (.int (4 : Int32)), .val (.int p4), .val (.int (0 : Int32)), .val (.int (3 : Int32)), .val (.int (1 : Int32)), .unset]
abbrev lo13_4_3 (a1 : Addr) (p4 x1 : Int32) : Array Slot := #[.val (.ref a1), .val (.int (0 : Int32)), .val (.int (4 : Int32)), .val (.int p4), .val (.int (0 : Int32)), .val (.int (3 : Int32)), .val (.int (1 : Int32)), .val (.int x1)]
abbrev lo13_4_4 (a1 : Addr) (p4 x1 : Int32) : Array Slot := #[.val (.ref a1), .val (.int (0 : Int32)), .val (.int (4 : Int32)), .val (.int p4), .val (.int (2 : Int32)), .val (.int (3 : Int32)), .val (.int (1 : Int32)), .val (.int x1)]
abbrev lo13_4_5 (a1 : Addr) (p4 x1 : Int32) : Array Slot := #[.val (.ref a1), .val (.int (0 : Int32)), .val (.int (4 : Int32)), .val (.int p4), .val (.int (2 : Int32)), .val (.int (3 : Int32)), .val (.int (2 : Int32)), .val (.int x1)]
abbrev lo13_4_6 (a1 : Addr) (p4 x2 : Int32) : Array Slot := #[.val (.ref a1), .val (.int (0 : Int32)), .val (.int (4 : Int32)), .val (.int p4), .val (.int (2 : Int32)), .val (.int (3 : Int32)), .val (.int (2 : Int32)), .val (.int x2)]
abbrev lo13_4_7 (a1 : Addr) (p4 x2 : Int32) : Array Slot := #[.val (.ref a1), .val (.int (0 : Int32)), .val (.int (4 : Int32)), .val (.int p4), .val (.int (3 : Int32)), .val (.int (3 : Int32)), .val (.int (2 : Int32)), .val (.int x2)]
abbrev lo13_4_8 (a1 : Addr) (p4 x2 : Int32) : Array Slot := #[.val (.ref a1), .val (.int (0 : Int32)), .val (.int (4 : Int32)), .val (.int p4), .val (.int (3 : Int32)), .val (.int (3 : Int32)), .val (.int (3 : Int32)), .val (.int x2)]
abbrev lo13_4_9 (a1 : Addr) (p4 x3 : Int32) : Array Slot := #[.val (.ref a1), .val (.int (0 : Int32)), .val (.int (4 : Int32)), .val (.int p4), .val (.int (3 : Int32)), .val (.int (3 : Int32)), .val (.int (3 : Int32)), .val (.int x3)]
abbrev lo13_4_10 (a1 : Addr) (p4 x3 : Int32) : Array Slot := #[.val (.ref a1), .val (.int (0 : Int32)), .val (.int (4 : Int32)), .val (.int p4), .val (.int (4 : Int32)), .val (.int (3 : Int32)), .val (.int (3 : Int32)), .val (.int x3)]
abbrev lo13_4_11 (a1 : Addr) (p4 x3 : Int32) : Array Slot := #[.val (.ref a1), .val (.int (0 : Int32)), .val (.int (4 : Int32)), .val (.int p4), .val (.int (3 : Int32)), .val (.int (2 : Int32)), .val (.int (3 : Int32)), .val (.int x3)]
abbrev lo13_4_12 (a1 : Addr) (p4 x2 : Int32) : Array Slot := #[.val (.ref a1), .val (.int (0 : Int32)), .val (.int (4 : Int32)), .val (.int p4), .val (.int (2 : Int32)), .val (.int (1 : Int32)), .val (.int (2 : Int32)), .val (.int x2)]
abbrev lo13_4_13 (a1 : Addr) (p4 x1 : Int32) : Array Slot := #[.val (.ref a1), .val (.int (0 : Int32)), .val (.int (4 : Int32)), .val (.int p4), .val (.int (0 : Int32)), .val (.int (0 : Int32)), .val (.int (1 : Int32)), .val (.int x1)]
abbrev lo13_4_14 (a1 : Addr) (p4 x1 : Int32) : Array Slot := #[.val (.ref a1), .val (.int (0 : Int32)), .val (.int (4 : Int32)), .val (.int p4), .val (.int (0 : Int32)), .val (.int (0 : Int32)), .val (.int (0 : Int32)), .val (.int x1)]
abbrev lo13_4_15 (a1 : Addr) (p4 x0 : Int32) : Array Slot := #[.val (.ref a1), .val (.int (0 : Int32)), .val (.int (4 : Int32)), .val (.int p4), .val (.int (0 : Int32)), .val (.int (0 : Int32)), .val (.int (0 : Int32)), .val (.int x0)]
abbrev lo13_4_16 (a1 : Addr) (p4 x0 : Int32) : Array Slot := #[.val (.ref a1), .val (.int (0 : Int32)), .val (.int (4 : Int32)), .val (.int p4), .val (.int (1 : Int32)), .val (.int (0 : Int32)), .val (.int (0 : Int32)), .val (.int x0)]
abbrev lo13_4_17 (a1 : Addr) (p4 x0 : Int32) : Array Slot := #[.val (.ref a1), .val (.int (0 : Int32)), .val (.int (4 : Int32)), .val (.int p4), .val (.int (0 : Int32)), .val (.int (-1 : Int32)), .val (.int (0 : Int32)), .val (.int x0)]
def f13_4 (a1 : Addr) (p4 : Int32) (k1 : ClassId) (x0 x1 x2 x3 : Int32) : Int32 := (if x1 < p4 then (if x2 < p4 then (if x3 < p4 then (-5 : Int32) else (if p4 < x3 then (-4 : Int32) else (3 : Int32))) else (if p4 < x2 then (-3 : Int32) else (2 : Int32))) else (if p4 < x1 then (if x0 < p4 then (-2 : Int32) else (if p4 < x0 then (-1 : Int32) else (0 : Int32))) else (1 : Int32)))
set_option maxRecDepth 65536 in
set_option maxHeartbeats 40000000 in
theorem rm13_4 (l : Launch) (Z : State) (a0 : Array Value) (hw : HW a0 Z) (ws : List Jvm.Cond) (a1 : Addr) (p4 : Int32) (k1 : ClassId) (x0 x1 x2 x3 : Int32) (h0 : Heap) (n0 : Nat) (Z0 : n0 ≤ h0.size) (V_a1 : Arv Z h0 a1 k1 .int (4 : Int32) [(.int x0), (.int x1), (.int x2), (.int x3)] (.int (0 : Int32))) :
    MF l mn9 jdk_65_method_59_code 8 (some .int) ws ({ frames := 0, cells := 0, slots := 0, locals := 0 } : Room) #[(.ref a1), (.int (0 : Int32)), (.int (4 : Int32)), (.int p4)] Z h0 (QP (some (.int (f13_4 a1 p4 k1 x0 x1 x2 x3))) h0 n0) := by
  refine MetFree.of_bodySF (plainFor_of_name pn_5) hisR ?_
  intro p e s m args below meth c s₁ Bd hml0 hP hK
  obtain ⟨rfl, hZ, hh⟩ := hP
  have hx := Bd.exec
  have hby := Bd.bytes
  have hml : c.maxLocals = 8 := hml0
  have hown : s.vm.findClass "java/util/Arrays" = some m.cls := findClass_of_methodNamed Bd.named
  have hnm := (name_of_methodNamed Bd.named Bd.method).1
  have X0 : Stand p l e ({ frames := 0, cells := 0, slots := 0, locals := 0 } : Room) s m #[(.ref a1), (.int (0 : Int32)), (.int (4 : Int32)), (.int p4)] below meth c s₁ [] 0 0 := Stand.of_body Bd
  have e0 : s₁.heap = h0 := by rw [← hh, Bd.state]; rfl
  have N0 := Fr.nil n0
  have pre0 : GO p e below (s₁.setTop (mkF m 0 #[.val (.ref a1), .val (.int (0 : Int32)), .val (.int (4 : Int32)), .val (.int p4), .unset, .unset, .unset, .unset] [])) (s₁.setTop (entryFrame m #[(.ref a1), (.int (0 : Int32)), (.int (4 : Int32)), (.int p4)] 8)) := fun t k => castTop (ef_13 m a1 (0 : Int32) (4 : Int32) p4) k
  obtain ⟨cl222, Ar222, q222, Sz222, Nn222, Hh222, Gg222⟩ := id V_a1
  have hin222 : ¬ ((1 : Int32) < 0 ∨ cl222.slots.size ≤ ((1 : Int32)).toNatClampNeg) := inb_of Sz222 ⟨by decide, by decide⟩
  have hat222 : cl222.slots[((1 : Int32)).toNatClampNeg]? = some (.int x1) := Hh222.at hin222 rfl
  have pre224 : GO p e below (s₁.setTop (mkF m 33 (lo13_4_3 a1 p4 x1) [(.int p4), (.int x1)])) (s₁.setTop (entryFrame m #[(.ref a1), (.int (0 : Int32)), (.int (4 : Int32)), (.int p4)] 8)) := fun t k => by
    refine pre0 _ ?_
    refine y_iloadN X0 hx hby d13_0 rfl ?_
    refine y_istore X0 hx hby d13_1 (l' := (lo13_4_0 a1 p4)) rfl ?_
    refine y_iloadN X0 hx hby d13_3 rfl ?_
    refine y_iconst X0 hx hby (v := (1 : Int32)) d13_4 rfl ?_
    refine y_isub X0 hx hby d13_5 ?_
    rw [show ((4 : Int32) - (1 : Int32)) = (3 : Int32) from by decide]
    refine y_istore X0 hx hby d13_6 (l' := (lo13_4_1 a1 p4)) rfl ?_
    refine y_iload X0 hx hby d13_8 rfl ?_
    refine y_iload X0 hx hby d13_10 rfl ?_
    refine y_icmpNo X0 hx hby d13_12 (flt (by decide)).2.2.1 ?_
    refine y_iload X0 hx hby d13_15 rfl ?_
    refine y_iload X0 hx hby d13_17 rfl ?_
    refine y_iadd X0 hx hby d13_19 ?_
    rw [show ((0 : Int32) + (3 : Int32)) = (3 : Int32) from by decide]
    refine y_iconst X0 hx hby (v := (1 : Int32)) d13_20 rfl ?_
    refine y_iushr X0 hx hby d13_21 ?_
    rw [show (((3 : Int32).toUInt32 >>> ((1 : Int32) &&& 31).toUInt32).toInt32) = (1 : Int32) from by decide]
    refine y_istore X0 hx hby d13_22 (l' := (lo13_4_2 a1 p4)) rfl ?_
    refine y_aloadN X0 hx hby d13_24 rfl rfl ?_
    refine y_iload X0 hx hby d13_25 rfl ?_
    refine X0.iaload hx (j := (1 : Int32)) (v := (.int x1)) (by rw [e0]; exact Ar222.1) (State.isArrayOf_alike hZ.alike Ar222.2.1) Ar222.2.2 hin222 hat222 (g := (mkF m 27 (lo13_4_2 a1 p4) [(.int (1 : Int32)), (.ref a1)])) rfl rfl (hb hby d13_27) _ ?_
    show Steps p.tables e below (s₁.setTop (mkF m 28 (lo13_4_2 a1 p4) [(.int x1)])) _
    refine y_istore X0 hx hby d13_28 (l' := (lo13_4_3 a1 p4 x1)) rfl ?_
    refine y_iload X0 hx hby d13_30 rfl ?_
    refine y_iloadN X0 hx hby d13_32 rfl ?_
    exact k
  by_cases hc223 : x1 < p4
  · obtain ⟨cl225, Ar225, q225, Sz225, Nn225, Hh225, Gg225⟩ := id V_a1
    have hin225 : ¬ ((2 : Int32) < 0 ∨ cl225.slots.size ≤ ((2 : Int32)).toNatClampNeg) := inb_of Sz225 ⟨by decide, by decide⟩
    have hat225 : cl225.slots[((2 : Int32)).toNatClampNeg]? = some (.int x2) := Hh225.at hin225 rfl
    have pre227 : GO p e below (s₁.setTop (mkF m 33 (lo13_4_6 a1 p4 x2) [(.int p4), (.int x2)])) (s₁.setTop (entryFrame m #[(.ref a1), (.int (0 : Int32)), (.int (4 : Int32)), (.int p4)] 8)) := fun t k => by
      refine pre224 _ ?_
      refine y_icmpNo X0 hx hby d13_33 (tlt hc223).2.1 ?_
      refine y_iload X0 hx hby d13_36 rfl ?_
      refine y_iconst X0 hx hby (v := (1 : Int32)) d13_38 rfl ?_
      refine y_iadd X0 hx hby d13_39 ?_
      rw [show ((1 : Int32) + (1 : Int32)) = (2 : Int32) from by decide]
      refine y_istore X0 hx hby d13_40 (l' := (lo13_4_4 a1 p4 x1)) rfl ?_
      refine y_goto X0 hx hby (pc' := 63) d13_42 (by decide) (by decide) ?_
      refine y_goto X0 hx hby (pc' := 8) d13_63 (by decide) (by decide) ?_
      refine y_iload X0 hx hby d13_8 rfl ?_
      refine y_iload X0 hx hby d13_10 rfl ?_
      refine y_icmpNo X0 hx hby d13_12 (flt (by decide)).2.2.1 ?_
      refine y_iload X0 hx hby d13_15 rfl ?_
      refine y_iload X0 hx hby d13_17 rfl ?_
      refine y_iadd X0 hx hby d13_19 ?_
      rw [show ((2 : Int32) + (3 : Int32)) = (5 : Int32) from by decide]
      refine y_iconst X0 hx hby (v := (1 : Int32)) d13_20 rfl ?_
      refine y_iushr X0 hx hby d13_21 ?_
      rw [show (((5 : Int32).toUInt32 >>> ((1 : Int32) &&& 31).toUInt32).toInt32) = (2 : Int32) from by decide]
      refine y_istore X0 hx hby d13_22 (l' := (lo13_4_5 a1 p4 x1)) rfl ?_
      refine y_aloadN X0 hx hby d13_24 rfl rfl ?_
      refine y_iload X0 hx hby d13_25 rfl ?_
      refine X0.iaload hx (j := (2 : Int32)) (v := (.int x2)) (by rw [e0]; exact Ar225.1) (State.isArrayOf_alike hZ.alike Ar225.2.1) Ar225.2.2 hin225 hat225 (g := (mkF m 27 (lo13_4_5 a1 p4 x1) [(.int (2 : Int32)), (.ref a1)])) rfl rfl (hb hby d13_27) _ ?_
      show Steps p.tables e below (s₁.setTop (mkF m 28 (lo13_4_5 a1 p4 x1) [(.int x2)])) _
      refine y_istore X0 hx hby d13_28 (l' := (lo13_4_6 a1 p4 x2)) rfl ?_
      refine y_iload X0 hx hby d13_30 rfl ?_
      refine y_iloadN X0 hx hby d13_32 rfl ?_
      exact k
    by_cases hc226 : x2 < p4
    · obtain ⟨cl228, Ar228, q228, Sz228, Nn228, Hh228, Gg228⟩ := id V_a1
      have hin228 : ¬ ((3 : Int32) < 0 ∨ cl228.slots.size ≤ ((3 : Int32)).toNatClampNeg) := inb_of Sz228 ⟨by decide, by decide⟩
      have hat228 : cl228.slots[((3 : Int32)).toNatClampNeg]? = some (.int x3) := Hh228.at hin228 rfl
      have pre230 : GO p e below (s₁.setTop (mkF m 33 (lo13_4_9 a1 p4 x3) [(.int p4), (.int x3)])) (s₁.setTop (entryFrame m #[(.ref a1), (.int (0 : Int32)), (.int (4 : Int32)), (.int p4)] 8)) := fun t k => by
        refine pre227 _ ?_
        refine y_icmpNo X0 hx hby d13_33 (tlt hc226).2.1 ?_
        refine y_iload X0 hx hby d13_36 rfl ?_
        refine y_iconst X0 hx hby (v := (1 : Int32)) d13_38 rfl ?_
        refine y_iadd X0 hx hby d13_39 ?_
        rw [show ((2 : Int32) + (1 : Int32)) = (3 : Int32) from by decide]
        refine y_istore X0 hx hby d13_40 (l' := (lo13_4_7 a1 p4 x2)) rfl ?_
        refine y_goto X0 hx hby (pc' := 63) d13_42 (by decide) (by decide) ?_
        refine y_goto X0 hx hby (pc' := 8) d13_63 (by decide) (by decide) ?_
        refine y_iload X0 hx hby d13_8 rfl ?_
        refine y_iload X0 hx hby d13_10 rfl ?_
        refine y_icmpNo X0 hx hby d13_12 (flt (by decide)).2.2.1 ?_
        refine y_iload X0 hx hby d13_15 rfl ?_
        refine y_iload X0 hx hby d13_17 rfl ?_
        refine y_iadd X0 hx hby d13_19 ?_
        rw [show ((3 : Int32) + (3 : Int32)) = (6 : Int32) from by decide]
        refine y_iconst X0 hx hby (v := (1 : Int32)) d13_20 rfl ?_
        refine y_iushr X0 hx hby d13_21 ?_
        rw [show (((6 : Int32).toUInt32 >>> ((1 : Int32) &&& 31).toUInt32).toInt32) = (3 : Int32) from by decide]
        refine y_istore X0 hx hby d13_22 (l' := (lo13_4_8 a1 p4 x2)) rfl ?_
        refine y_aloadN X0 hx hby d13_24 rfl rfl ?_
        refine y_iload X0 hx hby d13_25 rfl ?_
        refine X0.iaload hx (j := (3 : Int32)) (v := (.int x3)) (by rw [e0]; exact Ar228.1) (State.isArrayOf_alike hZ.alike Ar228.2.1) Ar228.2.2 hin228 hat228 (g := (mkF m 27 (lo13_4_8 a1 p4 x2) [(.int (3 : Int32)), (.ref a1)])) rfl rfl (hb hby d13_27) _ ?_
        show Steps p.tables e below (s₁.setTop (mkF m 28 (lo13_4_8 a1 p4 x2) [(.int x3)])) _
        refine y_istore X0 hx hby d13_28 (l' := (lo13_4_9 a1 p4 x3)) rfl ?_
        refine y_iload X0 hx hby d13_30 rfl ?_
        refine y_iloadN X0 hx hby d13_32 rfl ?_
        exact k
      by_cases hc229 : x3 < p4
      · obtain ⟨fs, hr, hrun, hended, hW, hsame⟩ := X0.leave (v := some (.int (-5 : Int32))) (fun h => by rw [Bd.returns] at h; cases h)
        refine ⟨_, _, pre230 _ ?_, hrun, hended, _, _, rfl, ?_, ⟨_, rfl⟩, hW, hsame.mono (by decide) (by decide)⟩
        · refine y_icmpNo X0 hx hby d13_33 (tlt hc229).2.1 ?_
          refine y_iload X0 hx hby d13_36 rfl ?_
          refine y_iconst X0 hx hby (v := (1 : Int32)) d13_38 rfl ?_
          refine y_iadd X0 hx hby d13_39 ?_
          rw [show ((3 : Int32) + (1 : Int32)) = (4 : Int32) from by decide]
          refine y_istore X0 hx hby d13_40 (l' := (lo13_4_10 a1 p4 x3)) rfl ?_
          refine y_goto X0 hx hby (pc' := 63) d13_42 (by decide) (by decide) ?_
          refine y_goto X0 hx hby (pc' := 8) d13_63 (by decide) (by decide) ?_
          refine y_iload X0 hx hby d13_8 rfl ?_
          refine y_iload X0 hx hby d13_10 rfl ?_
          refine y_icmpYes X0 hx hby (pc' := 66) d13_12 (tlt (by decide)).2.2.1 (by decide) (by decide) ?_
          refine y_iload X0 hx hby d13_66 rfl ?_
          refine y_iconst X0 hx hby (v := (1 : Int32)) d13_68 rfl ?_
          refine y_iadd X0 hx hby d13_69 ?_
          rw [show ((4 : Int32) + (1 : Int32)) = (5 : Int32) from by decide]
          refine y_ineg X0 hx hby d13_70 ?_
          rw [show ((-(5 : Int32))) = (-5 : Int32) from by decide]
          exact retI X0 hx Bd.returns (hb hby d13_71) hr
        · show QP _ h0 n0 _ s₁.heap _
          rw [e0, show f13_4 a1 p4 k1 x0 x1 x2 x3 = (-5 : Int32) from by unfold f13_4; rw [if_pos hc223, if_pos hc226, if_pos hc229]]
          exact ⟨rfl, N0, rfl⟩
      · have pre232 : GO p e below (s₁.setTop (mkF m 48 (lo13_4_9 a1 p4 x3) [(.int p4), (.int x3)])) (s₁.setTop (entryFrame m #[(.ref a1), (.int (0 : Int32)), (.int (4 : Int32)), (.int p4)] 8)) := fun t k => by
          refine pre230 _ ?_
          refine y_icmpYes X0 hx hby (pc' := 45) d13_33 (flt hc229).2.1 (by decide) (by decide) ?_
          refine y_iload X0 hx hby d13_45 rfl ?_
          refine y_iloadN X0 hx hby d13_47 rfl ?_
          exact k
        by_cases hc231 : p4 < x3
        · obtain ⟨fs, hr, hrun, hended, hW, hsame⟩ := X0.leave (v := some (.int (-4 : Int32))) (fun h => by rw [Bd.returns] at h; cases h)
          refine ⟨_, _, pre232 _ ?_, hrun, hended, _, _, rfl, ?_, ⟨_, rfl⟩, hW, hsame.mono (by decide) (by decide)⟩
          · refine y_icmpNo X0 hx hby d13_48 (tlt hc231).2.2.2 ?_
            refine y_iload X0 hx hby d13_51 rfl ?_
            refine y_iconst X0 hx hby (v := (1 : Int32)) d13_53 rfl ?_
            refine y_isub X0 hx hby d13_54 ?_
            rw [show ((3 : Int32) - (1 : Int32)) = (2 : Int32) from by decide]
            refine y_istore X0 hx hby d13_55 (l' := (lo13_4_11 a1 p4 x3)) rfl ?_
            refine y_goto X0 hx hby (pc' := 63) d13_57 (by decide) (by decide) ?_
            refine y_goto X0 hx hby (pc' := 8) d13_63 (by decide) (by decide) ?_
            refine y_iload X0 hx hby d13_8 rfl ?_
            refine y_iload X0 hx hby d13_10 rfl ?_
            refine y_icmpYes X0 hx hby (pc' := 66) d13_12 (tlt (by decide)).2.2.1 (by decide) (by decide) ?_
            refine y_iload X0 hx hby d13_66 rfl ?_
            refine y_iconst X0 hx hby (v := (1 : Int32)) d13_68 rfl ?_
            refine y_iadd X0 hx hby d13_69 ?_
            rw [show ((3 : Int32) + (1 : Int32)) = (4 : Int32) from by decide]
            refine y_ineg X0 hx hby d13_70 ?_
            rw [show ((-(4 : Int32))) = (-4 : Int32) from by decide]
            exact retI X0 hx Bd.returns (hb hby d13_71) hr
          · show QP _ h0 n0 _ s₁.heap _
            rw [e0, show f13_4 a1 p4 k1 x0 x1 x2 x3 = (-4 : Int32) from by unfold f13_4; rw [if_pos hc223, if_pos hc226, if_neg hc229, if_pos hc231]]
            exact ⟨rfl, N0, rfl⟩
        · obtain ⟨fs, hr, hrun, hended, hW, hsame⟩ := X0.leave (v := some (.int (3 : Int32))) (fun h => by rw [Bd.returns] at h; cases h)
          refine ⟨_, _, pre232 _ ?_, hrun, hended, _, _, rfl, ?_, ⟨_, rfl⟩, hW, hsame.mono (by decide) (by decide)⟩
          · refine y_icmpYes X0 hx hby (pc' := 60) d13_48 (flt hc231).2.2.2 (by decide) (by decide) ?_
            refine y_iload X0 hx hby d13_60 rfl ?_
            exact retI X0 hx Bd.returns (hb hby d13_62) hr
          · show QP _ h0 n0 _ s₁.heap _
            rw [e0, show f13_4 a1 p4 k1 x0 x1 x2 x3 = (3 : Int32) from by unfold f13_4; rw [if_pos hc223, if_pos hc226, if_neg hc229, if_neg hc231]]
            exact ⟨rfl, N0, rfl⟩
    · have pre234 : GO p e below (s₁.setTop (mkF m 48 (lo13_4_6 a1 p4 x2) [(.int p4), (.int x2)])) (s₁.setTop (entryFrame m #[(.ref a1), (.int (0 : Int32)), (.int (4 : Int32)), (.int p4)] 8)) := fun t k => by
        refine pre227 _ ?_
        refine y_icmpYes X0 hx hby (pc' := 45) d13_33 (flt hc226).2.1 (by decide) (by decide) ?_
        refine y_iload X0 hx hby d13_45 rfl ?_
        refine y_iloadN X0 hx hby d13_47 rfl ?_
        exact k
      by_cases hc233 : p4 < x2
      · obtain ⟨fs, hr, hrun, hended, hW, hsame⟩ := X0.leave (v := some (.int (-3 : Int32))) (fun h => by rw [Bd.returns] at h; cases h)
        refine ⟨_, _, pre234 _ ?_, hrun, hended, _, _, rfl, ?_, ⟨_, rfl⟩, hW, hsame.mono (by decide) (by decide)⟩
        · refine y_icmpNo X0 hx hby d13_48 (tlt hc233).2.2.2 ?_
          refine y_iload X0 hx hby d13_51 rfl ?_
          refine y_iconst X0 hx hby (v := (1 : Int32)) d13_53 rfl ?_
          refine y_isub X0 hx hby d13_54 ?_
          rw [show ((2 : Int32) - (1 : Int32)) = (1 : Int32) from by decide]
          refine y_istore X0 hx hby d13_55 (l' := (lo13_4_12 a1 p4 x2)) rfl ?_
          refine y_goto X0 hx hby (pc' := 63) d13_57 (by decide) (by decide) ?_
          refine y_goto X0 hx hby (pc' := 8) d13_63 (by decide) (by decide) ?_
          refine y_iload X0 hx hby d13_8 rfl ?_
          refine y_iload X0 hx hby d13_10 rfl ?_
          refine y_icmpYes X0 hx hby (pc' := 66) d13_12 (tlt (by decide)).2.2.1 (by decide) (by decide) ?_
          refine y_iload X0 hx hby d13_66 rfl ?_
          refine y_iconst X0 hx hby (v := (1 : Int32)) d13_68 rfl ?_
          refine y_iadd X0 hx hby d13_69 ?_
          rw [show ((2 : Int32) + (1 : Int32)) = (3 : Int32) from by decide]
          refine y_ineg X0 hx hby d13_70 ?_
          rw [show ((-(3 : Int32))) = (-3 : Int32) from by decide]
          exact retI X0 hx Bd.returns (hb hby d13_71) hr
        · show QP _ h0 n0 _ s₁.heap _
          rw [e0, show f13_4 a1 p4 k1 x0 x1 x2 x3 = (-3 : Int32) from by unfold f13_4; rw [if_pos hc223, if_neg hc226, if_pos hc233]]
          exact ⟨rfl, N0, rfl⟩
      · obtain ⟨fs, hr, hrun, hended, hW, hsame⟩ := X0.leave (v := some (.int (2 : Int32))) (fun h => by rw [Bd.returns] at h; cases h)
        refine ⟨_, _, pre234 _ ?_, hrun, hended, _, _, rfl, ?_, ⟨_, rfl⟩, hW, hsame.mono (by decide) (by decide)⟩
        · refine y_icmpYes X0 hx hby (pc' := 60) d13_48 (flt hc233).2.2.2 (by decide) (by decide) ?_
          refine y_iload X0 hx hby d13_60 rfl ?_
          exact retI X0 hx Bd.returns (hb hby d13_62) hr
        · show QP _ h0 n0 _ s₁.heap _
          rw [e0, show f13_4 a1 p4 k1 x0 x1 x2 x3 = (2 : Int32) from by unfold f13_4; rw [if_pos hc223, if_neg hc226, if_neg hc233]]
          exact ⟨rfl, N0, rfl⟩
  · have pre236 : GO p e below (s₁.setTop (mkF m 48 (lo13_4_3 a1 p4 x1) [(.int p4), (.int x1)])) (s₁.setTop (entryFrame m #[(.ref a1), (.int (0 : Int32)), (.int (4 : Int32)), (.int p4)] 8)) := fun t k => by
      refine pre224 _ ?_
      refine y_icmpYes X0 hx hby (pc' := 45) d13_33 (flt hc223).2.1 (by decide) (by decide) ?_
      refine y_iload X0 hx hby d13_45 rfl ?_
      refine y_iloadN X0 hx hby d13_47 rfl ?_
      exact k
    by_cases hc235 : p4 < x1
    · obtain ⟨cl237, Ar237, q237, Sz237, Nn237, Hh237, Gg237⟩ := id V_a1
      have hin237 : ¬ ((0 : Int32) < 0 ∨ cl237.slots.size ≤ ((0 : Int32)).toNatClampNeg) := inb_of Sz237 ⟨by decide, by decide⟩
      have hat237 : cl237.slots[((0 : Int32)).toNatClampNeg]? = some (.int x0) := Hh237.at hin237 rfl
      have pre239 : GO p e below (s₁.setTop (mkF m 33 (lo13_4_15 a1 p4 x0) [(.int p4), (.int x0)])) (s₁.setTop (entryFrame m #[(.ref a1), (.int (0 : Int32)), (.int (4 : Int32)), (.int p4)] 8)) := fun t k => by
        refine pre236 _ ?_
        refine y_icmpNo X0 hx hby d13_48 (tlt hc235).2.2.2 ?_
        refine y_iload X0 hx hby d13_51 rfl ?_
        refine y_iconst X0 hx hby (v := (1 : Int32)) d13_53 rfl ?_
        refine y_isub X0 hx hby d13_54 ?_
        rw [show ((1 : Int32) - (1 : Int32)) = (0 : Int32) from by decide]
        refine y_istore X0 hx hby d13_55 (l' := (lo13_4_13 a1 p4 x1)) rfl ?_
        refine y_goto X0 hx hby (pc' := 63) d13_57 (by decide) (by decide) ?_
        refine y_goto X0 hx hby (pc' := 8) d13_63 (by decide) (by decide) ?_
        refine y_iload X0 hx hby d13_8 rfl ?_
        refine y_iload X0 hx hby d13_10 rfl ?_
        refine y_icmpNo X0 hx hby d13_12 (flt (by decide)).2.2.1 ?_
        refine y_iload X0 hx hby d13_15 rfl ?_
        refine y_iload X0 hx hby d13_17 rfl ?_
        refine y_iadd X0 hx hby d13_19 ?_
        rw [show ((0 : Int32) + (0 : Int32)) = (0 : Int32) from by decide]
        refine y_iconst X0 hx hby (v := (1 : Int32)) d13_20 rfl ?_
        refine y_iushr X0 hx hby d13_21 ?_
        rw [show (((0 : Int32).toUInt32 >>> ((1 : Int32) &&& 31).toUInt32).toInt32) = (0 : Int32) from by decide]
        refine y_istore X0 hx hby d13_22 (l' := (lo13_4_14 a1 p4 x1)) rfl ?_
        refine y_aloadN X0 hx hby d13_24 rfl rfl ?_
        refine y_iload X0 hx hby d13_25 rfl ?_
        refine X0.iaload hx (j := (0 : Int32)) (v := (.int x0)) (by rw [e0]; exact Ar237.1) (State.isArrayOf_alike hZ.alike Ar237.2.1) Ar237.2.2 hin237 hat237 (g := (mkF m 27 (lo13_4_14 a1 p4 x1) [(.int (0 : Int32)), (.ref a1)])) rfl rfl (hb hby d13_27) _ ?_
        show Steps p.tables e below (s₁.setTop (mkF m 28 (lo13_4_14 a1 p4 x1) [(.int x0)])) _
        refine y_istore X0 hx hby d13_28 (l' := (lo13_4_15 a1 p4 x0)) rfl ?_
        refine y_iload X0 hx hby d13_30 rfl ?_
        refine y_iloadN X0 hx hby d13_32 rfl ?_
        exact k
      by_cases hc238 : x0 < p4
      · obtain ⟨fs, hr, hrun, hended, hW, hsame⟩ := X0.leave (v := some (.int (-2 : Int32))) (fun h => by rw [Bd.returns] at h; cases h)
        refine ⟨_, _, pre239 _ ?_, hrun, hended, _, _, rfl, ?_, ⟨_, rfl⟩, hW, hsame.mono (by decide) (by decide)⟩
        · refine y_icmpNo X0 hx hby d13_33 (tlt hc238).2.1 ?_
          refine y_iload X0 hx hby d13_36 rfl ?_
          refine y_iconst X0 hx hby (v := (1 : Int32)) d13_38 rfl ?_
          refine y_iadd X0 hx hby d13_39 ?_
          rw [show ((0 : Int32) + (1 : Int32)) = (1 : Int32) from by decide]
          refine y_istore X0 hx hby d13_40 (l' := (lo13_4_16 a1 p4 x0)) rfl ?_
          refine y_goto X0 hx hby (pc' := 63) d13_42 (by decide) (by decide) ?_
          refine y_goto X0 hx hby (pc' := 8) d13_63 (by decide) (by decide) ?_
          refine y_iload X0 hx hby d13_8 rfl ?_
          refine y_iload X0 hx hby d13_10 rfl ?_
          refine y_icmpYes X0 hx hby (pc' := 66) d13_12 (tlt (by decide)).2.2.1 (by decide) (by decide) ?_
          refine y_iload X0 hx hby d13_66 rfl ?_
          refine y_iconst X0 hx hby (v := (1 : Int32)) d13_68 rfl ?_
          refine y_iadd X0 hx hby d13_69 ?_
          rw [show ((1 : Int32) + (1 : Int32)) = (2 : Int32) from by decide]
          refine y_ineg X0 hx hby d13_70 ?_
          rw [show ((-(2 : Int32))) = (-2 : Int32) from by decide]
          exact retI X0 hx Bd.returns (hb hby d13_71) hr
        · show QP _ h0 n0 _ s₁.heap _
          rw [e0, show f13_4 a1 p4 k1 x0 x1 x2 x3 = (-2 : Int32) from by unfold f13_4; rw [if_neg hc223, if_pos hc235, if_pos hc238]]
          exact ⟨rfl, N0, rfl⟩
      · have pre241 : GO p e below (s₁.setTop (mkF m 48 (lo13_4_15 a1 p4 x0) [(.int p4), (.int x0)])) (s₁.setTop (entryFrame m #[(.ref a1), (.int (0 : Int32)), (.int (4 : Int32)), (.int p4)] 8)) := fun t k => by
          refine pre239 _ ?_
          refine y_icmpYes X0 hx hby (pc' := 45) d13_33 (flt hc238).2.1 (by decide) (by decide) ?_
          refine y_iload X0 hx hby d13_45 rfl ?_
          refine y_iloadN X0 hx hby d13_47 rfl ?_
          exact k
        by_cases hc240 : p4 < x0
        · obtain ⟨fs, hr, hrun, hended, hW, hsame⟩ := X0.leave (v := some (.int (-1 : Int32))) (fun h => by rw [Bd.returns] at h; cases h)
          refine ⟨_, _, pre241 _ ?_, hrun, hended, _, _, rfl, ?_, ⟨_, rfl⟩, hW, hsame.mono (by decide) (by decide)⟩
          · refine y_icmpNo X0 hx hby d13_48 (tlt hc240).2.2.2 ?_
            refine y_iload X0 hx hby d13_51 rfl ?_
            refine y_iconst X0 hx hby (v := (1 : Int32)) d13_53 rfl ?_
            refine y_isub X0 hx hby d13_54 ?_
            rw [show ((0 : Int32) - (1 : Int32)) = (-1 : Int32) from by decide]
            refine y_istore X0 hx hby d13_55 (l' := (lo13_4_17 a1 p4 x0)) rfl ?_
            refine y_goto X0 hx hby (pc' := 63) d13_57 (by decide) (by decide) ?_
            refine y_goto X0 hx hby (pc' := 8) d13_63 (by decide) (by decide) ?_
            refine y_iload X0 hx hby d13_8 rfl ?_
            refine y_iload X0 hx hby d13_10 rfl ?_
            refine y_icmpYes X0 hx hby (pc' := 66) d13_12 (tlt (by decide)).2.2.1 (by decide) (by decide) ?_
            refine y_iload X0 hx hby d13_66 rfl ?_
            refine y_iconst X0 hx hby (v := (1 : Int32)) d13_68 rfl ?_
            refine y_iadd X0 hx hby d13_69 ?_
            rw [show ((0 : Int32) + (1 : Int32)) = (1 : Int32) from by decide]
            refine y_ineg X0 hx hby d13_70 ?_
            rw [show ((-(1 : Int32))) = (-1 : Int32) from by decide]
            exact retI X0 hx Bd.returns (hb hby d13_71) hr
          · show QP _ h0 n0 _ s₁.heap _
            rw [e0, show f13_4 a1 p4 k1 x0 x1 x2 x3 = (-1 : Int32) from by unfold f13_4; rw [if_neg hc223, if_pos hc235, if_neg hc238, if_pos hc240]]
            exact ⟨rfl, N0, rfl⟩
        · obtain ⟨fs, hr, hrun, hended, hW, hsame⟩ := X0.leave (v := some (.int (0 : Int32))) (fun h => by rw [Bd.returns] at h; cases h)
          refine ⟨_, _, pre241 _ ?_, hrun, hended, _, _, rfl, ?_, ⟨_, rfl⟩, hW, hsame.mono (by decide) (by decide)⟩
          · refine y_icmpYes X0 hx hby (pc' := 60) d13_48 (flt hc240).2.2.2 (by decide) (by decide) ?_
            refine y_iload X0 hx hby d13_60 rfl ?_
            exact retI X0 hx Bd.returns (hb hby d13_62) hr
          · show QP _ h0 n0 _ s₁.heap _
            rw [e0, show f13_4 a1 p4 k1 x0 x1 x2 x3 = (0 : Int32) from by unfold f13_4; rw [if_neg hc223, if_pos hc235, if_neg hc238, if_neg hc240]]
            exact ⟨rfl, N0, rfl⟩
    · obtain ⟨fs, hr, hrun, hended, hW, hsame⟩ := X0.leave (v := some (.int (1 : Int32))) (fun h => by rw [Bd.returns] at h; cases h)
      refine ⟨_, _, pre236 _ ?_, hrun, hended, _, _, rfl, ?_, ⟨_, rfl⟩, hW, hsame.mono (by decide) (by decide)⟩
      · refine y_icmpYes X0 hx hby (pc' := 60) d13_48 (flt hc235).2.2.2 (by decide) (by decide) ?_
        refine y_iload X0 hx hby d13_60 rfl ?_
        exact retI X0 hx Bd.returns (hb hby d13_62) hr
      · show QP _ h0 n0 _ s₁.heap _
        rw [e0, show f13_4 a1 p4 k1 x0 x1 x2 x3 = (1 : Int32) from by unfold f13_4; rw [if_neg hc223, if_neg hc235]]
        exact ⟨rfl, N0, rfl⟩
abbrev bs_4 (p4 x0 x1 x2 x3 : Int32) : Int32 := f13_4 (0 : Addr) p4 (0 : ClassId) x0 x1 x2 x3
set_option maxRecDepth 65536 in
set_option maxHeartbeats 40000000 in
theorem rm12_4 (l : Launch) (Z : State) (a0 : Array Value) (hw : HW a0 Z) (ws : List Jvm.Cond) (a1 : Addr) (p2 : Int32) (k1 : ClassId) (x0 x1 x2 x3 : Int32) (h0 : Heap) (n0 : Nat) (Z0 : n0 ≤ h0.size) (V_a1 : Arv Z h0 a1 k1 .int (4 : Int32) [(.int x0), (.int x1), (.int x2), (.int x3)] (.int (0 : Int32))) :
    MF l mn10 jdk_65_method_57_code 2 (some .int) ws ({ frames := 1, cells := 0, slots := 0, locals := 19 } : Room) #[(.ref a1), (.int p2)] Z h0 (QP (some (.int (bs_4 p2 x0 x1 x2 x3))) h0 n0) := by
  refine MetFree.of_bodySF (plainFor_of_name pn_5) hisR ?_
  intro p e s m args below meth c s₁ Bd hml0 hP hK
  obtain ⟨rfl, hZ, hh⟩ := hP
  have hx := Bd.exec
  have hby := Bd.bytes
  have hml : c.maxLocals = 2 := hml0
  have hown : s.vm.findClass "java/util/Arrays" = some m.cls := findClass_of_methodNamed Bd.named
  have hnm := (name_of_methodNamed Bd.named Bd.method).1
  have X0 : Stand p l e ({ frames := 1, cells := 0, slots := 0, locals := 19 } : Room) s m #[(.ref a1), (.int p2)] below meth c s₁ [] 0 0 := Stand.of_body Bd
  have e0 : s₁.heap = h0 := by rw [← hh, Bd.state]; rfl
  have N0 := Fr.nil n0
  have pre0 : GO p e below (s₁.setTop (mkF m 0 #[.val (.ref a1), .val (.int p2)] [])) (s₁.setTop (entryFrame m #[(.ref a1), (.int p2)] 2)) := fun t k => castTop (ef_12 m a1 p2) k
  obtain ⟨cl242, Ar242, q242, Sz242, Nn242, Hh242, Gg242⟩ := id V_a1
  obtain ⟨_, _, ⟨T243, L243, k243, n243⟩, -, X243, ⟨Lc243, hQ243, l243, y243, z243⟩, st243⟩ := Jvm.LawKit.callS X0 hx (y := mn9) hown (mvT hZ (ww hw 72 rfl)) (mvT hZ (ww hw 73 rfl)) (mvT hZ (ww hw 32 rfl)) (mvT hZ (ww hw 74 rfl)) (by decide) (backOf (W := 0) (rm13_4 l Z a0 hw [] a1 p2 k1 x0 x1 x2 x3 h0 n0 Z0 V_a1) hZ (ww hw 74 rfl) (ww hw 32 rfl) (by decide) (by decide)) (g := (mkF m 5 #[.val (.ref a1), .val (.int p2)] [(.int p2), (.int (4 : Int32)), (.int (0 : Int32)), (.ref a1)])) rfl (by rw [hml]; rfl) (argsL := [(.ref a1), (.int (0 : Int32)), (.int (4 : Int32)), (.int p2)]) (rest := []) (lenOf pd_3 rfl) rfl (by show 2 * 0 + _ ≤ _; exact Nat.le_of_eq rfl) (hb hby d12_5) (fun _ _ => ⟨rfl, e0, (by decide : 0 + 0 ≤ _), (by decide : 0 + 0 ≤ _)⟩)
  dsimp only [Pt.U, Pt.locs, Pt.cells, Pt.slots] at X243 l243 y243 z243 st243 hQ243
  subst l243 y243 z243
  obtain ⟨rfl, N243q, e243⟩ := hQ243
  have N243 := Fr.app N0 N243q
  obtain ⟨fs, hr, hrun, hended, hW, hsame⟩ := X243.leave (v := some (.int (bs_4 p2 x0 x1 x2 x3))) (fun h => by rw [Bd.returns] at h; cases h)
  refine ⟨_, _, pre0 _ ?_, hrun, hended, _, _, rfl, ?_, ⟨_, rfl⟩, hW, hsame.mono (by decide) (by decide)⟩
  · refine y_aloadN X0 hx hby d12_0 rfl rfl ?_
    refine y_iconst X0 hx hby (v := (0 : Int32)) d12_1 rfl ?_
    refine y_aloadN X0 hx hby d12_2 rfl rfl ?_
    refine X0.arraylength hx (by rw [e0]; exact Ar242.1) (State.isArrayOf_alike hZ.alike Ar242.2.1) (g := (mkF m 3 #[.val (.ref a1), .val (.int p2)] [(.ref a1), (.int (0 : Int32)), (.ref a1)])) rfl rfl (hb hby d12_3) _ ?_
    rw [len_of Sz242 Nn242]
    show Steps p.tables e below (s₁.setTop (mkF m 4 #[.val (.ref a1), .val (.int p2)] [(.int (4 : Int32)), (.int (0 : Int32)), (.ref a1)])) _
    refine y_iloadN X0 hx hby d12_4 rfl ?_
    refine st243 _ ?_
    show Steps p.tables e below (T243.setTop (mkF m 8 #[.val (.ref a1), .val (.int p2)] [(.int (bs_4 p2 x0 x1 x2 x3))])) _
    exact retI X243 hx Bd.returns (hb hby d12_8) hr
  · show QP _ h0 n0 _ T243.heap _
    rw [e243]
    exact ⟨rfl, N243, rfl⟩
set_option maxRecDepth 65536 in
set_option maxHeartbeats 40000000 in
theorem rm11_4 (l : Launch) (Z : State) (a0 : Array Value) (hw : HW a0 Z) (ws : List Jvm.Cond) (a1 : Addr) (p2 : Int32) (aB : Addr) (kB : ClassId) (x0 x1 x2 x3 : Int32) (h0 : Heap) (n0 : Nat) (Z0 : n0 ≤ h0.size) (E_a1 : Exa Z h0 a1 "com/example/hard_delay_bounds/harddelaybounds/analysis/FlowSet") (F_numbers_a1 : Fld Z h0 a1 "com/example/hard_delay_bounds/harddelaybounds/analysis/FlowSet" "numbers" "[I" (.ref aB)) (V_aB : Arv Z h0 aB kB .int (4 : Int32) [(.int x0), (.int x1), (.int x2), (.int x3)] (.int (0 : Int32))) :
    MF l mn11 prog_17_method_4_code 2 (some .int) ws ({ frames := 2, cells := 0, slots := 0, locals := 32 } : Room) #[(.ref a1), (.int p2)] Z h0 (QP (some (.int (bs_4 p2 x0 x1 x2 x3))) h0 n0) := by
  refine MetFree.of_bodySF (plainFor_of_name pn_6) hisR ?_
  intro p e s m args below meth c s₁ Bd hml0 hP hK
  obtain ⟨rfl, hZ, hh⟩ := hP
  have hx := Bd.exec
  have hby := Bd.bytes
  have hml : c.maxLocals = 2 := hml0
  have hown : s.vm.findClass "com/example/hard_delay_bounds/harddelaybounds/analysis/FlowSet" = some m.cls := findClass_of_methodNamed Bd.named
  have hnm := (name_of_methodNamed Bd.named Bd.method).1
  have X0 : Stand p l e ({ frames := 2, cells := 0, slots := 0, locals := 32 } : Room) s m #[(.ref a1), (.int p2)] below meth c s₁ [] 0 0 := Stand.of_body Bd
  have e0 : s₁.heap = h0 := by rw [← hh, Bd.state]; rfl
  have N0 := Fr.nil n0
  have pre0 : GO p e below (s₁.setTop (mkF m 0 #[.val (.ref a1), .val (.int p2)] [])) (s₁.setTop (entryFrame m #[(.ref a1), (.int p2)] 2)) := fun t k => castTop (ef_11 m a1 p2) k
  obtain ⟨T244, X244, e244, st244⟩ := getF X0 hx hZ hown (host := "") (Or.inl (ww hw 43 rfl)) Via.refl e0 F_numbers_a1 (g := (mkF m 1 #[.val (.ref a1), .val (.int p2)] [(.ref a1)])) rfl rfl (hb hby d11_1)
  obtain ⟨_, _, ⟨T245, L245, k245, n245⟩, -, X245, ⟨Lc245, hQ245, l245, y245, z245⟩, st245⟩ := Jvm.LawKit.callS X244 hx (y := mn10) hown (mvT hZ (ww hw 69 rfl)) (mvT hZ (ww hw 70 rfl)) (mvT hZ (ww hw 32 rfl)) (mvT hZ (ww hw 71 rfl)) (by decide) (backOf (W := 0) (rm12_4 l Z a0 hw [] aB p2 kB x0 x1 x2 x3 h0 n0 Z0 V_aB) hZ (ww hw 71 rfl) (ww hw 32 rfl) (by decide) (by decide)) (g := (mkF m 5 #[.val (.ref a1), .val (.int p2)] [(.int p2), (.ref aB)])) rfl (by rw [hml]; rfl) (argsL := [(.ref aB), (.int p2)]) (rest := []) (lenOf pd_4 rfl) rfl (by show 2 * 0 + _ ≤ _; exact Nat.le_of_eq rfl) (hb hby d11_5) (fun _ _ => ⟨rfl, e244, (by decide : 0 + 0 ≤ _), (by decide : 0 + 0 ≤ _)⟩)
  dsimp only [Pt.U, Pt.locs, Pt.cells, Pt.slots] at X245 l245 y245 z245 st245 hQ245
  subst l245 y245 z245
  obtain ⟨rfl, N245q, e245⟩ := hQ245
  have N245 := Fr.app N0 N245q
  obtain ⟨fs, hr, hrun, hended, hW, hsame⟩ := X245.leave (v := some (.int (bs_4 p2 x0 x1 x2 x3))) (fun h => by rw [Bd.returns] at h; cases h)
  refine ⟨_, _, pre0 _ ?_, hrun, hended, _, _, rfl, ?_, ⟨_, rfl⟩, hW, hsame.mono (by decide) (by decide)⟩
  · refine y_aloadN X0 hx hby d11_0 rfl rfl ?_
    refine st244 _ ?_
    show Steps p.tables e below (T244.setTop (mkF m 4 #[.val (.ref a1), .val (.int p2)] [(.ref aB)])) _
    refine y_iloadN X244 hx hby d11_4 rfl ?_
    refine st245 _ ?_
    show Steps p.tables e below (T245.setTop (mkF m 8 #[.val (.ref a1), .val (.int p2)] [(.int (bs_4 p2 x0 x1 x2 x3))])) _
    exact retI X245 hx Bd.returns (hb hby d11_8) hr
  · show QP _ h0 n0 _ T245.heap _
    rw [e245]
    exact ⟨rfl, N245, rfl⟩
def f10_4 (a1 : Addr) (p2 : Int32) (aB : Addr) (kB : ClassId) (x0 x1 x2 x3 : Int32) : Int32 := (if (bs_4 p2 x0 x1 x2 x3) < (0 : Int32) then (0 : Int32) else (1 : Int32))
set_option maxRecDepth 65536 in
set_option maxHeartbeats 40000000 in
theorem rm10_4 (l : Launch) (Z : State) (a0 : Array Value) (hw : HW a0 Z) (ws : List Jvm.Cond) (a1 : Addr) (p2 : Int32) (aB : Addr) (kB : ClassId) (x0 x1 x2 x3 : Int32) (h0 : Heap) (n0 : Nat) (Z0 : n0 ≤ h0.size) (E_a1 : Exa Z h0 a1 "com/example/hard_delay_bounds/harddelaybounds/analysis/FlowSet") (F_numbers_a1 : Fld Z h0 a1 "com/example/hard_delay_bounds/harddelaybounds/analysis/FlowSet" "numbers" "[I" (.ref aB)) (V_aB : Arv Z h0 aB kB .int (4 : Int32) [(.int x0), (.int x1), (.int x2), (.int x3)] (.int (0 : Int32))) :
    MF l mn12 prog_17_method_5_code 2 (some .boolean) ws ({ frames := 3, cells := 0, slots := 0, locals := 45 } : Room) #[(.ref a1), (.int p2)] Z h0 (QP (some (.int (f10_4 a1 p2 aB kB x0 x1 x2 x3))) h0 n0) := by
  refine MetFree.of_bodySF (plainFor_of_name pn_6) hisR ?_
  intro p e s m args below meth c s₁ Bd hml0 hP hK
  obtain ⟨rfl, hZ, hh⟩ := hP
  have hx := Bd.exec
  have hby := Bd.bytes
  have hml : c.maxLocals = 2 := hml0
  have hown : s.vm.findClass "com/example/hard_delay_bounds/harddelaybounds/analysis/FlowSet" = some m.cls := findClass_of_methodNamed Bd.named
  have hnm := (name_of_methodNamed Bd.named Bd.method).1
  have X0 : Stand p l e ({ frames := 3, cells := 0, slots := 0, locals := 45 } : Room) s m #[(.ref a1), (.int p2)] below meth c s₁ [] 0 0 := Stand.of_body Bd
  have e0 : s₁.heap = h0 := by rw [← hh, Bd.state]; rfl
  have N0 := Fr.nil n0
  have pre0 : GO p e below (s₁.setTop (mkF m 0 #[.val (.ref a1), .val (.int p2)] [])) (s₁.setTop (entryFrame m #[(.ref a1), (.int p2)] 2)) := fun t k => castTop (ef_10 m a1 p2) k
  obtain ⟨cq246, kq246, q246a, q246b, q246c⟩ := isOf hZ e0 E_a1
  obtain ⟨_, _, ⟨T246, L246, k246, n246⟩, -, X246, ⟨Lc246, hQ246, l246, y246, z246⟩, st246⟩ := X0.virtualBack hx (y := mn11) (z := mn11) hown (mvT hZ (ww hw 64 rfl)) (mvT hZ (ww hw 65 rfl)) (notFace_of_selects (args := #[]) (mvT hZ (ww hw 67 rfl))) (mvT hZ (ww hw 67 rfl)) (mvT hZ (ww hw 66 rfl)) (by decide) (backOf (W := 0) (rm11_4 l Z a0 hw [] a1 p2 aB kB x0 x1 x2 x3 h0 n0 Z0 E_a1 F_numbers_a1 V_aB) hZ (ww hw 68 rfl) (ww hw 27 rfl) (by decide) (by decide)) q246a q246c (g := (mkF m 2 #[.val (.ref a1), .val (.int p2)] [(.int p2), (.ref a1)])) rfl (by rw [hml]; rfl) (Steps.refl _) (argsL := [(.int p2)]) (rest := []) (lenOf pd_5 rfl) rfl (by show 2 * 0 + _ ≤ _; exact Nat.le_of_eq rfl) (hb hby d10_2) (fun _ _ => ⟨rfl, e0, (by decide : 0 + 0 ≤ _), (by decide : 0 + 0 ≤ _)⟩)
  dsimp only [Pt.U, Pt.locs, Pt.cells, Pt.slots] at X246 l246 y246 z246 st246 hQ246
  subst l246 y246 z246
  obtain ⟨rfl, N246q, e246⟩ := hQ246
  have N246 := Fr.app N0 N246q
  have pre248 : GO p e below (T246.setTop (mkF m 5 #[.val (.ref a1), .val (.int p2)] [(.int (bs_4 p2 x0 x1 x2 x3))])) (s₁.setTop (entryFrame m #[(.ref a1), (.int p2)] 2)) := fun t k => by
    refine pre0 _ ?_
    refine y_aloadN X0 hx hby d10_0 rfl rfl ?_
    refine y_iloadN X0 hx hby d10_1 rfl ?_
    refine st246.trans ?_
    show Steps p.tables e below (T246.setTop (mkF m 5 #[.val (.ref a1), .val (.int p2)] [(.int (bs_4 p2 x0 x1 x2 x3))])) _
    exact k
  by_cases hc247 : (bs_4 p2 x0 x1 x2 x3) < (0 : Int32)
  · obtain ⟨fs, hr, hrun, hended, hW, hsame⟩ := X246.leave (v := some (.int (0 : Int32))) (fun h => by rw [Bd.returns] at h; cases h)
    refine ⟨_, _, pre248 _ ?_, hrun, hended, _, _, rfl, ?_, ⟨_, rfl⟩, hW, hsame.mono (by decide) (by decide)⟩
    · refine y_ifYes X246 hx hby (pc' := 12) d10_5 ((if0 _ _).trans (tlt hc247).1) (by decide) (by decide) ?_
      refine y_iconst X246 hx hby (v := (0 : Int32)) d10_12 rfl ?_
      exact retN X246 hx (t := .boolean) Bd.returns (by simp) (hb hby d10_13) hr
    · show QP _ h0 n0 _ T246.heap _
      rw [e246, show f10_4 a1 p2 aB kB x0 x1 x2 x3 = (0 : Int32) from by unfold f10_4; rw [if_pos hc247]]
      exact ⟨rfl, N246, rfl⟩
  · obtain ⟨fs, hr, hrun, hended, hW, hsame⟩ := X246.leave (v := some (.int (1 : Int32))) (fun h => by rw [Bd.returns] at h; cases h)
    refine ⟨_, _, pre248 _ ?_, hrun, hended, _, _, rfl, ?_, ⟨_, rfl⟩, hW, hsame.mono (by decide) (by decide)⟩
    · refine y_ifNo X246 hx hby d10_5 ((if0 _ _).trans (flt hc247).1) ?_
      refine y_iconst X246 hx hby (v := (1 : Int32)) d10_8 rfl ?_
      refine y_goto X246 hx hby (pc' := 13) d10_9 (by decide) (by decide) ?_
      exact retN X246 hx (t := .boolean) Bd.returns (by simp) (hb hby d10_13) hr
    · show QP _ h0 n0 _ T246.heap _
      rw [e246, show f10_4 a1 p2 aB kB x0 x1 x2 x3 = (1 : Int32) from by unfold f10_4; rw [if_neg hc247]]
      exact ⟨rfl, N246, rfl⟩
abbrev ct_4 (p2 x0 x1 x2 x3 : Int32) : Int32 := f10_4 (0 : Addr) p2 (0 : Addr) (0 : ClassId) x0 x1 x2 x3
def nu_4 (p2 x0 x1 x2 x3 : Int32) : Int32 := if p2 = (0 : Int32) then x0 else if p2 = (1 : Int32) then x1 else if p2 = (2 : Int32) then x2 else x3
theorem own_nuget_4 {p2 x0 x1 x2 x3 : Int32} (hp : p2 = (0 : Int32) ∨ p2 = (1 : Int32) ∨ p2 = (2 : Int32) ∨ p2 = (3 : Int32)) : ¬ p2 < 0 ∧ p2 < (4 : Int32) ∧ ([(.int x0), (.int x1), (.int x2), (.int x3)] : List Value).getD p2.toNatClampNeg (.int (0 : Int32)) = .int (nu_4 p2 x0 x1 x2 x3) := by
  rcases hp with rfl | rfl | rfl | rfl <;> exact ⟨by decide, by decide, rfl⟩
set_option maxRecDepth 65536 in
set_option maxHeartbeats 40000000 in
theorem rm5_8_5_5 (l : Launch) (Z : State) (a0 : Array Value) (hw : HW a0 Z) (ws : List Jvm.Cond) (a1 : Addr) (k1 : ClassId) (x0 x1 x2 x3 x4 : Int32) (h0 : Heap) (n0 : Nat) (Z0 : n0 ≤ h0.size) (E_a1 : Exa Z h0 a1 "[I") (V_a1 : Arv Z h0 a1 k1 .int (8 : Int32) [(.int x0), (.int x1), (.int x2), (.int x3), (.int x4), (.int (0 : Int32)), (.int (0 : Int32)), (.int (0 : Int32))] (.int (0 : Int32))) :
    MF l mn5 jdk_65_method_123_code 3 (some (.array .int)) ws ({ frames := 1, cells := 1, slots := 5, locals := 18 } : Room) #[(.ref a1), (.int (5 : Int32))] Z h0 (QC Z (5 : Int32) [(.int x0), (.int x1), (.int x2), (.int x3), (.int x4)] h0 n0) := by
  refine MetFree.of_bodySF (plainFor_of_name pn_5) hisR ?_
  intro p e s m args below meth c s₁ Bd hml0 hP hK
  obtain ⟨rfl, hZ, hh⟩ := hP
  have hx := Bd.exec
  have hby := Bd.bytes
  have hml : c.maxLocals = 3 := hml0
  have hown : s.vm.findClass "java/util/Arrays" = some m.cls := findClass_of_methodNamed Bd.named
  have hnm := (name_of_methodNamed Bd.named Bd.method).1
  have X0 : Stand p l e ({ frames := 1, cells := 1, slots := 5, locals := 18 } : Room) s m #[(.ref a1), (.int (5 : Int32))] below meth c s₁ [] 0 0 := Stand.of_body Bd
  have e0 : s₁.heap = h0 := by rw [← hh, Bd.state]; rfl
  have N0 := Fr.nil n0
  have pre0 : GO p e below (s₁.setTop (mkF m 0 #[.val (.ref a1), .val (.int (5 : Int32)), .unset] [])) (s₁.setTop (entryFrame m #[(.ref a1), (.int (5 : Int32))] 3)) := fun t k => castTop (ef_5 m a1 (5 : Int32)) k
  have KK := Keep.refl h0 []
  obtain ⟨cl249, Ar249, q249, Sz249, Nn249, Hh249, Gg249⟩ := id V_a1
  obtain ⟨T250, h250, k250, X250, e250, E250, A250, Ex250, st250⟩ := newPE X0 hx hZ (ww hw 17 rfl) e0 (g := (mkF m 15 #[.val (.ref a1), .val (.int (5 : Int32)), .unset] [(.int (5 : Int32))])) rfl (hb hby d5_15) rfl (by decide) (cap := 5) (by decide) (by decide) (by decide) (by decide) (ad := "[I") (by first | rfl | decide)
  obtain ⟨b250, g250⟩ : ∃ z, z = h0.size := ⟨_, rfl⟩
  rw [← g250] at A250 Ex250 st250
  have g_b250 : n0 ≤ b250 := Nat.le_trans Z0 (Nat.le_of_eq g250.symm)
  have sz_b250 : h0.size ≤ b250 := Nat.le_trans KK.1 (Nat.le_of_eq g250.symm)
  have ne_a1_b250 : a1 ≠ b250 := Nat.ne_of_lt (Nat.lt_of_lt_of_le E_a1.lt (Nat.le_of_eq g250.symm))
  replace E_a1 := E_a1.ext E250
  replace V_a1 := V_a1.ext E250
  replace Z0 := Nat.le_trans Z0 E250.1
  replace KK := KK.ext E250
  have V_b250 : Arv Z h250 b250 k250 .int (5 : Int32) [(.int (0 : Int32)), (.int (0 : Int32)), (.int (0 : Int32)), (.int (0 : Int32)), (.int (0 : Int32))] (.int (0 : Int32)) := (Arv.new A250 (by decide)).pad (pad_rep [] (.int (0 : Int32)) 5)
  have E_b250 : Exa Z h250 b250 "[I" := Ex250
  obtain ⟨cl251, Ar251, q251, Sz251, Nn251, Hh251, Gg251⟩ := id V_a1
  obtain ⟨_, _, ⟨T252, L252, k252, n252⟩, -, X252, ⟨Lc252, hQ252, l252, y252, z252⟩, st252⟩ := Jvm.LawKit.callS X250 hx (y := mn0) hown (mvT hZ (ww hw 34 rfl)) (mvT hZ (ww hw 5 rfl)) (mvT hZ (ww hw 6 rfl)) (mvT hZ (ww hw 7 rfl)) (by decide) (backOf (W := 4) (rm1 l Z a0 hw [] (8 : Int32) (5 : Int32) h250 n0 Z0) hZ (ww hw 7 rfl) (ww hw 6 rfl) (by decide) (by decide)) (g := (mkF m 25 #[.val (.ref a1), .val (.int (5 : Int32)), .val (.ref b250)] [(.int (5 : Int32)), (.int (8 : Int32)), (.int (0 : Int32)), (.ref b250), (.int (0 : Int32)), (.ref a1)])) rfl (by rw [hml]; rfl) (argsL := [(.int (8 : Int32)), (.int (5 : Int32))]) (rest := [(.int (0 : Int32)), (.ref b250), (.int (0 : Int32)), (.ref a1)]) (lenOf pd_0 rfl) rfl (by show 2 * 0 + _ ≤ _; exact Nat.le_of_eq rfl) (hb hby d5_25) (fun _ _ => ⟨rfl, e250, (by decide : 1 + 0 ≤ _), (by decide : 5 + 0 ≤ _)⟩)
  dsimp only [Pt.U, Pt.locs, Pt.cells, Pt.slots] at X252 l252 y252 z252 st252 hQ252
  subst l252 y252 z252
  obtain ⟨rfl, N252q, e252⟩ := hQ252
  rw [show f1 (8 : Int32) (5 : Int32) = (5 : Int32) from by decide] at st252
  have N252 := Fr.app N0 N252q
  obtain ⟨T253, h253, L253, X253, e253, N253, K253, Vn253, st253⟩ := cpA X252 hx hZ hown (ww hw 35 rfl) (ww hw 38 rfl) (ww hw 36 rfl) (ww hw 37 rfl) e252 (us := [(.int x0), (.int x1), (.int x2), (.int x3), (.int x4)]) V_a1 V_b250 (Or.inl ⟨rfl, rfl⟩) (by decide) (by decide) (by decide) (by decide) (by decide) rfl (by decide) N252 g_b250 (g := (mkF m 28 #[.val (.ref a1), .val (.int (5 : Int32)), .val (.ref b250)] [(.int (5 : Int32)), (.int (0 : Int32)), (.ref b250), (.int (0 : Int32)), (.ref a1)])) rfl (by rw [hml]; rfl) rfl (hb hby d5_28) (by decide) (W := 0) (by show 2 * 0 + _ ≤ _; exact Nat.le_of_eq rfl) (by decide)
  replace E_a1 := E_a1.keep K253
  replace V_a1 := V_a1.keep K253 (ninS ne_a1_b250 nin0)
  replace E_b250 := E_b250.keep K253
  replace Z0 := Nat.le_trans Z0 K253.1
  replace KK := KK.trans K253 (allS (Or.inr sz_b250) all0)
  have V_b250 : Arv Z h253 b250 k250 .int (5 : Int32) [(.int x0), (.int x1), (.int x2), (.int x3), (.int x4)] (.int (0 : Int32)) := Vn253
  obtain ⟨fs, hr, hrun, hended, hW, hsame⟩ := X253.leave (v := some (.ref b250)) (fun h => by rw [Bd.returns] at h; cases h)
  refine ⟨_, _, pre0 _ ?_, hrun, hended, _, _, rfl, ?_, ⟨_, rfl⟩, hW, hsame.mono (by decide) (by decide)⟩
  · refine y_iloadN X0 hx hby d5_0 rfl ?_
    refine y_aloadN X0 hx hby d5_1 rfl rfl ?_
    refine X0.arraylength hx (by rw [e0]; exact Ar249.1) (State.isArrayOf_alike hZ.alike Ar249.2.1) (g := (mkF m 2 #[.val (.ref a1), .val (.int (5 : Int32)), .unset] [(.ref a1), (.int (5 : Int32))])) rfl rfl (hb hby d5_2) _ ?_
    rw [len_of Sz249 Nn249]
    show Steps p.tables e below (s₁.setTop (mkF m 3 #[.val (.ref a1), .val (.int (5 : Int32)), .unset] [(.int (8 : Int32)), (.int (5 : Int32))])) _
    refine y_icmpYes X0 hx hby (pc' := 14) d5_3 (feq (by decide)).2 (by decide) (by decide) ?_
    refine y_iloadN X0 hx hby d5_14 rfl ?_
    refine st250 _ ?_
    show Steps p.tables e below (T250.setTop (mkF m 17 #[.val (.ref a1), .val (.int (5 : Int32)), .unset] [(.ref b250)])) _
    refine y_astoreN X250 hx hby d5_17 rfl (l' := #[.val (.ref a1), .val (.int (5 : Int32)), .val (.ref b250)]) rfl ?_
    refine y_aloadN X250 hx hby d5_18 rfl rfl ?_
    refine y_iconst X250 hx hby (v := (0 : Int32)) d5_19 rfl ?_
    refine y_aloadN X250 hx hby d5_20 rfl rfl ?_
    refine y_iconst X250 hx hby (v := (0 : Int32)) d5_21 rfl ?_
    refine y_aloadN X250 hx hby d5_22 rfl rfl ?_
    refine X250.arraylength hx (by rw [e250]; exact Ar251.1) (State.isArrayOf_alike hZ.alike Ar251.2.1) (g := (mkF m 23 #[.val (.ref a1), .val (.int (5 : Int32)), .val (.ref b250)] [(.ref a1), (.int (0 : Int32)), (.ref b250), (.int (0 : Int32)), (.ref a1)])) rfl rfl (hb hby d5_23) _ ?_
    rw [len_of Sz251 Nn251]
    show Steps p.tables e below (T250.setTop (mkF m 24 #[.val (.ref a1), .val (.int (5 : Int32)), .val (.ref b250)] [(.int (8 : Int32)), (.int (0 : Int32)), (.ref b250), (.int (0 : Int32)), (.ref a1)])) _
    refine y_iloadN X250 hx hby d5_24 rfl ?_
    refine st252 _ ?_
    show Steps p.tables e below (T252.setTop (mkF m 28 #[.val (.ref a1), .val (.int (5 : Int32)), .val (.ref b250)] [(.int (5 : Int32)), (.int (0 : Int32)), (.ref b250), (.int (0 : Int32)), (.ref a1)])) _
    refine st253 _ ?_
    show Steps p.tables e below (T253.setTop (mkF m 31 #[.val (.ref a1), .val (.int (5 : Int32)), .val (.ref b250)] [])) _
    refine y_aloadN X253 hx hby d5_31 rfl rfl ?_
    show Steps p.tables e below (T253.setTop (mkF m 32 #[.val (.ref a1), .val (.int (5 : Int32)), .val (.ref b250)] [(.ref b250)])) _
    jvm_step X253.here [X253.here.top, hx, (hb hby d5_32), X253.method', Bd.returns, Value.isRef, FieldType.isReference]
    first | (intro acts; rw [hr _ acts rfl rfl rfl]) | rw [hr _ _ rfl rfl rfl]
    exact Steps.refl _
  · show QC Z (5 : Int32) [(.int x0), (.int x1), (.int x2), (.int x3), (.int x4)] h0 n0 _ T253.heap _
    rw [e253]
    exact ⟨b250, _, rfl, N253, KK, sz_b250, V_b250, E_b250⟩
set_option maxRecDepth 65536 in
set_option maxHeartbeats 40000000 in
theorem rm4_5 (l : Launch) (Z : State) (a0 : Array Value) (hw : HW a0 Z) (ws : List Jvm.Cond) (a1 aA : Addr) (kA : ClassId) (x0 x1 x2 x3 x4 : Int32) (h0 : Heap) (n0 : Nat) (Z0 : n0 ≤ h0.size) (E_a1 : Exa Z h0 a1 "com/example/hard_delay_bounds/harddelaybounds/analysis/FlowSet$Builder") (F_numbers_a1 : Fld Z h0 a1 "com/example/hard_delay_bounds/harddelaybounds/analysis/FlowSet$Builder" "numbers" "[I" (.ref aA)) (F_size_a1 : Fld Z h0 a1 "com/example/hard_delay_bounds/harddelaybounds/analysis/FlowSet$Builder" "size" "I" (.int (5 : Int32))) (E_aA : Exa Z h0 aA "[I") (V_aA : Arv Z h0 aA kA .int (8 : Int32) [(.int x0), (.int x1), (.int x2), (.int x3), (.int x4), (.int (0 : Int32)), (.int (0 : Int32)), (.int (0 : Int32))] (.int (0 : Int32))) (ne_a1_aA : a1 ≠ aA) :
    MF l mn7 prog_18_method_3_code 1 (some (.object "com/example/hard_delay_bounds/harddelaybounds/analysis/FlowSet")) ws ({ frames := 2, cells := 2, slots := 7, locals := 34 } : Room) #[(.ref a1)] Z h0 (QS Z (5 : Int32) [(.int x0), (.int x1), (.int x2), (.int x3), (.int x4)] h0 n0) := by
  refine MetFree.of_bodySF (plainFor_of_name pn_2) hisR ?_
  intro p e s m args below meth c s₁ Bd hml0 hP hK
  obtain ⟨rfl, hZ, hh⟩ := hP
  have hx := Bd.exec
  have hby := Bd.bytes
  have hml : c.maxLocals = 1 := hml0
  have hown : s.vm.findClass "com/example/hard_delay_bounds/harddelaybounds/analysis/FlowSet$Builder" = some m.cls := findClass_of_methodNamed Bd.named
  have hnm := (name_of_methodNamed Bd.named Bd.method).1
  have X0 : Stand p l e ({ frames := 2, cells := 2, slots := 7, locals := 34 } : Room) s m #[(.ref a1)] below meth c s₁ [] 0 0 := Stand.of_body Bd
  have e0 : s₁.heap = h0 := by rw [← hh, Bd.state]; rfl
  have N0 := Fr.nil n0
  have pre0 : GO p e below (s₁.setTop (mkF m 0 #[.val (.ref a1)] [])) (s₁.setTop (entryFrame m #[(.ref a1)] 1)) := fun t k => castTop (ef_4 m a1) k
  have KK := Keep.refl h0 []
  obtain ⟨T254, h254, X254, e254, E254, A254, D254, -, st254⟩ := newO X0 hx hZ hown (ww hw 25 rfl) (ww hw 26 rfl) (ww hw 27 rfl) e0 (g := (mkF m 0 #[.val (.ref a1)] [])) rfl (hb hby d4_0) (by decide) (by decide)
  obtain ⟨b254, g254⟩ : ∃ z, z = h0.size := ⟨_, rfl⟩
  rw [← g254] at A254 D254 st254
  have g_b254 : n0 ≤ b254 := Nat.le_trans Z0 (Nat.le_of_eq g254.symm)
  have sz_b254 : h0.size ≤ b254 := Nat.le_trans KK.1 (Nat.le_of_eq g254.symm)
  have ne_a1_b254 : a1 ≠ b254 := Nat.ne_of_lt (Nat.lt_of_lt_of_le E_a1.lt (Nat.le_of_eq g254.symm))
  have ne_aA_b254 : aA ≠ b254 := Nat.ne_of_lt (Nat.lt_of_lt_of_le E_aA.lt (Nat.le_of_eq g254.symm))
  replace E_a1 := E_a1.ext E254
  replace F_numbers_a1 := F_numbers_a1.ext E254
  replace F_size_a1 := F_size_a1.ext E254
  replace E_aA := E_aA.ext E254
  replace V_aA := V_aA.ext E254
  replace Z0 := Nat.le_trans Z0 E254.1
  replace KK := KK.ext E254
  have E_b254 := A254
  have F_numbers_b254 : Fld Z h254 b254 "com/example/hard_delay_bounds/harddelaybounds/analysis/FlowSet" "numbers" "[I" .null := D254 (Or.inr (ww hw 44 rfl)) (ty := (.array .int)) (by decide)
  have F_hash_b254 : Fld Z h254 b254 "com/example/hard_delay_bounds/harddelaybounds/analysis/FlowSet" "hash" "I" (.int (0 : Int32)) := D254 (Or.inr (ww hw 46 rfl)) (ty := .int) (by decide)
  obtain ⟨T255, X255, e255, st255⟩ := getF X254 hx hZ hown (host := "") (Or.inl (ww hw 18 rfl)) Via.refl e254 F_numbers_a1 (g := (mkF m 5 #[.val (.ref a1)] [(.ref a1), (.ref b254), (.ref b254)])) rfl rfl (hb hby d4_5)
  obtain ⟨T256, X256, e256, st256⟩ := getF X255 hx hZ hown (host := "") (Or.inl (ww hw 28 rfl)) Via.refl e255 F_size_a1 (g := (mkF m 9 #[.val (.ref a1)] [(.ref a1), (.ref aA), (.ref b254), (.ref b254)])) rfl rfl (hb hby d4_9)
  obtain ⟨_, _, ⟨T257, L257, k257, n257⟩, -, X257, ⟨Lc257, hQ257, l257, y257, z257⟩, st257⟩ := Jvm.LawKit.callS X256 hx (y := mn5) hown (mvT hZ (ww hw 30 rfl)) (mvT hZ (ww hw 31 rfl)) (mvT hZ (ww hw 32 rfl)) (mvT hZ (ww hw 33 rfl)) (by decide) (backOf (W := 2) (rm5_8_5_5 l Z a0 hw [] aA kA x0 x1 x2 x3 x4 h254 n0 Z0 E_aA V_aA) hZ (ww hw 33 rfl) (ww hw 32 rfl) (by decide) (by decide)) (g := (mkF m 12 #[.val (.ref a1)] [(.int (5 : Int32)), (.ref aA), (.ref b254), (.ref b254)])) rfl (by rw [hml]; rfl) (argsL := [(.ref aA), (.int (5 : Int32))]) (rest := [(.ref b254), (.ref b254)]) (lenOf pd_1 rfl) rfl (by show 2 * 0 + _ ≤ _; exact Nat.le_of_eq rfl) (hb hby d4_12) (fun _ _ => ⟨rfl, e256, (by decide : 1 + 1 ≤ _), (by decide : 2 + 5 ≤ _)⟩)
  dsimp only [Pt.U, Pt.locs, Pt.cells, Pt.slots] at X257 l257 y257 z257 st257 hQ257
  subst l257 y257 z257
  obtain ⟨h257, e257⟩ : ∃ z, T257.heap = z := ⟨_, rfl⟩
  rw [e257] at hQ257
  obtain ⟨b257, k257, rfl, N257q, K257, s257, Vn257, En257⟩ := hQ257
  have g_b257 : n0 ≤ b257 := Nat.le_trans Z0 s257
  have sz_b257 : h0.size ≤ b257 := Nat.le_trans KK.1 s257
  have ne_a1_b257 : a1 ≠ b257 := Nat.ne_of_lt (Nat.lt_of_lt_of_le E_a1.lt s257)
  have ne_aA_b257 : aA ≠ b257 := Nat.ne_of_lt (Nat.lt_of_lt_of_le E_aA.lt s257)
  have ne_b254_b257 : b254 ≠ b257 := Nat.ne_of_lt (Nat.lt_of_lt_of_le E_b254.lt s257)
  replace E_a1 := E_a1.keep K257
  replace F_numbers_a1 := F_numbers_a1.keep K257 nin0
  replace F_size_a1 := F_size_a1.keep K257 nin0
  replace E_aA := E_aA.keep K257
  replace V_aA := V_aA.keep K257 nin0
  replace E_b254 := E_b254.keep K257
  replace F_numbers_b254 := F_numbers_b254.keep K257 nin0
  replace F_hash_b254 := F_hash_b254.keep K257 nin0
  replace Z0 := Nat.le_trans Z0 K257.1
  replace KK := KK.trans K257 all0
  have V_b257 : Arv Z h257 b257 k257 .int (5 : Int32) [(.int x0), (.int x1), (.int x2), (.int x3), (.int x4)] (.int (0 : Int32)) := Vn257
  have E_b257 := En257
  have N257 := Fr.app N0 N257q
  obtain ⟨_, _, ⟨T258, L258, k258, n258⟩, -, X258, ⟨Lc258, hQ258, l258, y258, z258⟩, st258⟩ := X257.specialBackNest hx (y := mn6) rfl hown (own_mvMN hZ (ww hw 39 rfl)) (mvT hZ (ww hw 40 rfl)) (mvT hZ (ww hw 41 rfl)) (by decide) (backOf (W := 1) (rm6 l Z a0 hw [] b254 b257 k257 _ _ h257 n0 Z0 E_b254 F_numbers_b254 F_hash_b254 V_b257 g_b254 ne_b254_b257) hZ (ww hw 41 rfl) (ww hw 27 rfl) (by decide) (by decide)) (g := (mkF m 15 #[.val (.ref a1)] [(.ref b257), (.ref b254), (.ref b254)])) rfl (by rw [hml]; rfl) (Steps.refl _) (a := b254) (argsL := [(.ref b257)]) (rest := [(.ref b254)]) (lenOf pd_2 rfl) rfl (by show 2 * 0 + _ ≤ _; exact Nat.le_of_eq rfl) (hb hby d4_15) (fun _ _ => ⟨rfl, e257, (by decide : 2 + 0 ≤ _), (by decide : 7 + 0 ≤ _)⟩)
  dsimp only [Pt.U, Pt.locs, Pt.cells, Pt.slots] at X258 l258 y258 z258 st258 hQ258
  subst l258 y258 z258
  obtain ⟨h258, e258⟩ : ∃ z, T258.heap = z := ⟨_, rfl⟩
  rw [e258] at hQ258
  obtain ⟨rfl, N258q, K258, Fn258⟩ := hQ258
  replace E_a1 := E_a1.keep K258
  replace F_numbers_a1 := F_numbers_a1.keep K258 (ninS ne_a1_b254 nin0)
  replace F_size_a1 := F_size_a1.keep K258 (ninS ne_a1_b254 nin0)
  replace E_aA := E_aA.keep K258
  replace V_aA := V_aA.keep K258 (ninS ne_aA_b254 nin0)
  replace E_b254 := E_b254.keep K258
  replace V_b257 := V_b257.keep K258 (ninS (Ne.symm ne_b254_b257) nin0)
  replace E_b257 := E_b257.keep K258
  replace Z0 := Nat.le_trans Z0 K258.1
  replace KK := KK.trans K258 (allS (Or.inr sz_b254) all0)
  have F_numbers_b254 := Fn258
  have N258 := Fr.app N257 N258q
  obtain ⟨fs, hr, hrun, hended, hW, hsame⟩ := X258.leave (v := some (.ref b254)) (fun h => by rw [Bd.returns] at h; cases h)
  refine ⟨_, _, pre0 _ ?_, hrun, hended, _, _, rfl, ?_, ⟨_, rfl⟩, hW, hsame.mono (by decide) (by decide)⟩
  · refine st254 _ ?_
    show Steps p.tables e below (T254.setTop (mkF m 3 #[.val (.ref a1)] [(.ref b254)])) _
    refine y_dup X254 hx hby d4_3 rfl ?_
    refine y_aloadN X254 hx hby d4_4 rfl rfl ?_
    refine st255 _ ?_
    show Steps p.tables e below (T255.setTop (mkF m 8 #[.val (.ref a1)] [(.ref aA), (.ref b254), (.ref b254)])) _
    refine y_aloadN X255 hx hby d4_8 rfl rfl ?_
    refine st256 _ ?_
    show Steps p.tables e below (T256.setTop (mkF m 12 #[.val (.ref a1)] [(.int (5 : Int32)), (.ref aA), (.ref b254), (.ref b254)])) _
    refine st257 _ ?_
    show Steps p.tables e below (T257.setTop (mkF m 15 #[.val (.ref a1)] [(.ref b257), (.ref b254), (.ref b254)])) _
    refine st258.trans ?_
    show Steps p.tables e below (T258.setTop (mkF m 18 #[.val (.ref a1)] [(.ref b254)])) _
    jvm_step X258.here [X258.here.top, hx, (hb hby d4_18), X258.method', Bd.returns, Value.isRef, FieldType.isReference]
    first | (intro acts; rw [hr _ acts rfl rfl rfl]) | rw [hr _ _ rfl rfl rfl]
    exact Steps.refl _
  · show QS Z (5 : Int32) [(.int x0), (.int x1), (.int x2), (.int x3), (.int x4)] h0 n0 _ T258.heap _
    rw [e258]
    exact ⟨b254, b257, _, rfl, N258, KK, sz_b254, sz_b257, E_b254, F_numbers_b254, V_b257⟩
set_option maxRecDepth 65536 in
set_option maxHeartbeats 40000000 in
theorem rm7_5 (l : Launch) (Z : State) (a0 : Array Value) (hw : HW a0 Z) (ws : List Jvm.Cond) (a1 aB : Addr) (kB : ClassId) (x0 x1 x2 x3 x4 : Int32) (h0 : Heap) (n0 : Nat) (Z0 : n0 ≤ h0.size) (F_numbers_a1 : Fld Z h0 a1 "com/example/hard_delay_bounds/harddelaybounds/analysis/FlowSet" "numbers" "[I" (.ref aB)) (V_aB : Arv Z h0 aB kB .int (5 : Int32) [(.int x0), (.int x1), (.int x2), (.int x3), (.int x4)] (.int (0 : Int32))) :
    MF l mn8 prog_17_method_2_code 1 (some .int) ws ({ frames := 0, cells := 0, slots := 0, locals := 0 } : Room) #[(.ref a1)] Z h0 (QP (some (.int (5 : Int32))) h0 n0) := by
  refine MetFree.of_bodySF (plainFor_of_name pn_6) hisR ?_
  intro p e s m args below meth c s₁ Bd hml0 hP hK
  obtain ⟨rfl, hZ, hh⟩ := hP
  have hx := Bd.exec
  have hby := Bd.bytes
  have hml : c.maxLocals = 1 := hml0
  have hown : s.vm.findClass "com/example/hard_delay_bounds/harddelaybounds/analysis/FlowSet" = some m.cls := findClass_of_methodNamed Bd.named
  have hnm := (name_of_methodNamed Bd.named Bd.method).1
  have X0 : Stand p l e ({ frames := 0, cells := 0, slots := 0, locals := 0 } : Room) s m #[(.ref a1)] below meth c s₁ [] 0 0 := Stand.of_body Bd
  have e0 : s₁.heap = h0 := by rw [← hh, Bd.state]; rfl
  have N0 := Fr.nil n0
  have pre0 : GO p e below (s₁.setTop (mkF m 0 #[.val (.ref a1)] [])) (s₁.setTop (entryFrame m #[(.ref a1)] 1)) := fun t k => castTop (ef_7 m a1) k
  obtain ⟨T259, X259, e259, st259⟩ := getF X0 hx hZ hown (host := "") (Or.inl (ww hw 43 rfl)) Via.refl e0 F_numbers_a1 (g := (mkF m 1 #[.val (.ref a1)] [(.ref a1)])) rfl rfl (hb hby d7_1)
  obtain ⟨cl260, Ar260, q260, Sz260, Nn260, Hh260, Gg260⟩ := id V_aB
  obtain ⟨fs, hr, hrun, hended, hW, hsame⟩ := X259.leave (v := some (.int (5 : Int32))) (fun h => by rw [Bd.returns] at h; cases h)
  refine ⟨_, _, pre0 _ ?_, hrun, hended, _, _, rfl, ?_, ⟨_, rfl⟩, hW, hsame.mono (by decide) (by decide)⟩
  · refine y_aloadN X0 hx hby d7_0 rfl rfl ?_
    refine st259 _ ?_
    show Steps p.tables e below (T259.setTop (mkF m 4 #[.val (.ref a1)] [(.ref aB)])) _
    refine X259.arraylength hx (by rw [e259]; exact Ar260.1) (State.isArrayOf_alike hZ.alike Ar260.2.1) (g := (mkF m 4 #[.val (.ref a1)] [(.ref aB)])) rfl rfl (hb hby d7_4) _ ?_
    rw [len_of Sz260 Nn260]
    show Steps p.tables e below (T259.setTop (mkF m 5 #[.val (.ref a1)] [(.int (5 : Int32))])) _
    exact retI X259 hx Bd.returns (hb hby d7_5) hr
  · show QP _ h0 n0 _ T259.heap _
    rw [e259]
    exact ⟨rfl, N0, rfl⟩
abbrev lo13_5_0 (a1 : Addr) (p4 : Int32) : Array Slot := #[.val (.ref a1), .val (.int (0 : Int32)), .val (.int (5 : Int32)), .val (.int p4), .val (.int (0 : Int32)), .unset, .unset, .unset]
abbrev lo13_5_1 (a1 : Addr) (p4 : Int32) : Array Slot := #[.val (.ref a1), .val (.int (0 : Int32)), .val (.int (5 : Int32)), .val (.int p4), .val (.int (0 : Int32)), .val (.int (4 : Int32)), .unset, .unset]
abbrev lo13_5_2 (a1 : Addr) (p4 : Int32) : Array Slot := #[.val (.ref a1), .val (.int (0 : Int32)), .val (.int (5 : Int32)), .val (.int p4), .val (.int (0 : Int32)), .val (.int (4 : Int32)), .val (.int (2 : Int32)), .unset]
abbrev lo13_5_3 (a1 : Addr) (p4 x2 : Int32) : Array Slot := #[.val (.ref a1), .val (.int (0 : Int32)), .val (.int (5 : Int32)), .val (.int p4), .val (.int (0 : Int32)), .val (.int (4 : Int32)), .val (.int (2 : Int32)), .val (.int x2)]
abbrev lo13_5_4 (a1 : Addr) (p4 x2 : Int32) : Array Slot := #[.val (.ref a1), .val (.int (0 : Int32)), .val (.int (5 : Int32)), .val (.int p4), .val (.int (3 : Int32)), .val (.int (4 : Int32)), .val (.int (2 : Int32)), .val (.int x2)]
abbrev lo13_5_5 (a1 : Addr) (p4 x2 : Int32) : Array Slot := #[.val (.ref a1), .val (.int (0 : Int32)), .val (.int (5 : Int32)), .val (.int p4), .val (.int (3 : Int32)), .val (.int (4 : Int32)), .val (.int (3 : Int32)), .val (.int x2)]
abbrev lo13_5_6 (a1 : Addr) (p4 x3 : Int32) : Array Slot := #[.val (.ref a1), .val (.int (0 : Int32)), .val (.int (5 : Int32)), .val (.int p4), .val (.int (3 : Int32)), .val (.int (4 : Int32)), .val (.int (3 : Int32)), .val (.int x3)]
abbrev lo13_5_7 (a1 : Addr) (p4 x3 : Int32) : Array Slot := #[.val (.ref a1), .val (.int (0 : Int32)), .val (.int (5 : Int32)), .val (.int p4), .val (.int (4 : Int32)), .val (.int (4 : Int32)), .val (.int (3 : Int32)), .val (.int x3)]
abbrev lo13_5_8 (a1 : Addr) (p4 x3 : Int32) : Array Slot := #[.val (.ref a1), .val (.int (0 : Int32)), .val (.int (5 : Int32)), .val (.int p4), .val (.int (4 : Int32)), .val (.int (4 : Int32)), .val (.int (4 : Int32)), .val (.int x3)]
abbrev lo13_5_9 (a1 : Addr) (p4 x4 : Int32) : Array Slot := #[.val (.ref a1), .val (.int (0 : Int32)), .val (.int (5 : Int32)), .val (.int p4), .val (.int (4 : Int32)), .val (.int (4 : Int32)), .val (.int (4 : Int32)), .val (.int x4)]
abbrev lo13_5_10 (a1 : Addr) (p4 x4 : Int32) : Array Slot := #[.val (.ref a1), .val (.int (0 : Int32)), .val (.int (5 : Int32)), .val (.int p4), .val (.int (5 : Int32)), .val (.int (4 : Int32)), .val (.int (4 : Int32)), .val (.int x4)]
abbrev lo13_5_11 (a1 : Addr) (p4 x4 : Int32) : Array Slot := #[.val (.ref a1), .val (.int (0 : Int32)), .val (.int (5 : Int32)), .val (.int p4), .val (.int (4 : Int32)), .val (.int (3 : Int32)), .val (.int (4 : Int32)), .val (.int x4)]
abbrev lo13_5_12 (a1 : Addr) (p4 x3 : Int32) : Array Slot := #[.val (.ref a1), .val (.int (0 : Int32)), .val (.int (5 : Int32)), .val (.int p4), .val (.int (3 : Int32)), .val (.int (2 : Int32)), .val (.int (3 : Int32)), .val (.int x3)]
abbrev lo13_5_13 (a1 : Addr) (p4 x2 : Int32) : Array Slot := #[.val (.ref a1), .val (.int (0 : Int32)), .val (.int (5 : Int32)), .val (.int p4), .val (.int (0 : Int32)), .val (.int (1 : Int32)), .val (.int (2 : Int32)), .val (.int x2)]
abbrev lo13_5_14 (a1 : Addr) (p4 x2 : Int32) : Array Slot := #[.val (.ref a1), .val (.int (0 : Int32)), .val (.int (5 : Int32)), .val (.int p4), .val (.int (0 : Int32)), .val (.int (1 : Int32)), .val (.int (0 : Int32)), .val (.int x2)]
abbrev lo13_5_15 (a1 : Addr) (p4 x0 : Int32) : Array Slot := #[.val (.ref a1), .val (.int (0 : Int32)), .val (.int (5 : Int32)), .val (.int p4), .val (.int (0 : Int32)), .val (.int (1 : Int32)), .val (.int (0 : Int32)), .val (.int x0)]
abbrev lo13_5_16 (a1 : Addr) (p4 x0 : Int32) : Array Slot := #[.val (.ref a1), .val (.int (0 : Int32)), .val (.int (5 : Int32)), .val (.int p4), .val (.int (1 : Int32)), .val (.int (1 : Int32)), .val (.int (0 : Int32)), .val (.int x0)]
abbrev lo13_5_17 (a1 : Addr) (p4 x0 : Int32) : Array Slot := #[.val (.ref a1), .val (.int (0 : Int32)), .val (.int (5 : Int32)), .val (.int p4), .val (.int (1 : Int32)), .val (.int (1 : Int32)), .val (.int (1 : Int32)), .val (.int x0)]
abbrev lo13_5_18 (a1 : Addr) (p4 x1 : Int32) : Array Slot := #[.val (.ref a1), .val (.int (0 : Int32)), .val (.int (5 : Int32)), .val (.int p4), .val (.int (1 : Int32)), .val (.int (1 : Int32)), .val (.int (1 : Int32)), .val (.int x1)]
abbrev lo13_5_19 (a1 : Addr) (p4 x1 : Int32) : Array Slot := #[.val (.ref a1), .val (.int (0 : Int32)), .val (.int (5 : Int32)), .val (.int p4), .val (.int (2 : Int32)), .val (.int (1 : Int32)), .val (.int (1 : Int32)), .val (.int x1)]
abbrev lo13_5_20 (a1 : Addr) (p4 x1 : Int32) : Array Slot := #[.val (.ref a1), .val (.int (0 : Int32)), .val (.int (5 : Int32)), .val (.int p4), .val (.int (1 : Int32)), .val (.int (0 : Int32)), .val (.int (1 : Int32)), .val (.int x1)]
abbrev lo13_5_21 (a1 : Addr) (p4 x0 : Int32) : Array Slot := #[.val (.ref a1), .val (.int (0 : Int32)), .val (.int (5 : Int32)), .val (.int p4), .val (.int (0 : Int32)), .val (.int (-1 : Int32)), .val (.int (0 : Int32)), .val (.int x0)]
def f13_5 (a1 : Addr) (p4 : Int32) (k1 : ClassId) (x0 x1 x2 x3 x4 : Int32) : Int32 := (if x2 < p4 then (if x3 < p4 then (if x4 < p4 then (-6 : Int32) else (if p4 < x4 then (-5 : Int32) else (4 : Int32))) else (if p4 < x3 then (-4 : Int32) else (3 : Int32))) else (if p4 < x2 then (if x0 < p4 then (if x1 < p4 then (-3 : Int32) else (if p4 < x1 then (-2 : Int32) else (1 : Int32))) else (if p4 < x0 then (-1 : Int32) else (0 : Int32))) else (2 : Int32)))
set_option maxRecDepth 65536 in
set_option maxHeartbeats 40000000 in
theorem rm13_5 (l : Launch) (Z : State) (a0 : Array Value) (hw : HW a0 Z) (ws : List Jvm.Cond) (a1 : Addr) (p4 : Int32) (k1 : ClassId) (x0 x1 x2 x3 x4 : Int32) (h0 : Heap) (n0 : Nat) (Z0 : n0 ≤ h0.size) (V_a1 : Arv Z h0 a1 k1 .int (5 : Int32) [(.int x0), (.int x1), (.int x2), (.int x3), (.int x4)] (.int (0 : Int32))) :
    MF l mn9 jdk_65_method_59_code 8 (some .int) ws ({ frames := 0, cells := 0, slots := 0, locals := 0 } : Room) #[(.ref a1), (.int (0 : Int32)), (.int (5 : Int32)), (.int p4)] Z h0 (QP (some (.int (f13_5 a1 p4 k1 x0 x1 x2 x3 x4))) h0 n0) := by
  refine MetFree.of_bodySF (plainFor_of_name pn_5) hisR ?_
  intro p e s m args below meth c s₁ Bd hml0 hP hK
  obtain ⟨rfl, hZ, hh⟩ := hP
  have hx := Bd.exec
  have hby := Bd.bytes
  have hml : c.maxLocals = 8 := hml0
  have hown : s.vm.findClass "java/util/Arrays" = some m.cls := findClass_of_methodNamed Bd.named
  have hnm := (name_of_methodNamed Bd.named Bd.method).1
  have X0 : Stand p l e ({ frames := 0, cells := 0, slots := 0, locals := 0 } : Room) s m #[(.ref a1), (.int (0 : Int32)), (.int (5 : Int32)), (.int p4)] below meth c s₁ [] 0 0 := Stand.of_body Bd
  have e0 : s₁.heap = h0 := by rw [← hh, Bd.state]; rfl
  have N0 := Fr.nil n0
  have pre0 : GO p e below (s₁.setTop (mkF m 0 #[.val (.ref a1), .val (.int (0 : Int32)), .val (.int (5 : Int32)), .val (.int p4), .unset, .unset, .unset, .unset] [])) (s₁.setTop (entryFrame m #[(.ref a1), (.int (0 : Int32)), (.int (5 : Int32)), (.int p4)] 8)) := fun t k => castTop (ef_13 m a1 (0 : Int32) (5 : Int32) p4) k
  obtain ⟨cl261, Ar261, q261, Sz261, Nn261, Hh261, Gg261⟩ := id V_a1
  have hin261 : ¬ ((2 : Int32) < 0 ∨ cl261.slots.size ≤ ((2 : Int32)).toNatClampNeg) := inb_of Sz261 ⟨by decide, by decide⟩
  have hat261 : cl261.slots[((2 : Int32)).toNatClampNeg]? = some (.int x2) := Hh261.at hin261 rfl
  have pre263 : GO p e below (s₁.setTop (mkF m 33 (lo13_5_3 a1 p4 x2) [(.int p4), (.int x2)])) (s₁.setTop (entryFrame m #[(.ref a1), (.int (0 : Int32)), (.int (5 : Int32)), (.int p4)] 8)) := fun t k => by
    refine pre0 _ ?_
    refine y_iloadN X0 hx hby d13_0 rfl ?_
    refine y_istore X0 hx hby d13_1 (l' := (lo13_5_0 a1 p4)) rfl ?_
    refine y_iloadN X0 hx hby d13_3 rfl ?_
    refine y_iconst X0 hx hby (v := (1 : Int32)) d13_4 rfl ?_
    refine y_isub X0 hx hby d13_5 ?_
    rw [show ((5 : Int32) - (1 : Int32)) = (4 : Int32) from by decide]
    refine y_istore X0 hx hby d13_6 (l' := (lo13_5_1 a1 p4)) rfl ?_
    refine y_iload X0 hx hby d13_8 rfl ?_
    refine y_iload X0 hx hby d13_10 rfl ?_
    refine y_icmpNo X0 hx hby d13_12 (flt (by decide)).2.2.1 ?_
    refine y_iload X0 hx hby d13_15 rfl ?_
    refine y_iload X0 hx hby d13_17 rfl ?_
    refine y_iadd X0 hx hby d13_19 ?_
    rw [show ((0 : Int32) + (4 : Int32)) = (4 : Int32) from by decide]
    refine y_iconst X0 hx hby (v := (1 : Int32)) d13_20 rfl ?_
    refine y_iushr X0 hx hby d13_21 ?_
    rw [show (((4 : Int32).toUInt32 >>> ((1 : Int32) &&& 31).toUInt32).toInt32) = (2 : Int32) from by decide]
    refine y_istore X0 hx hby d13_22 (l' := (lo13_5_2 a1 p4)) rfl ?_
    refine y_aloadN X0 hx hby d13_24 rfl rfl ?_
    refine y_iload X0 hx hby d13_25 rfl ?_
    refine X0.iaload hx (j := (2 : Int32)) (v := (.int x2)) (by rw [e0]; exact Ar261.1) (State.isArrayOf_alike hZ.alike Ar261.2.1) Ar261.2.2 hin261 hat261 (g := (mkF m 27 (lo13_5_2 a1 p4) [(.int (2 : Int32)), (.ref a1)])) rfl rfl (hb hby d13_27) _ ?_
    show Steps p.tables e below (s₁.setTop (mkF m 28 (lo13_5_2 a1 p4) [(.int x2)])) _
    refine y_istore X0 hx hby d13_28 (l' := (lo13_5_3 a1 p4 x2)) rfl ?_
    refine y_iload X0 hx hby d13_30 rfl ?_
    refine y_iloadN X0 hx hby d13_32 rfl ?_
    exact k
  by_cases hc262 : x2 < p4
  · obtain ⟨cl264, Ar264, q264, Sz264, Nn264, Hh264, Gg264⟩ := id V_a1
    have hin264 : ¬ ((3 : Int32) < 0 ∨ cl264.slots.size ≤ ((3 : Int32)).toNatClampNeg) := inb_of Sz264 ⟨by decide, by decide⟩
    have hat264 : cl264.slots[((3 : Int32)).toNatClampNeg]? = some (.int x3) := Hh264.at hin264 rfl
    have pre266 : GO p e below (s₁.setTop (mkF m 33 (lo13_5_6 a1 p4 x3) [(.int p4), (.int x3)])) (s₁.setTop (entryFrame m #[(.ref a1), (.int (0 : Int32)), (.int (5 : Int32)), (.int p4)] 8)) := fun t k => by
      refine pre263 _ ?_
      refine y_icmpNo X0 hx hby d13_33 (tlt hc262).2.1 ?_
      refine y_iload X0 hx hby d13_36 rfl ?_
      refine y_iconst X0 hx hby (v := (1 : Int32)) d13_38 rfl ?_
      refine y_iadd X0 hx hby d13_39 ?_
      rw [show ((2 : Int32) + (1 : Int32)) = (3 : Int32) from by decide]
      refine y_istore X0 hx hby d13_40 (l' := (lo13_5_4 a1 p4 x2)) rfl ?_
      refine y_goto X0 hx hby (pc' := 63) d13_42 (by decide) (by decide) ?_
      refine y_goto X0 hx hby (pc' := 8) d13_63 (by decide) (by decide) ?_
      refine y_iload X0 hx hby d13_8 rfl ?_
      refine y_iload X0 hx hby d13_10 rfl ?_
      refine y_icmpNo X0 hx hby d13_12 (flt (by decide)).2.2.1 ?_
      refine y_iload X0 hx hby d13_15 rfl ?_
      refine y_iload X0 hx hby d13_17 rfl ?_
      refine y_iadd X0 hx hby d13_19 ?_
      rw [show ((3 : Int32) + (4 : Int32)) = (7 : Int32) from by decide]
      refine y_iconst X0 hx hby (v := (1 : Int32)) d13_20 rfl ?_
      refine y_iushr X0 hx hby d13_21 ?_
      rw [show (((7 : Int32).toUInt32 >>> ((1 : Int32) &&& 31).toUInt32).toInt32) = (3 : Int32) from by decide]
      refine y_istore X0 hx hby d13_22 (l' := (lo13_5_5 a1 p4 x2)) rfl ?_
      refine y_aloadN X0 hx hby d13_24 rfl rfl ?_
      refine y_iload X0 hx hby d13_25 rfl ?_
      refine X0.iaload hx (j := (3 : Int32)) (v := (.int x3)) (by rw [e0]; exact Ar264.1) (State.isArrayOf_alike hZ.alike Ar264.2.1) Ar264.2.2 hin264 hat264 (g := (mkF m 27 (lo13_5_5 a1 p4 x2) [(.int (3 : Int32)), (.ref a1)])) rfl rfl (hb hby d13_27) _ ?_
      show Steps p.tables e below (s₁.setTop (mkF m 28 (lo13_5_5 a1 p4 x2) [(.int x3)])) _
      refine y_istore X0 hx hby d13_28 (l' := (lo13_5_6 a1 p4 x3)) rfl ?_
      refine y_iload X0 hx hby d13_30 rfl ?_
      refine y_iloadN X0 hx hby d13_32 rfl ?_
      exact k
    by_cases hc265 : x3 < p4
    · obtain ⟨cl267, Ar267, q267, Sz267, Nn267, Hh267, Gg267⟩ := id V_a1
      have hin267 : ¬ ((4 : Int32) < 0 ∨ cl267.slots.size ≤ ((4 : Int32)).toNatClampNeg) := inb_of Sz267 ⟨by decide, by decide⟩
      have hat267 : cl267.slots[((4 : Int32)).toNatClampNeg]? = some (.int x4) := Hh267.at hin267 rfl
      have pre269 : GO p e below (s₁.setTop (mkF m 33 (lo13_5_9 a1 p4 x4) [(.int p4), (.int x4)])) (s₁.setTop (entryFrame m #[(.ref a1), (.int (0 : Int32)), (.int (5 : Int32)), (.int p4)] 8)) := fun t k => by
        refine pre266 _ ?_
        refine y_icmpNo X0 hx hby d13_33 (tlt hc265).2.1 ?_
        refine y_iload X0 hx hby d13_36 rfl ?_
        refine y_iconst X0 hx hby (v := (1 : Int32)) d13_38 rfl ?_
        refine y_iadd X0 hx hby d13_39 ?_
        rw [show ((3 : Int32) + (1 : Int32)) = (4 : Int32) from by decide]
        refine y_istore X0 hx hby d13_40 (l' := (lo13_5_7 a1 p4 x3)) rfl ?_
        refine y_goto X0 hx hby (pc' := 63) d13_42 (by decide) (by decide) ?_
        refine y_goto X0 hx hby (pc' := 8) d13_63 (by decide) (by decide) ?_
        refine y_iload X0 hx hby d13_8 rfl ?_
        refine y_iload X0 hx hby d13_10 rfl ?_
        refine y_icmpNo X0 hx hby d13_12 (flt (by decide)).2.2.1 ?_
        refine y_iload X0 hx hby d13_15 rfl ?_
        refine y_iload X0 hx hby d13_17 rfl ?_
        refine y_iadd X0 hx hby d13_19 ?_
        rw [show ((4 : Int32) + (4 : Int32)) = (8 : Int32) from by decide]
        refine y_iconst X0 hx hby (v := (1 : Int32)) d13_20 rfl ?_
        refine y_iushr X0 hx hby d13_21 ?_
        rw [show (((8 : Int32).toUInt32 >>> ((1 : Int32) &&& 31).toUInt32).toInt32) = (4 : Int32) from by decide]
        refine y_istore X0 hx hby d13_22 (l' := (lo13_5_8 a1 p4 x3)) rfl ?_
        refine y_aloadN X0 hx hby d13_24 rfl rfl ?_
        refine y_iload X0 hx hby d13_25 rfl ?_
        refine X0.iaload hx (j := (4 : Int32)) (v := (.int x4)) (by rw [e0]; exact Ar267.1) (State.isArrayOf_alike hZ.alike Ar267.2.1) Ar267.2.2 hin267 hat267 (g := (mkF m 27 (lo13_5_8 a1 p4 x3) [(.int (4 : Int32)), (.ref a1)])) rfl rfl (hb hby d13_27) _ ?_
        show Steps p.tables e below (s₁.setTop (mkF m 28 (lo13_5_8 a1 p4 x3) [(.int x4)])) _
        refine y_istore X0 hx hby d13_28 (l' := (lo13_5_9 a1 p4 x4)) rfl ?_
        refine y_iload X0 hx hby d13_30 rfl ?_
        refine y_iloadN X0 hx hby d13_32 rfl ?_
        exact k
      by_cases hc268 : x4 < p4
      · obtain ⟨fs, hr, hrun, hended, hW, hsame⟩ := X0.leave (v := some (.int (-6 : Int32))) (fun h => by rw [Bd.returns] at h; cases h)
        refine ⟨_, _, pre269 _ ?_, hrun, hended, _, _, rfl, ?_, ⟨_, rfl⟩, hW, hsame.mono (by decide) (by decide)⟩
        · refine y_icmpNo X0 hx hby d13_33 (tlt hc268).2.1 ?_
          refine y_iload X0 hx hby d13_36 rfl ?_
          refine y_iconst X0 hx hby (v := (1 : Int32)) d13_38 rfl ?_
          refine y_iadd X0 hx hby d13_39 ?_
          rw [show ((4 : Int32) + (1 : Int32)) = (5 : Int32) from by decide]
          refine y_istore X0 hx hby d13_40 (l' := (lo13_5_10 a1 p4 x4)) rfl ?_
          refine y_goto X0 hx hby (pc' := 63) d13_42 (by decide) (by decide) ?_
          refine y_goto X0 hx hby (pc' := 8) d13_63 (by decide) (by decide) ?_
          refine y_iload X0 hx hby d13_8 rfl ?_
          refine y_iload X0 hx hby d13_10 rfl ?_
          refine y_icmpYes X0 hx hby (pc' := 66) d13_12 (tlt (by decide)).2.2.1 (by decide) (by decide) ?_
          refine y_iload X0 hx hby d13_66 rfl ?_
          refine y_iconst X0 hx hby (v := (1 : Int32)) d13_68 rfl ?_
          refine y_iadd X0 hx hby d13_69 ?_
          rw [show ((5 : Int32) + (1 : Int32)) = (6 : Int32) from by decide]
          refine y_ineg X0 hx hby d13_70 ?_
          rw [show ((-(6 : Int32))) = (-6 : Int32) from by decide]
          exact retI X0 hx Bd.returns (hb hby d13_71) hr
        · show QP _ h0 n0 _ s₁.heap _
          rw [e0, show f13_5 a1 p4 k1 x0 x1 x2 x3 x4 = (-6 : Int32) from by unfold f13_5; rw [if_pos hc262, if_pos hc265, if_pos hc268]]
          exact ⟨rfl, N0, rfl⟩
      · have pre271 : GO p e below (s₁.setTop (mkF m 48 (lo13_5_9 a1 p4 x4) [(.int p4), (.int x4)])) (s₁.setTop (entryFrame m #[(.ref a1), (.int (0 : Int32)), (.int (5 : Int32)), (.int p4)] 8)) := fun t k => by
          refine pre269 _ ?_
          refine y_icmpYes X0 hx hby (pc' := 45) d13_33 (flt hc268).2.1 (by decide) (by decide) ?_
          refine y_iload X0 hx hby d13_45 rfl ?_
          refine y_iloadN X0 hx hby d13_47 rfl ?_
          exact k
        by_cases hc270 : p4 < x4
        · obtain ⟨fs, hr, hrun, hended, hW, hsame⟩ := X0.leave (v := some (.int (-5 : Int32))) (fun h => by rw [Bd.returns] at h; cases h)
          refine ⟨_, _, pre271 _ ?_, hrun, hended, _, _, rfl, ?_, ⟨_, rfl⟩, hW, hsame.mono (by decide) (by decide)⟩
          · refine y_icmpNo X0 hx hby d13_48 (tlt hc270).2.2.2 ?_
            refine y_iload X0 hx hby d13_51 rfl ?_
            refine y_iconst X0 hx hby (v := (1 : Int32)) d13_53 rfl ?_
            refine y_isub X0 hx hby d13_54 ?_
            rw [show ((4 : Int32) - (1 : Int32)) = (3 : Int32) from by decide]
            refine y_istore X0 hx hby d13_55 (l' := (lo13_5_11 a1 p4 x4)) rfl ?_
            refine y_goto X0 hx hby (pc' := 63) d13_57 (by decide) (by decide) ?_
            refine y_goto X0 hx hby (pc' := 8) d13_63 (by decide) (by decide) ?_
            refine y_iload X0 hx hby d13_8 rfl ?_
            refine y_iload X0 hx hby d13_10 rfl ?_
            refine y_icmpYes X0 hx hby (pc' := 66) d13_12 (tlt (by decide)).2.2.1 (by decide) (by decide) ?_
            refine y_iload X0 hx hby d13_66 rfl ?_
            refine y_iconst X0 hx hby (v := (1 : Int32)) d13_68 rfl ?_
            refine y_iadd X0 hx hby d13_69 ?_
            rw [show ((4 : Int32) + (1 : Int32)) = (5 : Int32) from by decide]
            refine y_ineg X0 hx hby d13_70 ?_
            rw [show ((-(5 : Int32))) = (-5 : Int32) from by decide]
            exact retI X0 hx Bd.returns (hb hby d13_71) hr
          · show QP _ h0 n0 _ s₁.heap _
            rw [e0, show f13_5 a1 p4 k1 x0 x1 x2 x3 x4 = (-5 : Int32) from by unfold f13_5; rw [if_pos hc262, if_pos hc265, if_neg hc268, if_pos hc270]]
            exact ⟨rfl, N0, rfl⟩
        · obtain ⟨fs, hr, hrun, hended, hW, hsame⟩ := X0.leave (v := some (.int (4 : Int32))) (fun h => by rw [Bd.returns] at h; cases h)
          refine ⟨_, _, pre271 _ ?_, hrun, hended, _, _, rfl, ?_, ⟨_, rfl⟩, hW, hsame.mono (by decide) (by decide)⟩
          · refine y_icmpYes X0 hx hby (pc' := 60) d13_48 (flt hc270).2.2.2 (by decide) (by decide) ?_
            refine y_iload X0 hx hby d13_60 rfl ?_
            exact retI X0 hx Bd.returns (hb hby d13_62) hr
          · show QP _ h0 n0 _ s₁.heap _
            rw [e0, show f13_5 a1 p4 k1 x0 x1 x2 x3 x4 = (4 : Int32) from by unfold f13_5; rw [if_pos hc262, if_pos hc265, if_neg hc268, if_neg hc270]]
            exact ⟨rfl, N0, rfl⟩
    · have pre273 : GO p e below (s₁.setTop (mkF m 48 (lo13_5_6 a1 p4 x3) [(.int p4), (.int x3)])) (s₁.setTop (entryFrame m #[(.ref a1), (.int (0 : Int32)), (.int (5 : Int32)), (.int p4)] 8)) := fun t k => by
        refine pre266 _ ?_
        refine y_icmpYes X0 hx hby (pc' := 45) d13_33 (flt hc265).2.1 (by decide) (by decide) ?_
        refine y_iload X0 hx hby d13_45 rfl ?_
        refine y_iloadN X0 hx hby d13_47 rfl ?_
        exact k
      by_cases hc272 : p4 < x3
      · obtain ⟨fs, hr, hrun, hended, hW, hsame⟩ := X0.leave (v := some (.int (-4 : Int32))) (fun h => by rw [Bd.returns] at h; cases h)
        refine ⟨_, _, pre273 _ ?_, hrun, hended, _, _, rfl, ?_, ⟨_, rfl⟩, hW, hsame.mono (by decide) (by decide)⟩
        · refine y_icmpNo X0 hx hby d13_48 (tlt hc272).2.2.2 ?_
          refine y_iload X0 hx hby d13_51 rfl ?_
          refine y_iconst X0 hx hby (v := (1 : Int32)) d13_53 rfl ?_
          refine y_isub X0 hx hby d13_54 ?_
          rw [show ((3 : Int32) - (1 : Int32)) = (2 : Int32) from by decide]
          refine y_istore X0 hx hby d13_55 (l' := (lo13_5_12 a1 p4 x3)) rfl ?_
          refine y_goto X0 hx hby (pc' := 63) d13_57 (by decide) (by decide) ?_
          refine y_goto X0 hx hby (pc' := 8) d13_63 (by decide) (by decide) ?_
          refine y_iload X0 hx hby d13_8 rfl ?_
          refine y_iload X0 hx hby d13_10 rfl ?_
          refine y_icmpYes X0 hx hby (pc' := 66) d13_12 (tlt (by decide)).2.2.1 (by decide) (by decide) ?_
          refine y_iload X0 hx hby d13_66 rfl ?_
          refine y_iconst X0 hx hby (v := (1 : Int32)) d13_68 rfl ?_
          refine y_iadd X0 hx hby d13_69 ?_
          rw [show ((3 : Int32) + (1 : Int32)) = (4 : Int32) from by decide]
          refine y_ineg X0 hx hby d13_70 ?_
          rw [show ((-(4 : Int32))) = (-4 : Int32) from by decide]
          exact retI X0 hx Bd.returns (hb hby d13_71) hr
        · show QP _ h0 n0 _ s₁.heap _
          rw [e0, show f13_5 a1 p4 k1 x0 x1 x2 x3 x4 = (-4 : Int32) from by unfold f13_5; rw [if_pos hc262, if_neg hc265, if_pos hc272]]
          exact ⟨rfl, N0, rfl⟩
      · obtain ⟨fs, hr, hrun, hended, hW, hsame⟩ := X0.leave (v := some (.int (3 : Int32))) (fun h => by rw [Bd.returns] at h; cases h)
        refine ⟨_, _, pre273 _ ?_, hrun, hended, _, _, rfl, ?_, ⟨_, rfl⟩, hW, hsame.mono (by decide) (by decide)⟩
        · refine y_icmpYes X0 hx hby (pc' := 60) d13_48 (flt hc272).2.2.2 (by decide) (by decide) ?_
          refine y_iload X0 hx hby d13_60 rfl ?_
          exact retI X0 hx Bd.returns (hb hby d13_62) hr
        · show QP _ h0 n0 _ s₁.heap _
          rw [e0, show f13_5 a1 p4 k1 x0 x1 x2 x3 x4 = (3 : Int32) from by unfold f13_5; rw [if_pos hc262, if_neg hc265, if_neg hc272]]
          exact ⟨rfl, N0, rfl⟩
  · have pre275 : GO p e below (s₁.setTop (mkF m 48 (lo13_5_3 a1 p4 x2) [(.int p4), (.int x2)])) (s₁.setTop (entryFrame m #[(.ref a1), (.int (0 : Int32)), (.int (5 : Int32)), (.int p4)] 8)) := fun t k => by
      refine pre263 _ ?_
      refine y_icmpYes X0 hx hby (pc' := 45) d13_33 (flt hc262).2.1 (by decide) (by decide) ?_
      refine y_iload X0 hx hby d13_45 rfl ?_
      refine y_iloadN X0 hx hby d13_47 rfl ?_
      exact k
    by_cases hc274 : p4 < x2
    · obtain ⟨cl276, Ar276, q276, Sz276, Nn276, Hh276, Gg276⟩ := id V_a1
      have hin276 : ¬ ((0 : Int32) < 0 ∨ cl276.slots.size ≤ ((0 : Int32)).toNatClampNeg) := inb_of Sz276 ⟨by decide, by decide⟩
      have hat276 : cl276.slots[((0 : Int32)).toNatClampNeg]? = some (.int x0) := Hh276.at hin276 rfl
      have pre278 : GO p e below (s₁.setTop (mkF m 33 (lo13_5_15 a1 p4 x0) [(.int p4), (.int x0)])) (s₁.setTop (entryFrame m #[(.ref a1), (.int (0 : Int32)), (.int (5 : Int32)), (.int p4)] 8)) := fun t k => by
        refine pre275 _ ?_
        refine y_icmpNo X0 hx hby d13_48 (tlt hc274).2.2.2 ?_
        refine y_iload X0 hx hby d13_51 rfl ?_
        refine y_iconst X0 hx hby (v := (1 : Int32)) d13_53 rfl ?_
        refine y_isub X0 hx hby d13_54 ?_
        rw [show ((2 : Int32) - (1 : Int32)) = (1 : Int32) from by decide]
        refine y_istore X0 hx hby d13_55 (l' := (lo13_5_13 a1 p4 x2)) rfl ?_
        refine y_goto X0 hx hby (pc' := 63) d13_57 (by decide) (by decide) ?_
        refine y_goto X0 hx hby (pc' := 8) d13_63 (by decide) (by decide) ?_
        refine y_iload X0 hx hby d13_8 rfl ?_
        refine y_iload X0 hx hby d13_10 rfl ?_
        refine y_icmpNo X0 hx hby d13_12 (flt (by decide)).2.2.1 ?_
        refine y_iload X0 hx hby d13_15 rfl ?_
        refine y_iload X0 hx hby d13_17 rfl ?_
        refine y_iadd X0 hx hby d13_19 ?_
        rw [show ((0 : Int32) + (1 : Int32)) = (1 : Int32) from by decide]
        refine y_iconst X0 hx hby (v := (1 : Int32)) d13_20 rfl ?_
        refine y_iushr X0 hx hby d13_21 ?_
        rw [show (((1 : Int32).toUInt32 >>> ((1 : Int32) &&& 31).toUInt32).toInt32) = (0 : Int32) from by decide]
        refine y_istore X0 hx hby d13_22 (l' := (lo13_5_14 a1 p4 x2)) rfl ?_
        refine y_aloadN X0 hx hby d13_24 rfl rfl ?_
        refine y_iload X0 hx hby d13_25 rfl ?_
        refine X0.iaload hx (j := (0 : Int32)) (v := (.int x0)) (by rw [e0]; exact Ar276.1) (State.isArrayOf_alike hZ.alike Ar276.2.1) Ar276.2.2 hin276 hat276 (g := (mkF m 27 (lo13_5_14 a1 p4 x2) [(.int (0 : Int32)), (.ref a1)])) rfl rfl (hb hby d13_27) _ ?_
        show Steps p.tables e below (s₁.setTop (mkF m 28 (lo13_5_14 a1 p4 x2) [(.int x0)])) _
        refine y_istore X0 hx hby d13_28 (l' := (lo13_5_15 a1 p4 x0)) rfl ?_
        refine y_iload X0 hx hby d13_30 rfl ?_
        refine y_iloadN X0 hx hby d13_32 rfl ?_
        exact k
      by_cases hc277 : x0 < p4
      · obtain ⟨cl279, Ar279, q279, Sz279, Nn279, Hh279, Gg279⟩ := id V_a1
        have hin279 : ¬ ((1 : Int32) < 0 ∨ cl279.slots.size ≤ ((1 : Int32)).toNatClampNeg) := inb_of Sz279 ⟨by decide, by decide⟩
        have hat279 : cl279.slots[((1 : Int32)).toNatClampNeg]? = some (.int x1) := Hh279.at hin279 rfl
        have pre281 : GO p e below (s₁.setTop (mkF m 33 (lo13_5_18 a1 p4 x1) [(.int p4), (.int x1)])) (s₁.setTop (entryFrame m #[(.ref a1), (.int (0 : Int32)), (.int (5 : Int32)), (.int p4)] 8)) := fun t k => by
          refine pre278 _ ?_
          refine y_icmpNo X0 hx hby d13_33 (tlt hc277).2.1 ?_
          refine y_iload X0 hx hby d13_36 rfl ?_
          refine y_iconst X0 hx hby (v := (1 : Int32)) d13_38 rfl ?_
          refine y_iadd X0 hx hby d13_39 ?_
          rw [show ((0 : Int32) + (1 : Int32)) = (1 : Int32) from by decide]
          refine y_istore X0 hx hby d13_40 (l' := (lo13_5_16 a1 p4 x0)) rfl ?_
          refine y_goto X0 hx hby (pc' := 63) d13_42 (by decide) (by decide) ?_
          refine y_goto X0 hx hby (pc' := 8) d13_63 (by decide) (by decide) ?_
          refine y_iload X0 hx hby d13_8 rfl ?_
          refine y_iload X0 hx hby d13_10 rfl ?_
          refine y_icmpNo X0 hx hby d13_12 (flt (by decide)).2.2.1 ?_
          refine y_iload X0 hx hby d13_15 rfl ?_
          refine y_iload X0 hx hby d13_17 rfl ?_
          refine y_iadd X0 hx hby d13_19 ?_
          rw [show ((1 : Int32) + (1 : Int32)) = (2 : Int32) from by decide]
          refine y_iconst X0 hx hby (v := (1 : Int32)) d13_20 rfl ?_
          refine y_iushr X0 hx hby d13_21 ?_
          rw [show (((2 : Int32).toUInt32 >>> ((1 : Int32) &&& 31).toUInt32).toInt32) = (1 : Int32) from by decide]
          refine y_istore X0 hx hby d13_22 (l' := (lo13_5_17 a1 p4 x0)) rfl ?_
          refine y_aloadN X0 hx hby d13_24 rfl rfl ?_
          refine y_iload X0 hx hby d13_25 rfl ?_
          refine X0.iaload hx (j := (1 : Int32)) (v := (.int x1)) (by rw [e0]; exact Ar279.1) (State.isArrayOf_alike hZ.alike Ar279.2.1) Ar279.2.2 hin279 hat279 (g := (mkF m 27 (lo13_5_17 a1 p4 x0) [(.int (1 : Int32)), (.ref a1)])) rfl rfl (hb hby d13_27) _ ?_
          show Steps p.tables e below (s₁.setTop (mkF m 28 (lo13_5_17 a1 p4 x0) [(.int x1)])) _
          refine y_istore X0 hx hby d13_28 (l' := (lo13_5_18 a1 p4 x1)) rfl ?_
          refine y_iload X0 hx hby d13_30 rfl ?_
          refine y_iloadN X0 hx hby d13_32 rfl ?_
          exact k
        by_cases hc280 : x1 < p4
        · obtain ⟨fs, hr, hrun, hended, hW, hsame⟩ := X0.leave (v := some (.int (-3 : Int32))) (fun h => by rw [Bd.returns] at h; cases h)
          refine ⟨_, _, pre281 _ ?_, hrun, hended, _, _, rfl, ?_, ⟨_, rfl⟩, hW, hsame.mono (by decide) (by decide)⟩
          · refine y_icmpNo X0 hx hby d13_33 (tlt hc280).2.1 ?_
            refine y_iload X0 hx hby d13_36 rfl ?_
            refine y_iconst X0 hx hby (v := (1 : Int32)) d13_38 rfl ?_
            refine y_iadd X0 hx hby d13_39 ?_
            rw [show ((1 : Int32) + (1 : Int32)) = (2 : Int32) from by decide]
            refine y_istore X0 hx hby d13_40 (l' := (lo13_5_19 a1 p4 x1)) rfl ?_
            refine y_goto X0 hx hby (pc' := 63) d13_42 (by decide) (by decide) ?_
            refine y_goto X0 hx hby (pc' := 8) d13_63 (by decide) (by decide) ?_
            refine y_iload X0 hx hby d13_8 rfl ?_
            refine y_iload X0 hx hby d13_10 rfl ?_
            refine y_icmpYes X0 hx hby (pc' := 66) d13_12 (tlt (by decide)).2.2.1 (by decide) (by decide) ?_
            refine y_iload X0 hx hby d13_66 rfl ?_
            refine y_iconst X0 hx hby (v := (1 : Int32)) d13_68 rfl ?_
            refine y_iadd X0 hx hby d13_69 ?_
            rw [show ((2 : Int32) + (1 : Int32)) = (3 : Int32) from by decide]
            refine y_ineg X0 hx hby d13_70 ?_
            rw [show ((-(3 : Int32))) = (-3 : Int32) from by decide]
            exact retI X0 hx Bd.returns (hb hby d13_71) hr
          · show QP _ h0 n0 _ s₁.heap _
            rw [e0, show f13_5 a1 p4 k1 x0 x1 x2 x3 x4 = (-3 : Int32) from by unfold f13_5; rw [if_neg hc262, if_pos hc274, if_pos hc277, if_pos hc280]]
            exact ⟨rfl, N0, rfl⟩
        · have pre283 : GO p e below (s₁.setTop (mkF m 48 (lo13_5_18 a1 p4 x1) [(.int p4), (.int x1)])) (s₁.setTop (entryFrame m #[(.ref a1), (.int (0 : Int32)), (.int (5 : Int32)), (.int p4)] 8)) := fun t k => by
            refine pre281 _ ?_
            refine y_icmpYes X0 hx hby (pc' := 45) d13_33 (flt hc280).2.1 (by decide) (by decide) ?_
            refine y_iload X0 hx hby d13_45 rfl ?_
            refine y_iloadN X0 hx hby d13_47 rfl ?_
            exact k
          by_cases hc282 : p4 < x1
          · obtain ⟨fs, hr, hrun, hended, hW, hsame⟩ := X0.leave (v := some (.int (-2 : Int32))) (fun h => by rw [Bd.returns] at h; cases h)
            refine ⟨_, _, pre283 _ ?_, hrun, hended, _, _, rfl, ?_, ⟨_, rfl⟩, hW, hsame.mono (by decide) (by decide)⟩
            · refine y_icmpNo X0 hx hby d13_48 (tlt hc282).2.2.2 ?_
              refine y_iload X0 hx hby d13_51 rfl ?_
              refine y_iconst X0 hx hby (v := (1 : Int32)) d13_53 rfl ?_
              refine y_isub X0 hx hby d13_54 ?_
              rw [show ((1 : Int32) - (1 : Int32)) = (0 : Int32) from by decide]
              refine y_istore X0 hx hby d13_55 (l' := (lo13_5_20 a1 p4 x1)) rfl ?_
              refine y_goto X0 hx hby (pc' := 63) d13_57 (by decide) (by decide) ?_
              refine y_goto X0 hx hby (pc' := 8) d13_63 (by decide) (by decide) ?_
              refine y_iload X0 hx hby d13_8 rfl ?_
              refine y_iload X0 hx hby d13_10 rfl ?_
              refine y_icmpYes X0 hx hby (pc' := 66) d13_12 (tlt (by decide)).2.2.1 (by decide) (by decide) ?_
              refine y_iload X0 hx hby d13_66 rfl ?_
              refine y_iconst X0 hx hby (v := (1 : Int32)) d13_68 rfl ?_
              refine y_iadd X0 hx hby d13_69 ?_
              rw [show ((1 : Int32) + (1 : Int32)) = (2 : Int32) from by decide]
              refine y_ineg X0 hx hby d13_70 ?_
              rw [show ((-(2 : Int32))) = (-2 : Int32) from by decide]
              exact retI X0 hx Bd.returns (hb hby d13_71) hr
            · show QP _ h0 n0 _ s₁.heap _
              rw [e0, show f13_5 a1 p4 k1 x0 x1 x2 x3 x4 = (-2 : Int32) from by unfold f13_5; rw [if_neg hc262, if_pos hc274, if_pos hc277, if_neg hc280, if_pos hc282]]
              exact ⟨rfl, N0, rfl⟩
          · obtain ⟨fs, hr, hrun, hended, hW, hsame⟩ := X0.leave (v := some (.int (1 : Int32))) (fun h => by rw [Bd.returns] at h; cases h)
            refine ⟨_, _, pre283 _ ?_, hrun, hended, _, _, rfl, ?_, ⟨_, rfl⟩, hW, hsame.mono (by decide) (by decide)⟩
            · refine y_icmpYes X0 hx hby (pc' := 60) d13_48 (flt hc282).2.2.2 (by decide) (by decide) ?_
              refine y_iload X0 hx hby d13_60 rfl ?_
              exact retI X0 hx Bd.returns (hb hby d13_62) hr
            · show QP _ h0 n0 _ s₁.heap _
              rw [e0, show f13_5 a1 p4 k1 x0 x1 x2 x3 x4 = (1 : Int32) from by unfold f13_5; rw [if_neg hc262, if_pos hc274, if_pos hc277, if_neg hc280, if_neg hc282]]
              exact ⟨rfl, N0, rfl⟩
      · have pre285 : GO p e below (s₁.setTop (mkF m 48 (lo13_5_15 a1 p4 x0) [(.int p4), (.int x0)])) (s₁.setTop (entryFrame m #[(.ref a1), (.int (0 : Int32)), (.int (5 : Int32)), (.int p4)] 8)) := fun t k => by
          refine pre278 _ ?_
          refine y_icmpYes X0 hx hby (pc' := 45) d13_33 (flt hc277).2.1 (by decide) (by decide) ?_
          refine y_iload X0 hx hby d13_45 rfl ?_
          refine y_iloadN X0 hx hby d13_47 rfl ?_
          exact k
        by_cases hc284 : p4 < x0
        · obtain ⟨fs, hr, hrun, hended, hW, hsame⟩ := X0.leave (v := some (.int (-1 : Int32))) (fun h => by rw [Bd.returns] at h; cases h)
          refine ⟨_, _, pre285 _ ?_, hrun, hended, _, _, rfl, ?_, ⟨_, rfl⟩, hW, hsame.mono (by decide) (by decide)⟩
          · refine y_icmpNo X0 hx hby d13_48 (tlt hc284).2.2.2 ?_
            refine y_iload X0 hx hby d13_51 rfl ?_
            refine y_iconst X0 hx hby (v := (1 : Int32)) d13_53 rfl ?_
            refine y_isub X0 hx hby d13_54 ?_
            rw [show ((0 : Int32) - (1 : Int32)) = (-1 : Int32) from by decide]
            refine y_istore X0 hx hby d13_55 (l' := (lo13_5_21 a1 p4 x0)) rfl ?_
            refine y_goto X0 hx hby (pc' := 63) d13_57 (by decide) (by decide) ?_
            refine y_goto X0 hx hby (pc' := 8) d13_63 (by decide) (by decide) ?_
            refine y_iload X0 hx hby d13_8 rfl ?_
            refine y_iload X0 hx hby d13_10 rfl ?_
            refine y_icmpYes X0 hx hby (pc' := 66) d13_12 (tlt (by decide)).2.2.1 (by decide) (by decide) ?_
            refine y_iload X0 hx hby d13_66 rfl ?_
            refine y_iconst X0 hx hby (v := (1 : Int32)) d13_68 rfl ?_
            refine y_iadd X0 hx hby d13_69 ?_
            rw [show ((0 : Int32) + (1 : Int32)) = (1 : Int32) from by decide]
            refine y_ineg X0 hx hby d13_70 ?_
            rw [show ((-(1 : Int32))) = (-1 : Int32) from by decide]
            exact retI X0 hx Bd.returns (hb hby d13_71) hr
          · show QP _ h0 n0 _ s₁.heap _
            rw [e0, show f13_5 a1 p4 k1 x0 x1 x2 x3 x4 = (-1 : Int32) from by unfold f13_5; rw [if_neg hc262, if_pos hc274, if_neg hc277, if_pos hc284]]
            exact ⟨rfl, N0, rfl⟩
        · obtain ⟨fs, hr, hrun, hended, hW, hsame⟩ := X0.leave (v := some (.int (0 : Int32))) (fun h => by rw [Bd.returns] at h; cases h)
          refine ⟨_, _, pre285 _ ?_, hrun, hended, _, _, rfl, ?_, ⟨_, rfl⟩, hW, hsame.mono (by decide) (by decide)⟩
          · refine y_icmpYes X0 hx hby (pc' := 60) d13_48 (flt hc284).2.2.2 (by decide) (by decide) ?_
            refine y_iload X0 hx hby d13_60 rfl ?_
            exact retI X0 hx Bd.returns (hb hby d13_62) hr
          · show QP _ h0 n0 _ s₁.heap _
            rw [e0, show f13_5 a1 p4 k1 x0 x1 x2 x3 x4 = (0 : Int32) from by unfold f13_5; rw [if_neg hc262, if_pos hc274, if_neg hc277, if_neg hc284]]
            exact ⟨rfl, N0, rfl⟩
    · obtain ⟨fs, hr, hrun, hended, hW, hsame⟩ := X0.leave (v := some (.int (2 : Int32))) (fun h => by rw [Bd.returns] at h; cases h)
      refine ⟨_, _, pre275 _ ?_, hrun, hended, _, _, rfl, ?_, ⟨_, rfl⟩, hW, hsame.mono (by decide) (by decide)⟩
      · refine y_icmpYes X0 hx hby (pc' := 60) d13_48 (flt hc274).2.2.2 (by decide) (by decide) ?_
        refine y_iload X0 hx hby d13_60 rfl ?_
        exact retI X0 hx Bd.returns (hb hby d13_62) hr
      · show QP _ h0 n0 _ s₁.heap _
        rw [e0, show f13_5 a1 p4 k1 x0 x1 x2 x3 x4 = (2 : Int32) from by unfold f13_5; rw [if_neg hc262, if_neg hc274]]
        exact ⟨rfl, N0, rfl⟩
abbrev bs_5 (p4 x0 x1 x2 x3 x4 : Int32) : Int32 := f13_5 (0 : Addr) p4 (0 : ClassId) x0 x1 x2 x3 x4
set_option maxRecDepth 65536 in
set_option maxHeartbeats 40000000 in
theorem rm12_5 (l : Launch) (Z : State) (a0 : Array Value) (hw : HW a0 Z) (ws : List Jvm.Cond) (a1 : Addr) (p2 : Int32) (k1 : ClassId) (x0 x1 x2 x3 x4 : Int32) (h0 : Heap) (n0 : Nat) (Z0 : n0 ≤ h0.size) (V_a1 : Arv Z h0 a1 k1 .int (5 : Int32) [(.int x0), (.int x1), (.int x2), (.int x3), (.int x4)] (.int (0 : Int32))) :
    MF l mn10 jdk_65_method_57_code 2 (some .int) ws ({ frames := 1, cells := 0, slots := 0, locals := 19 } : Room) #[(.ref a1), (.int p2)] Z h0 (QP (some (.int (bs_5 p2 x0 x1 x2 x3 x4))) h0 n0) := by
  refine MetFree.of_bodySF (plainFor_of_name pn_5) hisR ?_
  intro p e s m args below meth c s₁ Bd hml0 hP hK
  obtain ⟨rfl, hZ, hh⟩ := hP
  have hx := Bd.exec
  have hby := Bd.bytes
  have hml : c.maxLocals = 2 := hml0
  have hown : s.vm.findClass "java/util/Arrays" = some m.cls := findClass_of_methodNamed Bd.named
  have hnm := (name_of_methodNamed Bd.named Bd.method).1
  have X0 : Stand p l e ({ frames := 1, cells := 0, slots := 0, locals := 19 } : Room) s m #[(.ref a1), (.int p2)] below meth c s₁ [] 0 0 := Stand.of_body Bd
  have e0 : s₁.heap = h0 := by rw [← hh, Bd.state]; rfl
  have N0 := Fr.nil n0
  have pre0 : GO p e below (s₁.setTop (mkF m 0 #[.val (.ref a1), .val (.int p2)] [])) (s₁.setTop (entryFrame m #[(.ref a1), (.int p2)] 2)) := fun t k => castTop (ef_12 m a1 p2) k
  obtain ⟨cl286, Ar286, q286, Sz286, Nn286, Hh286, Gg286⟩ := id V_a1
  obtain ⟨_, _, ⟨T287, L287, k287, n287⟩, -, X287, ⟨Lc287, hQ287, l287, y287, z287⟩, st287⟩ := Jvm.LawKit.callS X0 hx (y := mn9) hown (mvT hZ (ww hw 72 rfl)) (mvT hZ (ww hw 73 rfl)) (mvT hZ (ww hw 32 rfl)) (mvT hZ (ww hw 74 rfl)) (by decide) (backOf (W := 0) (rm13_5 l Z a0 hw [] a1 p2 k1 x0 x1 x2 x3 x4 h0 n0 Z0 V_a1) hZ (ww hw 74 rfl) (ww hw 32 rfl) (by decide) (by decide)) (g := (mkF m 5 #[.val (.ref a1), .val (.int p2)] [(.int p2), (.int (5 : Int32)), (.int (0 : Int32)), (.ref a1)])) rfl (by rw [hml]; rfl) (argsL := [(.ref a1), (.int (0 : Int32)), (.int (5 : Int32)), (.int p2)]) (rest := []) (lenOf pd_3 rfl) rfl (by show 2 * 0 + _ ≤ _; exact Nat.le_of_eq rfl) (hb hby d12_5) (fun _ _ => ⟨rfl, e0, (by decide : 0 + 0 ≤ _), (by decide : 0 + 0 ≤ _)⟩)
  dsimp only [Pt.U, Pt.locs, Pt.cells, Pt.slots] at X287 l287 y287 z287 st287 hQ287
  subst l287 y287 z287
  obtain ⟨rfl, N287q, e287⟩ := hQ287
  have N287 := Fr.app N0 N287q
  obtain ⟨fs, hr, hrun, hended, hW, hsame⟩ := X287.leave (v := some (.int (bs_5 p2 x0 x1 x2 x3 x4))) (fun h => by rw [Bd.returns] at h; cases h)
  refine ⟨_, _, pre0 _ ?_, hrun, hended, _, _, rfl, ?_, ⟨_, rfl⟩, hW, hsame.mono (by decide) (by decide)⟩
  · refine y_aloadN X0 hx hby d12_0 rfl rfl ?_
    refine y_iconst X0 hx hby (v := (0 : Int32)) d12_1 rfl ?_
    refine y_aloadN X0 hx hby d12_2 rfl rfl ?_
    refine X0.arraylength hx (by rw [e0]; exact Ar286.1) (State.isArrayOf_alike hZ.alike Ar286.2.1) (g := (mkF m 3 #[.val (.ref a1), .val (.int p2)] [(.ref a1), (.int (0 : Int32)), (.ref a1)])) rfl rfl (hb hby d12_3) _ ?_
    rw [len_of Sz286 Nn286]
    show Steps p.tables e below (s₁.setTop (mkF m 4 #[.val (.ref a1), .val (.int p2)] [(.int (5 : Int32)), (.int (0 : Int32)), (.ref a1)])) _
    refine y_iloadN X0 hx hby d12_4 rfl ?_
    refine st287 _ ?_
    show Steps p.tables e below (T287.setTop (mkF m 8 #[.val (.ref a1), .val (.int p2)] [(.int (bs_5 p2 x0 x1 x2 x3 x4))])) _
    exact retI X287 hx Bd.returns (hb hby d12_8) hr
  · show QP _ h0 n0 _ T287.heap _
    rw [e287]
    exact ⟨rfl, N287, rfl⟩
set_option maxRecDepth 65536 in
set_option maxHeartbeats 40000000 in
theorem rm11_5 (l : Launch) (Z : State) (a0 : Array Value) (hw : HW a0 Z) (ws : List Jvm.Cond) (a1 : Addr) (p2 : Int32) (aB : Addr) (kB : ClassId) (x0 x1 x2 x3 x4 : Int32) (h0 : Heap) (n0 : Nat) (Z0 : n0 ≤ h0.size) (E_a1 : Exa Z h0 a1 "com/example/hard_delay_bounds/harddelaybounds/analysis/FlowSet") (F_numbers_a1 : Fld Z h0 a1 "com/example/hard_delay_bounds/harddelaybounds/analysis/FlowSet" "numbers" "[I" (.ref aB)) (V_aB : Arv Z h0 aB kB .int (5 : Int32) [(.int x0), (.int x1), (.int x2), (.int x3), (.int x4)] (.int (0 : Int32))) :
    MF l mn11 prog_17_method_4_code 2 (some .int) ws ({ frames := 2, cells := 0, slots := 0, locals := 32 } : Room) #[(.ref a1), (.int p2)] Z h0 (QP (some (.int (bs_5 p2 x0 x1 x2 x3 x4))) h0 n0) := by
  refine MetFree.of_bodySF (plainFor_of_name pn_6) hisR ?_
  intro p e s m args below meth c s₁ Bd hml0 hP hK
  obtain ⟨rfl, hZ, hh⟩ := hP
  have hx := Bd.exec
  have hby := Bd.bytes
  have hml : c.maxLocals = 2 := hml0
  have hown : s.vm.findClass "com/example/hard_delay_bounds/harddelaybounds/analysis/FlowSet" = some m.cls := findClass_of_methodNamed Bd.named
  have hnm := (name_of_methodNamed Bd.named Bd.method).1
  have X0 : Stand p l e ({ frames := 2, cells := 0, slots := 0, locals := 32 } : Room) s m #[(.ref a1), (.int p2)] below meth c s₁ [] 0 0 := Stand.of_body Bd
  have e0 : s₁.heap = h0 := by rw [← hh, Bd.state]; rfl
  have N0 := Fr.nil n0
  have pre0 : GO p e below (s₁.setTop (mkF m 0 #[.val (.ref a1), .val (.int p2)] [])) (s₁.setTop (entryFrame m #[(.ref a1), (.int p2)] 2)) := fun t k => castTop (ef_11 m a1 p2) k
  obtain ⟨T288, X288, e288, st288⟩ := getF X0 hx hZ hown (host := "") (Or.inl (ww hw 43 rfl)) Via.refl e0 F_numbers_a1 (g := (mkF m 1 #[.val (.ref a1), .val (.int p2)] [(.ref a1)])) rfl rfl (hb hby d11_1)
  obtain ⟨_, _, ⟨T289, L289, k289, n289⟩, -, X289, ⟨Lc289, hQ289, l289, y289, z289⟩, st289⟩ := Jvm.LawKit.callS X288 hx (y := mn10) hown (mvT hZ (ww hw 69 rfl)) (mvT hZ (ww hw 70 rfl)) (mvT hZ (ww hw 32 rfl)) (mvT hZ (ww hw 71 rfl)) (by decide) (backOf (W := 0) (rm12_5 l Z a0 hw [] aB p2 kB x0 x1 x2 x3 x4 h0 n0 Z0 V_aB) hZ (ww hw 71 rfl) (ww hw 32 rfl) (by decide) (by decide)) (g := (mkF m 5 #[.val (.ref a1), .val (.int p2)] [(.int p2), (.ref aB)])) rfl (by rw [hml]; rfl) (argsL := [(.ref aB), (.int p2)]) (rest := []) (lenOf pd_4 rfl) rfl (by show 2 * 0 + _ ≤ _; exact Nat.le_of_eq rfl) (hb hby d11_5) (fun _ _ => ⟨rfl, e288, (by decide : 0 + 0 ≤ _), (by decide : 0 + 0 ≤ _)⟩)
  dsimp only [Pt.U, Pt.locs, Pt.cells, Pt.slots] at X289 l289 y289 z289 st289 hQ289
  subst l289 y289 z289
  obtain ⟨rfl, N289q, e289⟩ := hQ289
  have N289 := Fr.app N0 N289q
  obtain ⟨fs, hr, hrun, hended, hW, hsame⟩ := X289.leave (v := some (.int (bs_5 p2 x0 x1 x2 x3 x4))) (fun h => by rw [Bd.returns] at h; cases h)
  refine ⟨_, _, pre0 _ ?_, hrun, hended, _, _, rfl, ?_, ⟨_, rfl⟩, hW, hsame.mono (by decide) (by decide)⟩
  · refine y_aloadN X0 hx hby d11_0 rfl rfl ?_
    refine st288 _ ?_
    show Steps p.tables e below (T288.setTop (mkF m 4 #[.val (.ref a1), .val (.int p2)] [(.ref aB)])) _
    refine y_iloadN X288 hx hby d11_4 rfl ?_
    refine st289 _ ?_
    show Steps p.tables e below (T289.setTop (mkF m 8 #[.val (.ref a1), .val (.int p2)] [(.int (bs_5 p2 x0 x1 x2 x3 x4))])) _
    exact retI X289 hx Bd.returns (hb hby d11_8) hr
  · show QP _ h0 n0 _ T289.heap _
    rw [e289]
    exact ⟨rfl, N289, rfl⟩
def f10_5 (a1 : Addr) (p2 : Int32) (aB : Addr) (kB : ClassId) (x0 x1 x2 x3 x4 : Int32) : Int32 := (if (bs_5 p2 x0 x1 x2 x3 x4) < (0 : Int32) then (0 : Int32) else (1 : Int32))
set_option maxRecDepth 65536 in
set_option maxHeartbeats 40000000 in
theorem rm10_5 (l : Launch) (Z : State) (a0 : Array Value) (hw : HW a0 Z) (ws : List Jvm.Cond) (a1 : Addr) (p2 : Int32) (aB : Addr) (kB : ClassId) (x0 x1 x2 x3 x4 : Int32) (h0 : Heap) (n0 : Nat) (Z0 : n0 ≤ h0.size) (E_a1 : Exa Z h0 a1 "com/example/hard_delay_bounds/harddelaybounds/analysis/FlowSet") (F_numbers_a1 : Fld Z h0 a1 "com/example/hard_delay_bounds/harddelaybounds/analysis/FlowSet" "numbers" "[I" (.ref aB)) (V_aB : Arv Z h0 aB kB .int (5 : Int32) [(.int x0), (.int x1), (.int x2), (.int x3), (.int x4)] (.int (0 : Int32))) :
    MF l mn12 prog_17_method_5_code 2 (some .boolean) ws ({ frames := 3, cells := 0, slots := 0, locals := 45 } : Room) #[(.ref a1), (.int p2)] Z h0 (QP (some (.int (f10_5 a1 p2 aB kB x0 x1 x2 x3 x4))) h0 n0) := by
  refine MetFree.of_bodySF (plainFor_of_name pn_6) hisR ?_
  intro p e s m args below meth c s₁ Bd hml0 hP hK
  obtain ⟨rfl, hZ, hh⟩ := hP
  have hx := Bd.exec
  have hby := Bd.bytes
  have hml : c.maxLocals = 2 := hml0
  have hown : s.vm.findClass "com/example/hard_delay_bounds/harddelaybounds/analysis/FlowSet" = some m.cls := findClass_of_methodNamed Bd.named
  have hnm := (name_of_methodNamed Bd.named Bd.method).1
  have X0 : Stand p l e ({ frames := 3, cells := 0, slots := 0, locals := 45 } : Room) s m #[(.ref a1), (.int p2)] below meth c s₁ [] 0 0 := Stand.of_body Bd
  have e0 : s₁.heap = h0 := by rw [← hh, Bd.state]; rfl
  have N0 := Fr.nil n0
  have pre0 : GO p e below (s₁.setTop (mkF m 0 #[.val (.ref a1), .val (.int p2)] [])) (s₁.setTop (entryFrame m #[(.ref a1), (.int p2)] 2)) := fun t k => castTop (ef_10 m a1 p2) k
  obtain ⟨cq290, kq290, q290a, q290b, q290c⟩ := isOf hZ e0 E_a1
  obtain ⟨_, _, ⟨T290, L290, k290, n290⟩, -, X290, ⟨Lc290, hQ290, l290, y290, z290⟩, st290⟩ := X0.virtualBack hx (y := mn11) (z := mn11) hown (mvT hZ (ww hw 64 rfl)) (mvT hZ (ww hw 65 rfl)) (notFace_of_selects (args := #[]) (mvT hZ (ww hw 67 rfl))) (mvT hZ (ww hw 67 rfl)) (mvT hZ (ww hw 66 rfl)) (by decide) (backOf (W := 0) (rm11_5 l Z a0 hw [] a1 p2 aB kB x0 x1 x2 x3 x4 h0 n0 Z0 E_a1 F_numbers_a1 V_aB) hZ (ww hw 68 rfl) (ww hw 27 rfl) (by decide) (by decide)) q290a q290c (g := (mkF m 2 #[.val (.ref a1), .val (.int p2)] [(.int p2), (.ref a1)])) rfl (by rw [hml]; rfl) (Steps.refl _) (argsL := [(.int p2)]) (rest := []) (lenOf pd_5 rfl) rfl (by show 2 * 0 + _ ≤ _; exact Nat.le_of_eq rfl) (hb hby d10_2) (fun _ _ => ⟨rfl, e0, (by decide : 0 + 0 ≤ _), (by decide : 0 + 0 ≤ _)⟩)
  dsimp only [Pt.U, Pt.locs, Pt.cells, Pt.slots] at X290 l290 y290 z290 st290 hQ290
  subst l290 y290 z290
  obtain ⟨rfl, N290q, e290⟩ := hQ290
  have N290 := Fr.app N0 N290q
  have pre292 : GO p e below (T290.setTop (mkF m 5 #[.val (.ref a1), .val (.int p2)] [(.int (bs_5 p2 x0 x1 x2 x3 x4))])) (s₁.setTop (entryFrame m #[(.ref a1), (.int p2)] 2)) := fun t k => by
    refine pre0 _ ?_
    refine y_aloadN X0 hx hby d10_0 rfl rfl ?_
    refine y_iloadN X0 hx hby d10_1 rfl ?_
    refine st290.trans ?_
    show Steps p.tables e below (T290.setTop (mkF m 5 #[.val (.ref a1), .val (.int p2)] [(.int (bs_5 p2 x0 x1 x2 x3 x4))])) _
    exact k
  by_cases hc291 : (bs_5 p2 x0 x1 x2 x3 x4) < (0 : Int32)
  · obtain ⟨fs, hr, hrun, hended, hW, hsame⟩ := X290.leave (v := some (.int (0 : Int32))) (fun h => by rw [Bd.returns] at h; cases h)
    refine ⟨_, _, pre292 _ ?_, hrun, hended, _, _, rfl, ?_, ⟨_, rfl⟩, hW, hsame.mono (by decide) (by decide)⟩
    · refine y_ifYes X290 hx hby (pc' := 12) d10_5 ((if0 _ _).trans (tlt hc291).1) (by decide) (by decide) ?_
      refine y_iconst X290 hx hby (v := (0 : Int32)) d10_12 rfl ?_
      exact retN X290 hx (t := .boolean) Bd.returns (by simp) (hb hby d10_13) hr
    · show QP _ h0 n0 _ T290.heap _
      rw [e290, show f10_5 a1 p2 aB kB x0 x1 x2 x3 x4 = (0 : Int32) from by unfold f10_5; rw [if_pos hc291]]
      exact ⟨rfl, N290, rfl⟩
  · obtain ⟨fs, hr, hrun, hended, hW, hsame⟩ := X290.leave (v := some (.int (1 : Int32))) (fun h => by rw [Bd.returns] at h; cases h)
    refine ⟨_, _, pre292 _ ?_, hrun, hended, _, _, rfl, ?_, ⟨_, rfl⟩, hW, hsame.mono (by decide) (by decide)⟩
    · refine y_ifNo X290 hx hby d10_5 ((if0 _ _).trans (flt hc291).1) ?_
      refine y_iconst X290 hx hby (v := (1 : Int32)) d10_8 rfl ?_
      refine y_goto X290 hx hby (pc' := 13) d10_9 (by decide) (by decide) ?_
      exact retN X290 hx (t := .boolean) Bd.returns (by simp) (hb hby d10_13) hr
    · show QP _ h0 n0 _ T290.heap _
      rw [e290, show f10_5 a1 p2 aB kB x0 x1 x2 x3 x4 = (1 : Int32) from by unfold f10_5; rw [if_neg hc291]]
      exact ⟨rfl, N290, rfl⟩
abbrev ct_5 (p2 x0 x1 x2 x3 x4 : Int32) : Int32 := f10_5 (0 : Addr) p2 (0 : Addr) (0 : ClassId) x0 x1 x2 x3 x4
def nu_5 (p2 x0 x1 x2 x3 x4 : Int32) : Int32 := if p2 = (0 : Int32) then x0 else if p2 = (1 : Int32) then x1 else if p2 = (2 : Int32) then x2 else if p2 = (3 : Int32) then x3 else x4
theorem own_nuget_5 {p2 x0 x1 x2 x3 x4 : Int32} (hp : p2 = (0 : Int32) ∨ p2 = (1 : Int32) ∨ p2 = (2 : Int32) ∨ p2 = (3 : Int32) ∨ p2 = (4 : Int32)) : ¬ p2 < 0 ∧ p2 < (5 : Int32) ∧ ([(.int x0), (.int x1), (.int x2), (.int x3), (.int x4)] : List Value).getD p2.toNatClampNeg (.int (0 : Int32)) = .int (nu_5 p2 x0 x1 x2 x3 x4) := by
  rcases hp with rfl | rfl | rfl | rfl | rfl <;> exact ⟨by decide, by decide, rfl⟩
set_option maxRecDepth 65536 in
set_option maxHeartbeats 40000000 in
theorem rm5_8_6_6 (l : Launch) (Z : State) (a0 : Array Value) (hw : HW a0 Z) (ws : List Jvm.Cond) (a1 : Addr) (k1 : ClassId) (x0 x1 x2 x3 x4 x5 : Int32) (h0 : Heap) (n0 : Nat) (Z0 : n0 ≤ h0.size) (E_a1 : Exa Z h0 a1 "[I") (V_a1 : Arv Z h0 a1 k1 .int (8 : Int32) [(.int x0), (.int x1), (.int x2), (.int x3), (.int x4), (.int x5), (.int (0 : Int32)), (.int (0 : Int32))] (.int (0 : Int32))) :
    MF l mn5 jdk_65_method_123_code 3 (some (.array .int)) ws ({ frames := 1, cells := 1, slots := 6, locals := 18 } : Room) #[(.ref a1), (.int (6 : Int32))] Z h0 (QC Z (6 : Int32) [(.int x0), (.int x1), (.int x2), (.int x3), (.int x4), (.int x5)] h0 n0) := by
  refine MetFree.of_bodySF (plainFor_of_name pn_5) hisR ?_
  intro p e s m args below meth c s₁ Bd hml0 hP hK
  obtain ⟨rfl, hZ, hh⟩ := hP
  have hx := Bd.exec
  have hby := Bd.bytes
  have hml : c.maxLocals = 3 := hml0
  have hown : s.vm.findClass "java/util/Arrays" = some m.cls := findClass_of_methodNamed Bd.named
  have hnm := (name_of_methodNamed Bd.named Bd.method).1
  have X0 : Stand p l e ({ frames := 1, cells := 1, slots := 6, locals := 18 } : Room) s m #[(.ref a1), (.int (6 : Int32))] below meth c s₁ [] 0 0 := Stand.of_body Bd
  have e0 : s₁.heap = h0 := by rw [← hh, Bd.state]; rfl
  have N0 := Fr.nil n0
  have pre0 : GO p e below (s₁.setTop (mkF m 0 #[.val (.ref a1), .val (.int (6 : Int32)), .unset] [])) (s₁.setTop (entryFrame m #[(.ref a1), (.int (6 : Int32))] 3)) := fun t k => castTop (ef_5 m a1 (6 : Int32)) k
  have KK := Keep.refl h0 []
  obtain ⟨cl293, Ar293, q293, Sz293, Nn293, Hh293, Gg293⟩ := id V_a1
  obtain ⟨T294, h294, k294, X294, e294, E294, A294, Ex294, st294⟩ := newPE X0 hx hZ (ww hw 17 rfl) e0 (g := (mkF m 15 #[.val (.ref a1), .val (.int (6 : Int32)), .unset] [(.int (6 : Int32))])) rfl (hb hby d5_15) rfl (by decide) (cap := 6) (by decide) (by decide) (by decide) (by decide) (ad := "[I") (by first | rfl | decide)
  obtain ⟨b294, g294⟩ : ∃ z, z = h0.size := ⟨_, rfl⟩
  rw [← g294] at A294 Ex294 st294
  have g_b294 : n0 ≤ b294 := Nat.le_trans Z0 (Nat.le_of_eq g294.symm)
  have sz_b294 : h0.size ≤ b294 := Nat.le_trans KK.1 (Nat.le_of_eq g294.symm)
  have ne_a1_b294 : a1 ≠ b294 := Nat.ne_of_lt (Nat.lt_of_lt_of_le E_a1.lt (Nat.le_of_eq g294.symm))
  replace E_a1 := E_a1.ext E294
  replace V_a1 := V_a1.ext E294
  replace Z0 := Nat.le_trans Z0 E294.1
  replace KK := KK.ext E294
  have V_b294 : Arv Z h294 b294 k294 .int (6 : Int32) [(.int (0 : Int32)), (.int (0 : Int32)), (.int (0 : Int32)), (.int (0 : Int32)), (.int (0 : Int32)), (.int (0 : Int32))] (.int (0 : Int32)) := (Arv.new A294 (by decide)).pad (pad_rep [] (.int (0 : Int32)) 6)
  have E_b294 : Exa Z h294 b294 "[I" := Ex294
  obtain ⟨cl295, Ar295, q295, Sz295, Nn295, Hh295, Gg295⟩ := id V_a1
  obtain ⟨_, _, ⟨T296, L296, k296, n296⟩, -, X296, ⟨Lc296, hQ296, l296, y296, z296⟩, st296⟩ := Jvm.LawKit.callS X294 hx (y := mn0) hown (mvT hZ (ww hw 34 rfl)) (mvT hZ (ww hw 5 rfl)) (mvT hZ (ww hw 6 rfl)) (mvT hZ (ww hw 7 rfl)) (by decide) (backOf (W := 4) (rm1 l Z a0 hw [] (8 : Int32) (6 : Int32) h294 n0 Z0) hZ (ww hw 7 rfl) (ww hw 6 rfl) (by decide) (by decide)) (g := (mkF m 25 #[.val (.ref a1), .val (.int (6 : Int32)), .val (.ref b294)] [(.int (6 : Int32)), (.int (8 : Int32)), (.int (0 : Int32)), (.ref b294), (.int (0 : Int32)), (.ref a1)])) rfl (by rw [hml]; rfl) (argsL := [(.int (8 : Int32)), (.int (6 : Int32))]) (rest := [(.int (0 : Int32)), (.ref b294), (.int (0 : Int32)), (.ref a1)]) (lenOf pd_0 rfl) rfl (by show 2 * 0 + _ ≤ _; exact Nat.le_of_eq rfl) (hb hby d5_25) (fun _ _ => ⟨rfl, e294, (by decide : 1 + 0 ≤ _), (by decide : 6 + 0 ≤ _)⟩)
  dsimp only [Pt.U, Pt.locs, Pt.cells, Pt.slots] at X296 l296 y296 z296 st296 hQ296
  subst l296 y296 z296
  obtain ⟨rfl, N296q, e296⟩ := hQ296
  rw [show f1 (8 : Int32) (6 : Int32) = (6 : Int32) from by decide] at st296
  have N296 := Fr.app N0 N296q
  obtain ⟨T297, h297, L297, X297, e297, N297, K297, Vn297, st297⟩ := cpA X296 hx hZ hown (ww hw 35 rfl) (ww hw 38 rfl) (ww hw 36 rfl) (ww hw 37 rfl) e296 (us := [(.int x0), (.int x1), (.int x2), (.int x3), (.int x4), (.int x5)]) V_a1 V_b294 (Or.inl ⟨rfl, rfl⟩) (by decide) (by decide) (by decide) (by decide) (by decide) rfl (by decide) N296 g_b294 (g := (mkF m 28 #[.val (.ref a1), .val (.int (6 : Int32)), .val (.ref b294)] [(.int (6 : Int32)), (.int (0 : Int32)), (.ref b294), (.int (0 : Int32)), (.ref a1)])) rfl (by rw [hml]; rfl) rfl (hb hby d5_28) (by decide) (W := 0) (by show 2 * 0 + _ ≤ _; exact Nat.le_of_eq rfl) (by decide)
  replace E_a1 := E_a1.keep K297
  replace V_a1 := V_a1.keep K297 (ninS ne_a1_b294 nin0)
  replace E_b294 := E_b294.keep K297
  replace Z0 := Nat.le_trans Z0 K297.1
  replace KK := KK.trans K297 (allS (Or.inr sz_b294) all0)
  have V_b294 : Arv Z h297 b294 k294 .int (6 : Int32) [(.int x0), (.int x1), (.int x2), (.int x3), (.int x4), (.int x5)] (.int (0 : Int32)) := Vn297
  obtain ⟨fs, hr, hrun, hended, hW, hsame⟩ := X297.leave (v := some (.ref b294)) (fun h => by rw [Bd.returns] at h; cases h)
  refine ⟨_, _, pre0 _ ?_, hrun, hended, _, _, rfl, ?_, ⟨_, rfl⟩, hW, hsame.mono (by decide) (by decide)⟩
  · refine y_iloadN X0 hx hby d5_0 rfl ?_
    refine y_aloadN X0 hx hby d5_1 rfl rfl ?_
    refine X0.arraylength hx (by rw [e0]; exact Ar293.1) (State.isArrayOf_alike hZ.alike Ar293.2.1) (g := (mkF m 2 #[.val (.ref a1), .val (.int (6 : Int32)), .unset] [(.ref a1), (.int (6 : Int32))])) rfl rfl (hb hby d5_2) _ ?_
    rw [len_of Sz293 Nn293]
    show Steps p.tables e below (s₁.setTop (mkF m 3 #[.val (.ref a1), .val (.int (6 : Int32)), .unset] [(.int (8 : Int32)), (.int (6 : Int32))])) _
    refine y_icmpYes X0 hx hby (pc' := 14) d5_3 (feq (by decide)).2 (by decide) (by decide) ?_
    refine y_iloadN X0 hx hby d5_14 rfl ?_
    refine st294 _ ?_
    show Steps p.tables e below (T294.setTop (mkF m 17 #[.val (.ref a1), .val (.int (6 : Int32)), .unset] [(.ref b294)])) _
    refine y_astoreN X294 hx hby d5_17 rfl (l' := #[.val (.ref a1), .val (.int (6 : Int32)), .val (.ref b294)]) rfl ?_
    refine y_aloadN X294 hx hby d5_18 rfl rfl ?_
    refine y_iconst X294 hx hby (v := (0 : Int32)) d5_19 rfl ?_
    refine y_aloadN X294 hx hby d5_20 rfl rfl ?_
    refine y_iconst X294 hx hby (v := (0 : Int32)) d5_21 rfl ?_
    refine y_aloadN X294 hx hby d5_22 rfl rfl ?_
    refine X294.arraylength hx (by rw [e294]; exact Ar295.1) (State.isArrayOf_alike hZ.alike Ar295.2.1) (g := (mkF m 23 #[.val (.ref a1), .val (.int (6 : Int32)), .val (.ref b294)] [(.ref a1), (.int (0 : Int32)), (.ref b294), (.int (0 : Int32)), (.ref a1)])) rfl rfl (hb hby d5_23) _ ?_
    rw [len_of Sz295 Nn295]
    show Steps p.tables e below (T294.setTop (mkF m 24 #[.val (.ref a1), .val (.int (6 : Int32)), .val (.ref b294)] [(.int (8 : Int32)), (.int (0 : Int32)), (.ref b294), (.int (0 : Int32)), (.ref a1)])) _
    refine y_iloadN X294 hx hby d5_24 rfl ?_
    refine st296 _ ?_
    show Steps p.tables e below (T296.setTop (mkF m 28 #[.val (.ref a1), .val (.int (6 : Int32)), .val (.ref b294)] [(.int (6 : Int32)), (.int (0 : Int32)), (.ref b294), (.int (0 : Int32)), (.ref a1)])) _
    refine st297 _ ?_
    show Steps p.tables e below (T297.setTop (mkF m 31 #[.val (.ref a1), .val (.int (6 : Int32)), .val (.ref b294)] [])) _
    refine y_aloadN X297 hx hby d5_31 rfl rfl ?_
    show Steps p.tables e below (T297.setTop (mkF m 32 #[.val (.ref a1), .val (.int (6 : Int32)), .val (.ref b294)] [(.ref b294)])) _
    jvm_step X297.here [X297.here.top, hx, (hb hby d5_32), X297.method', Bd.returns, Value.isRef, FieldType.isReference]
    first | (intro acts; rw [hr _ acts rfl rfl rfl]) | rw [hr _ _ rfl rfl rfl]
    exact Steps.refl _
  · show QC Z (6 : Int32) [(.int x0), (.int x1), (.int x2), (.int x3), (.int x4), (.int x5)] h0 n0 _ T297.heap _
    rw [e297]
    exact ⟨b294, _, rfl, N297, KK, sz_b294, V_b294, E_b294⟩
set_option maxRecDepth 65536 in
set_option maxHeartbeats 40000000 in
theorem rm4_6 (l : Launch) (Z : State) (a0 : Array Value) (hw : HW a0 Z) (ws : List Jvm.Cond) (a1 aA : Addr) (kA : ClassId) (x0 x1 x2 x3 x4 x5 : Int32) (h0 : Heap) (n0 : Nat) (Z0 : n0 ≤ h0.size) (E_a1 : Exa Z h0 a1 "com/example/hard_delay_bounds/harddelaybounds/analysis/FlowSet$Builder") (F_numbers_a1 : Fld Z h0 a1 "com/example/hard_delay_bounds/harddelaybounds/analysis/FlowSet$Builder" "numbers" "[I" (.ref aA)) (F_size_a1 : Fld Z h0 a1 "com/example/hard_delay_bounds/harddelaybounds/analysis/FlowSet$Builder" "size" "I" (.int (6 : Int32))) (E_aA : Exa Z h0 aA "[I") (V_aA : Arv Z h0 aA kA .int (8 : Int32) [(.int x0), (.int x1), (.int x2), (.int x3), (.int x4), (.int x5), (.int (0 : Int32)), (.int (0 : Int32))] (.int (0 : Int32))) (ne_a1_aA : a1 ≠ aA) :
    MF l mn7 prog_18_method_3_code 1 (some (.object "com/example/hard_delay_bounds/harddelaybounds/analysis/FlowSet")) ws ({ frames := 2, cells := 2, slots := 8, locals := 34 } : Room) #[(.ref a1)] Z h0 (QS Z (6 : Int32) [(.int x0), (.int x1), (.int x2), (.int x3), (.int x4), (.int x5)] h0 n0) := by
  refine MetFree.of_bodySF (plainFor_of_name pn_2) hisR ?_
  intro p e s m args below meth c s₁ Bd hml0 hP hK
  obtain ⟨rfl, hZ, hh⟩ := hP
  have hx := Bd.exec
  have hby := Bd.bytes
  have hml : c.maxLocals = 1 := hml0
  have hown : s.vm.findClass "com/example/hard_delay_bounds/harddelaybounds/analysis/FlowSet$Builder" = some m.cls := findClass_of_methodNamed Bd.named
  have hnm := (name_of_methodNamed Bd.named Bd.method).1
  have X0 : Stand p l e ({ frames := 2, cells := 2, slots := 8, locals := 34 } : Room) s m #[(.ref a1)] below meth c s₁ [] 0 0 := Stand.of_body Bd
  have e0 : s₁.heap = h0 := by rw [← hh, Bd.state]; rfl
  have N0 := Fr.nil n0
  have pre0 : GO p e below (s₁.setTop (mkF m 0 #[.val (.ref a1)] [])) (s₁.setTop (entryFrame m #[(.ref a1)] 1)) := fun t k => castTop (ef_4 m a1) k
  have KK := Keep.refl h0 []
  obtain ⟨T298, h298, X298, e298, E298, A298, D298, -, st298⟩ := newO X0 hx hZ hown (ww hw 25 rfl) (ww hw 26 rfl) (ww hw 27 rfl) e0 (g := (mkF m 0 #[.val (.ref a1)] [])) rfl (hb hby d4_0) (by decide) (by decide)
  obtain ⟨b298, g298⟩ : ∃ z, z = h0.size := ⟨_, rfl⟩
  rw [← g298] at A298 D298 st298
  have g_b298 : n0 ≤ b298 := Nat.le_trans Z0 (Nat.le_of_eq g298.symm)
  have sz_b298 : h0.size ≤ b298 := Nat.le_trans KK.1 (Nat.le_of_eq g298.symm)
  have ne_a1_b298 : a1 ≠ b298 := Nat.ne_of_lt (Nat.lt_of_lt_of_le E_a1.lt (Nat.le_of_eq g298.symm))
  have ne_aA_b298 : aA ≠ b298 := Nat.ne_of_lt (Nat.lt_of_lt_of_le E_aA.lt (Nat.le_of_eq g298.symm))
  replace E_a1 := E_a1.ext E298
  replace F_numbers_a1 := F_numbers_a1.ext E298
  replace F_size_a1 := F_size_a1.ext E298
  replace E_aA := E_aA.ext E298
  replace V_aA := V_aA.ext E298
  replace Z0 := Nat.le_trans Z0 E298.1
  replace KK := KK.ext E298
  have E_b298 := A298
  have F_numbers_b298 : Fld Z h298 b298 "com/example/hard_delay_bounds/harddelaybounds/analysis/FlowSet" "numbers" "[I" .null := D298 (Or.inr (ww hw 44 rfl)) (ty := (.array .int)) (by decide)
  have F_hash_b298 : Fld Z h298 b298 "com/example/hard_delay_bounds/harddelaybounds/analysis/FlowSet" "hash" "I" (.int (0 : Int32)) := D298 (Or.inr (ww hw 46 rfl)) (ty := .int) (by decide)
  obtain ⟨T299, X299, e299, st299⟩ := getF X298 hx hZ hown (host := "") (Or.inl (ww hw 18 rfl)) Via.refl e298 F_numbers_a1 (g := (mkF m 5 #[.val (.ref a1)] [(.ref a1), (.ref b298), (.ref b298)])) rfl rfl (hb hby d4_5)
  obtain ⟨T300, X300, e300, st300⟩ := getF X299 hx hZ hown (host := "") (Or.inl (ww hw 28 rfl)) Via.refl e299 F_size_a1 (g := (mkF m 9 #[.val (.ref a1)] [(.ref a1), (.ref aA), (.ref b298), (.ref b298)])) rfl rfl (hb hby d4_9)
  obtain ⟨_, _, ⟨T301, L301, k301, n301⟩, -, X301, ⟨Lc301, hQ301, l301, y301, z301⟩, st301⟩ := Jvm.LawKit.callS X300 hx (y := mn5) hown (mvT hZ (ww hw 30 rfl)) (mvT hZ (ww hw 31 rfl)) (mvT hZ (ww hw 32 rfl)) (mvT hZ (ww hw 33 rfl)) (by decide) (backOf (W := 2) (rm5_8_6_6 l Z a0 hw [] aA kA x0 x1 x2 x3 x4 x5 h298 n0 Z0 E_aA V_aA) hZ (ww hw 33 rfl) (ww hw 32 rfl) (by decide) (by decide)) (g := (mkF m 12 #[.val (.ref a1)] [(.int (6 : Int32)), (.ref aA), (.ref b298), (.ref b298)])) rfl (by rw [hml]; rfl) (argsL := [(.ref aA), (.int (6 : Int32))]) (rest := [(.ref b298), (.ref b298)]) (lenOf pd_1 rfl) rfl (by show 2 * 0 + _ ≤ _; exact Nat.le_of_eq rfl) (hb hby d4_12) (fun _ _ => ⟨rfl, e300, (by decide : 1 + 1 ≤ _), (by decide : 2 + 6 ≤ _)⟩)
  dsimp only [Pt.U, Pt.locs, Pt.cells, Pt.slots] at X301 l301 y301 z301 st301 hQ301
  subst l301 y301 z301
  obtain ⟨h301, e301⟩ : ∃ z, T301.heap = z := ⟨_, rfl⟩
  rw [e301] at hQ301
  obtain ⟨b301, k301, rfl, N301q, K301, s301, Vn301, En301⟩ := hQ301
  have g_b301 : n0 ≤ b301 := Nat.le_trans Z0 s301
  have sz_b301 : h0.size ≤ b301 := Nat.le_trans KK.1 s301
  have ne_a1_b301 : a1 ≠ b301 := Nat.ne_of_lt (Nat.lt_of_lt_of_le E_a1.lt s301)
  have ne_aA_b301 : aA ≠ b301 := Nat.ne_of_lt (Nat.lt_of_lt_of_le E_aA.lt s301)
  have ne_b298_b301 : b298 ≠ b301 := Nat.ne_of_lt (Nat.lt_of_lt_of_le E_b298.lt s301)
  replace E_a1 := E_a1.keep K301
  replace F_numbers_a1 := F_numbers_a1.keep K301 nin0
  replace F_size_a1 := F_size_a1.keep K301 nin0
  replace E_aA := E_aA.keep K301
  replace V_aA := V_aA.keep K301 nin0
  replace E_b298 := E_b298.keep K301
  replace F_numbers_b298 := F_numbers_b298.keep K301 nin0
  replace F_hash_b298 := F_hash_b298.keep K301 nin0
  replace Z0 := Nat.le_trans Z0 K301.1
  replace KK := KK.trans K301 all0
  have V_b301 : Arv Z h301 b301 k301 .int (6 : Int32) [(.int x0), (.int x1), (.int x2), (.int x3), (.int x4), (.int x5)] (.int (0 : Int32)) := Vn301
  have E_b301 := En301
  have N301 := Fr.app N0 N301q
  obtain ⟨_, _, ⟨T302, L302, k302, n302⟩, -, X302, ⟨Lc302, hQ302, l302, y302, z302⟩, st302⟩ := X301.specialBackNest hx (y := mn6) rfl hown (own_mvMN hZ (ww hw 39 rfl)) (mvT hZ (ww hw 40 rfl)) (mvT hZ (ww hw 41 rfl)) (by decide) (backOf (W := 1) (rm6 l Z a0 hw [] b298 b301 k301 _ _ h301 n0 Z0 E_b298 F_numbers_b298 F_hash_b298 V_b301 g_b298 ne_b298_b301) hZ (ww hw 41 rfl) (ww hw 27 rfl) (by decide) (by decide)) (g := (mkF m 15 #[.val (.ref a1)] [(.ref b301), (.ref b298), (.ref b298)])) rfl (by rw [hml]; rfl) (Steps.refl _) (a := b298) (argsL := [(.ref b301)]) (rest := [(.ref b298)]) (lenOf pd_2 rfl) rfl (by show 2 * 0 + _ ≤ _; exact Nat.le_of_eq rfl) (hb hby d4_15) (fun _ _ => ⟨rfl, e301, (by decide : 2 + 0 ≤ _), (by decide : 8 + 0 ≤ _)⟩)
  dsimp only [Pt.U, Pt.locs, Pt.cells, Pt.slots] at X302 l302 y302 z302 st302 hQ302
  subst l302 y302 z302
  obtain ⟨h302, e302⟩ : ∃ z, T302.heap = z := ⟨_, rfl⟩
  rw [e302] at hQ302
  obtain ⟨rfl, N302q, K302, Fn302⟩ := hQ302
  replace E_a1 := E_a1.keep K302
  replace F_numbers_a1 := F_numbers_a1.keep K302 (ninS ne_a1_b298 nin0)
  replace F_size_a1 := F_size_a1.keep K302 (ninS ne_a1_b298 nin0)
  replace E_aA := E_aA.keep K302
  replace V_aA := V_aA.keep K302 (ninS ne_aA_b298 nin0)
  replace E_b298 := E_b298.keep K302
  replace V_b301 := V_b301.keep K302 (ninS (Ne.symm ne_b298_b301) nin0)
  replace E_b301 := E_b301.keep K302
  replace Z0 := Nat.le_trans Z0 K302.1
  replace KK := KK.trans K302 (allS (Or.inr sz_b298) all0)
  have F_numbers_b298 := Fn302
  have N302 := Fr.app N301 N302q
  obtain ⟨fs, hr, hrun, hended, hW, hsame⟩ := X302.leave (v := some (.ref b298)) (fun h => by rw [Bd.returns] at h; cases h)
  refine ⟨_, _, pre0 _ ?_, hrun, hended, _, _, rfl, ?_, ⟨_, rfl⟩, hW, hsame.mono (by decide) (by decide)⟩
  · refine st298 _ ?_
    show Steps p.tables e below (T298.setTop (mkF m 3 #[.val (.ref a1)] [(.ref b298)])) _
    refine y_dup X298 hx hby d4_3 rfl ?_
    refine y_aloadN X298 hx hby d4_4 rfl rfl ?_
    refine st299 _ ?_
    show Steps p.tables e below (T299.setTop (mkF m 8 #[.val (.ref a1)] [(.ref aA), (.ref b298), (.ref b298)])) _
    refine y_aloadN X299 hx hby d4_8 rfl rfl ?_
    refine st300 _ ?_
    show Steps p.tables e below (T300.setTop (mkF m 12 #[.val (.ref a1)] [(.int (6 : Int32)), (.ref aA), (.ref b298), (.ref b298)])) _
    refine st301 _ ?_
    show Steps p.tables e below (T301.setTop (mkF m 15 #[.val (.ref a1)] [(.ref b301), (.ref b298), (.ref b298)])) _
    refine st302.trans ?_
    show Steps p.tables e below (T302.setTop (mkF m 18 #[.val (.ref a1)] [(.ref b298)])) _
    jvm_step X302.here [X302.here.top, hx, (hb hby d4_18), X302.method', Bd.returns, Value.isRef, FieldType.isReference]
    first | (intro acts; rw [hr _ acts rfl rfl rfl]) | rw [hr _ _ rfl rfl rfl]
    exact Steps.refl _
  · show QS Z (6 : Int32) [(.int x0), (.int x1), (.int x2), (.int x3), (.int x4), (.int x5)] h0 n0 _ T302.heap _
    rw [e302]
    exact ⟨b298, b301, _, rfl, N302, KK, sz_b298, sz_b301, E_b298, F_numbers_b298, V_b301⟩
set_option maxRecDepth 65536 in
set_option maxHeartbeats 40000000 in
theorem rm7_6 (l : Launch) (Z : State) (a0 : Array Value) (hw : HW a0 Z) (ws : List Jvm.Cond) (a1 aB : Addr) (kB : ClassId) (x0 x1 x2 x3 x4 x5 : Int32) (h0 : Heap) (n0 : Nat) (Z0 : n0 ≤ h0.size) (F_numbers_a1 : Fld Z h0 a1 "com/example/hard_delay_bounds/harddelaybounds/analysis/FlowSet" "numbers" "[I" (.ref aB)) (V_aB : Arv Z h0 aB kB .int (6 : Int32) [(.int x0), (.int x1), (.int x2), (.int x3), (.int x4), (.int x5)] (.int (0 : Int32))) :
    MF l mn8 prog_17_method_2_code 1 (some .int) ws ({ frames := 0, cells := 0, slots := 0, locals := 0 } : Room) #[(.ref a1)] Z h0 (QP (some (.int (6 : Int32))) h0 n0) := by
  refine MetFree.of_bodySF (plainFor_of_name pn_6) hisR ?_
  intro p e s m args below meth c s₁ Bd hml0 hP hK
  obtain ⟨rfl, hZ, hh⟩ := hP
  have hx := Bd.exec
  have hby := Bd.bytes
  have hml : c.maxLocals = 1 := hml0
  have hown : s.vm.findClass "com/example/hard_delay_bounds/harddelaybounds/analysis/FlowSet" = some m.cls := findClass_of_methodNamed Bd.named
  have hnm := (name_of_methodNamed Bd.named Bd.method).1
  have X0 : Stand p l e ({ frames := 0, cells := 0, slots := 0, locals := 0 } : Room) s m #[(.ref a1)] below meth c s₁ [] 0 0 := Stand.of_body Bd
  have e0 : s₁.heap = h0 := by rw [← hh, Bd.state]; rfl
  have N0 := Fr.nil n0
  have pre0 : GO p e below (s₁.setTop (mkF m 0 #[.val (.ref a1)] [])) (s₁.setTop (entryFrame m #[(.ref a1)] 1)) := fun t k => castTop (ef_7 m a1) k
  obtain ⟨T303, X303, e303, st303⟩ := getF X0 hx hZ hown (host := "") (Or.inl (ww hw 43 rfl)) Via.refl e0 F_numbers_a1 (g := (mkF m 1 #[.val (.ref a1)] [(.ref a1)])) rfl rfl (hb hby d7_1)
  obtain ⟨cl304, Ar304, q304, Sz304, Nn304, Hh304, Gg304⟩ := id V_aB
  obtain ⟨fs, hr, hrun, hended, hW, hsame⟩ := X303.leave (v := some (.int (6 : Int32))) (fun h => by rw [Bd.returns] at h; cases h)
  refine ⟨_, _, pre0 _ ?_, hrun, hended, _, _, rfl, ?_, ⟨_, rfl⟩, hW, hsame.mono (by decide) (by decide)⟩
  · refine y_aloadN X0 hx hby d7_0 rfl rfl ?_
    refine st303 _ ?_
    show Steps p.tables e below (T303.setTop (mkF m 4 #[.val (.ref a1)] [(.ref aB)])) _
    refine X303.arraylength hx (by rw [e303]; exact Ar304.1) (State.isArrayOf_alike hZ.alike Ar304.2.1) (g := (mkF m 4 #[.val (.ref a1)] [(.ref aB)])) rfl rfl (hb hby d7_4) _ ?_
    rw [len_of Sz304 Nn304]
    show Steps p.tables e below (T303.setTop (mkF m 5 #[.val (.ref a1)] [(.int (6 : Int32))])) _
    exact retI X303 hx Bd.returns (hb hby d7_5) hr
  · show QP _ h0 n0 _ T303.heap _
    rw [e303]
    exact ⟨rfl, N0, rfl⟩
abbrev lo13_6_0 (a1 : Addr) (p4 : Int32) : Array Slot := #[.val (.ref a1), .val (.int (0 : Int32)), .val (.int (6 : Int32)), .val (.int p4), .val (.int (0 : Int32)), .unset, .unset, .unset]
abbrev lo13_6_1 (a1 : Addr) (p4 : Int32) : Array Slot := #[.val (.ref a1), .val (.int (0 : Int32)), .val (.int (6 : Int32)), .val (.int p4), .val (.int (0 : Int32)), .val (.int (5 : Int32)), .unset, .unset]
abbrev lo13_6_2 (a1 : Addr) (p4 : Int32) : Array Slot := #[.val (.ref a1), .val (.int (0 : Int32)), .val (.int (6 : Int32)), .val (.int p4), .val (.int (0 : Int32)), .val (.int (5 : Int32)), .val (.int (2 : Int32)), .unset]
abbrev lo13_6_3 (a1 : Addr) (p4 x2 : Int32) : Array Slot := #[.val (.ref a1), .val (.int (0 : Int32)), .val (.int (6 : Int32)), .val (.int p4), .val (.int (0 : Int32)), .val (.int (5 : Int32)), .val (.int (2 : Int32)), .val (.int x2)]
abbrev lo13_6_4 (a1 : Addr) (p4 x2 : Int32) : Array Slot := #[.val (.ref a1), .val (.int (0 : Int32)), .val (.int (6 : Int32)), .val (.int p4), .val (.int (3 : Int32)), .val (.int (5 : Int32)), .val (.int (2 : Int32)), .val (.int x2)]
abbrev lo13_6_5 (a1 : Addr) (p4 x2 : Int32) : Array Slot := #[.val (.ref a1), .val (.int (0 : Int32)), .val (.int (6 : Int32)), .val (.int p4), .val (.int (3 : Int32)), .val (.int (5 : Int32)), .val (.int (4 : Int32)), .val (.int x2)]
abbrev lo13_6_6 (a1 : Addr) (p4 x4 : Int32) : Array Slot := #[.val (.ref a1), .val (.int (0 : Int32)), .val (.int (6 : Int32)), .val (.int p4), .val (.int (3 : Int32)), .val (.int (5 : Int32)), .val (.int (4 : Int32)), .val (.int x4)]
abbrev lo13_6_7 (a1 : Addr) (p4 x4 : Int32) : Array Slot := #[.val (.ref a1), .val (.int (0 : Int32)), .val (.int (6 : Int32)), .val (.int p4), .val (.int (5 : Int32)), .val (.int (5 : Int32)), .val (.int (4 : Int32)), .val (.int x4)]
abbrev lo13_6_8 (a1 : Addr) (p4 x4 : Int32) : Array Slot := #[.val (.ref a1), .val (.int (0 : Int32)), .val (.int (6 : Int32)), .val (.int p4), .val (.int (5 : Int32)), .val (.int (5 : Int32)), .val (.int (5 : Int32)), .val (.int x4)]
abbrev lo13_6_9 (a1 : Addr) (p4 x5 : Int32) : Array Slot := #[.val (.ref a1), .val (.int (0 : Int32)), .val (.int (6 : Int32)), .val (.int p4), .val (.int (5 : Int32)), .val (.int (5 : Int32)), .val (.int (5 : Int32)), .val (.int x5)]
abbrev lo13_6_10 (a1 : Addr) (p4 x5 : Int32) : Array Slot := #[.val (.ref a1), .val (.int (0 : Int32)), .val (.int (6 : Int32)), .val (.int p4), .val (.int (6 : Int32)), .val (.int (5 : Int32)), .val (.int (5 : Int32)), .val (.int x5)]
abbrev lo13_6_11 (a1 : Addr) (p4 x5 : Int32) : Array Slot := #[.val (.ref a1), .val (.int (0 : Int32)), .val (.int (6 : Int32)), .val (.int p4), .val (.int (5 : Int32)), .val (.int (4 : Int32)), .val (.int (5 : Int32)), .val (.int x5)]
abbrev lo13_6_12 (a1 : Addr) (p4 x4 : Int32) : Array Slot := #[.val (.ref a1), .val (.int (0 : Int32)), .val (.int (6 : Int32)), .val (.int p4), .val (.int (3 : Int32)), .val (.int (3 : Int32)), .val (.int (4 : Int32)), .val (.int x4)]
abbrev lo13_6_13 (a1 : Addr) (p4 x4 : Int32) : Array Slot := #[.val (.ref a1), .val (.int (0 : Int32)), .val (.int (6 : Int32)), .val (.int p4), .val (.int (3 : Int32)), .val (.int (3 : Int32)), .val (.int (3 : Int32)), .val (.int x4)]
abbrev lo13_6_14 (a1 : Addr) (p4 x3 : Int32) : Array Slot := #[.val (.ref a1), .val (.int (0 : Int32)), .val (.int (6 : Int32)), .val (.int p4), .val (.int (3 : Int32)), .val (.int (3 : Int32)), .val (.int (3 : Int32)), .val (.int x3)]
abbrev lo13_6_15 (a1 : Addr) (p4 x3 : Int32) : Array Slot := #[.val (.ref a1), .val (.int (0 : Int32)), .val (.int (6 : Int32)), .val (.int p4), .val (.int (4 : Int32)), .val (.int (3 : Int32)), .val (.int (3 : Int32)), .val (.int x3)]
abbrev lo13_6_16 (a1 : Addr) (p4 x3 : Int32) : Array Slot := #[.val (.ref a1), .val (.int (0 : Int32)), .val (.int (6 : Int32)), .val (.int p4), .val (.int (3 : Int32)), .val (.int (2 : Int32)), .val (.int (3 : Int32)), .val (.int x3)]
abbrev lo13_6_17 (a1 : Addr) (p4 x2 : Int32) : Array Slot := #[.val (.ref a1), .val (.int (0 : Int32)), .val (.int (6 : Int32)), .val (.int p4), .val (.int (0 : Int32)), .val (.int (1 : Int32)), .val (.int (2 : Int32)), .val (.int x2)]
abbrev lo13_6_18 (a1 : Addr) (p4 x2 : Int32) : Array Slot := #[.val (.ref a1), .val (.int (0 : Int32)), .val (.int (6 : Int32)), .val (.int p4), .val (.int (0 : Int32)), .val (.int (1 : Int32)), .val (.int (0 : Int32)), .val (.int x2)]
abbrev lo13_6_19 (a1 : Addr) (p4 x0 : Int32) : Array Slot := #[.val (.ref a1), .val (.int (0 : Int32)), .val (.int (6 : Int32)), .val (.int p4), .val (.int (0 : Int32)), .val (.int (1 : Int32)), .val (.int (0 : Int32)), .val (.int x0)]
abbrev lo13_6_20 (a1 : Addr) (p4 x0 : Int32) : Array Slot := #[.val (.ref a1), .val (.int (0 : Int32)), .val (.int (6 : Int32)), .val (.int p4), .val (.int (1 : Int32)), .val (.int (1 : Int32)), .val (.int (0 : Int32)), .val (.int x0)]
abbrev lo13_6_21 (a1 : Addr) (p4 x0 : Int32) : Array Slot := #[.val (.ref a1), .val (.int (0 : Int32)), .val (.int (6 : Int32)), .val (.int p4), .val (.int (1 : Int32)), .val (.int (1 : Int32)), .val (.int (1 : Int32)), .val (.int x0)]
abbrev lo13_6_22 (a1 : Addr) (p4 x1 : Int32) : Array Slot := #[.val (.ref a1), .val (.int (0 : Int32)), .val (.int (6 : Int32)), .val (.int p4), .val (.int (1 : Int32)), .val (.int (1 : Int32)), .val (.int (1 : Int32)), .val (.int x1)]
abbrev lo13_6_23 (a1 : Addr) (p4 x1 : Int32) : Array Slot := #[.val (.ref a1), .val (.int (0 : Int32)), .val (.int (6 : Int32)), .val (.int p4), .val (.int (2 : Int32)), .val (.int (1 : Int32)), .val (.int (1 : Int32)), .val (.int x1)]
abbrev lo13_6_24 (a1 : Addr) (p4 x1 : Int32) : Array Slot := #[.val (.ref a1), .val (.int (0 : Int32)), .val (.int (6 : Int32)), .val (.int p4), .val (.int (1 : Int32)), .val (.int (0 : Int32)), .val (.int (1 : Int32)), .val (.int x1)]
abbrev lo13_6_25 (a1 : Addr) (p4 x0 : Int32) : Array Slot := #[.val (.ref a1), .val (.int (0 : Int32)), .val (.int (6 : Int32)), .val (.int p4), .val (.int (0 : Int32)), .val (.int (-1 : Int32)), .val (.int (0 : Int32)), .val (.int x0)]
def f13_6 (a1 : Addr) (p4 : Int32) (k1 : ClassId) (x0 x1 x2 x3 x4 x5 : Int32) : Int32 := (if x2 < p4 then (if x4 < p4 then (if x5 < p4 then (-7 : Int32) else (if p4 < x5 then (-6 : Int32) else (5 : Int32))) else (if p4 < x4 then (if x3 < p4 then (-5 : Int32) else (if p4 < x3 then (-4 : Int32) else (3 : Int32))) else (4 : Int32))) else (if p4 < x2 then (if x0 < p4 then (if x1 < p4 then (-3 : Int32) else (if p4 < x1 then (-2 : Int32) else (1 : Int32))) else (if p4 < x0 then (-1 : Int32) else (0 : Int32))) else (2 : Int32)))
set_option maxRecDepth 65536 in
set_option maxHeartbeats 40000000 in
theorem rm13_6 (l : Launch) (Z : State) (a0 : Array Value) (hw : HW a0 Z) (ws : List Jvm.Cond) (a1 : Addr) (p4 : Int32) (k1 : ClassId) (x0 x1 x2 x3 x4 x5 : Int32) (h0 : Heap) (n0 : Nat) (Z0 : n0 ≤ h0.size) (V_a1 : Arv Z h0 a1 k1 .int (6 : Int32) [(.int x0), (.int x1), (.int x2), (.int x3), (.int x4), (.int x5)] (.int (0 : Int32))) :
    MF l mn9 jdk_65_method_59_code 8 (some .int) ws ({ frames := 0, cells := 0, slots := 0, locals := 0 } : Room) #[(.ref a1), (.int (0 : Int32)), (.int (6 : Int32)), (.int p4)] Z h0 (QP (some (.int (f13_6 a1 p4 k1 x0 x1 x2 x3 x4 x5))) h0 n0) := by
  refine MetFree.of_bodySF (plainFor_of_name pn_5) hisR ?_
  intro p e s m args below meth c s₁ Bd hml0 hP hK
  obtain ⟨rfl, hZ, hh⟩ := hP
  have hx := Bd.exec
  have hby := Bd.bytes
  have hml : c.maxLocals = 8 := hml0
  have hown : s.vm.findClass "java/util/Arrays" = some m.cls := findClass_of_methodNamed Bd.named
  have hnm := (name_of_methodNamed Bd.named Bd.method).1
  have X0 : Stand p l e ({ frames := 0, cells := 0, slots := 0, locals := 0 } : Room) s m #[(.ref a1), (.int (0 : Int32)), (.int (6 : Int32)), (.int p4)] below meth c s₁ [] 0 0 := Stand.of_body Bd
  have e0 : s₁.heap = h0 := by rw [← hh, Bd.state]; rfl
  have N0 := Fr.nil n0
  have pre0 : GO p e below (s₁.setTop (mkF m 0 #[.val (.ref a1), .val (.int (0 : Int32)), .val (.int (6 : Int32)), .val (.int p4), .unset, .unset, .unset, .unset] [])) (s₁.setTop (entryFrame m #[(.ref a1), (.int (0 : Int32)), (.int (6 : Int32)), (.int p4)] 8)) := fun t k => castTop (ef_13 m a1 (0 : Int32) (6 : Int32) p4) k
  obtain ⟨cl305, Ar305, q305, Sz305, Nn305, Hh305, Gg305⟩ := id V_a1
  have hin305 : ¬ ((2 : Int32) < 0 ∨ cl305.slots.size ≤ ((2 : Int32)).toNatClampNeg) := inb_of Sz305 ⟨by decide, by decide⟩
  have hat305 : cl305.slots[((2 : Int32)).toNatClampNeg]? = some (.int x2) := Hh305.at hin305 rfl
  have pre307 : GO p e below (s₁.setTop (mkF m 33 (lo13_6_3 a1 p4 x2) [(.int p4), (.int x2)])) (s₁.setTop (entryFrame m #[(.ref a1), (.int (0 : Int32)), (.int (6 : Int32)), (.int p4)] 8)) := fun t k => by
    refine pre0 _ ?_
    refine y_iloadN X0 hx hby d13_0 rfl ?_
    refine y_istore X0 hx hby d13_1 (l' := (lo13_6_0 a1 p4)) rfl ?_
    refine y_iloadN X0 hx hby d13_3 rfl ?_
    refine y_iconst X0 hx hby (v := (1 : Int32)) d13_4 rfl ?_
    refine y_isub X0 hx hby d13_5 ?_
    rw [show ((6 : Int32) - (1 : Int32)) = (5 : Int32) from by decide]
    refine y_istore X0 hx hby d13_6 (l' := (lo13_6_1 a1 p4)) rfl ?_
    refine y_iload X0 hx hby d13_8 rfl ?_
    refine y_iload X0 hx hby d13_10 rfl ?_
    refine y_icmpNo X0 hx hby d13_12 (flt (by decide)).2.2.1 ?_
    refine y_iload X0 hx hby d13_15 rfl ?_
    refine y_iload X0 hx hby d13_17 rfl ?_
    refine y_iadd X0 hx hby d13_19 ?_
    rw [show ((0 : Int32) + (5 : Int32)) = (5 : Int32) from by decide]
    refine y_iconst X0 hx hby (v := (1 : Int32)) d13_20 rfl ?_
    refine y_iushr X0 hx hby d13_21 ?_
    rw [show (((5 : Int32).toUInt32 >>> ((1 : Int32) &&& 31).toUInt32).toInt32) = (2 : Int32) from by decide]
    refine y_istore X0 hx hby d13_22 (l' := (lo13_6_2 a1 p4)) rfl ?_
    refine y_aloadN X0 hx hby d13_24 rfl rfl ?_
    refine y_iload X0 hx hby d13_25 rfl ?_
    refine X0.iaload hx (j := (2 : Int32)) (v := (.int x2)) (by rw [e0]; exact Ar305.1) (State.isArrayOf_alike hZ.alike Ar305.2.1) Ar305.2.2 hin305 hat305 (g := (mkF m 27 (lo13_6_2 a1 p4) [(.int (2 : Int32)), (.ref a1)])) rfl rfl (hb hby d13_27) _ ?_
    show Steps p.tables e below (s₁.setTop (mkF m 28 (lo13_6_2 a1 p4) [(.int x2)])) _
    refine y_istore X0 hx hby d13_28 (l' := (lo13_6_3 a1 p4 x2)) rfl ?_
    refine y_iload X0 hx hby d13_30 rfl ?_
    refine y_iloadN X0 hx hby d13_32 rfl ?_
    exact k
  by_cases hc306 : x2 < p4
  · obtain ⟨cl308, Ar308, q308, Sz308, Nn308, Hh308, Gg308⟩ := id V_a1
    have hin308 : ¬ ((4 : Int32) < 0 ∨ cl308.slots.size ≤ ((4 : Int32)).toNatClampNeg) := inb_of Sz308 ⟨by decide, by decide⟩
    have hat308 : cl308.slots[((4 : Int32)).toNatClampNeg]? = some (.int x4) := Hh308.at hin308 rfl
    have pre310 : GO p e below (s₁.setTop (mkF m 33 (lo13_6_6 a1 p4 x4) [(.int p4), (.int x4)])) (s₁.setTop (entryFrame m #[(.ref a1), (.int (0 : Int32)), (.int (6 : Int32)), (.int p4)] 8)) := fun t k => by
      refine pre307 _ ?_
      refine y_icmpNo X0 hx hby d13_33 (tlt hc306).2.1 ?_
      refine y_iload X0 hx hby d13_36 rfl ?_
      refine y_iconst X0 hx hby (v := (1 : Int32)) d13_38 rfl ?_
      refine y_iadd X0 hx hby d13_39 ?_
      rw [show ((2 : Int32) + (1 : Int32)) = (3 : Int32) from by decide]
      refine y_istore X0 hx hby d13_40 (l' := (lo13_6_4 a1 p4 x2)) rfl ?_
      refine y_goto X0 hx hby (pc' := 63) d13_42 (by decide) (by decide) ?_
      refine y_goto X0 hx hby (pc' := 8) d13_63 (by decide) (by decide) ?_
      refine y_iload X0 hx hby d13_8 rfl ?_
      refine y_iload X0 hx hby d13_10 rfl ?_
      refine y_icmpNo X0 hx hby d13_12 (flt (by decide)).2.2.1 ?_
      refine y_iload X0 hx hby d13_15 rfl ?_
      refine y_iload X0 hx hby d13_17 rfl ?_
      refine y_iadd X0 hx hby d13_19 ?_
      rw [show ((3 : Int32) + (5 : Int32)) = (8 : Int32) from by decide]
      refine y_iconst X0 hx hby (v := (1 : Int32)) d13_20 rfl ?_
      refine y_iushr X0 hx hby d13_21 ?_
      rw [show (((8 : Int32).toUInt32 >>> ((1 : Int32) &&& 31).toUInt32).toInt32) = (4 : Int32) from by decide]
      refine y_istore X0 hx hby d13_22 (l' := (lo13_6_5 a1 p4 x2)) rfl ?_
      refine y_aloadN X0 hx hby d13_24 rfl rfl ?_
      refine y_iload X0 hx hby d13_25 rfl ?_
      refine X0.iaload hx (j := (4 : Int32)) (v := (.int x4)) (by rw [e0]; exact Ar308.1) (State.isArrayOf_alike hZ.alike Ar308.2.1) Ar308.2.2 hin308 hat308 (g := (mkF m 27 (lo13_6_5 a1 p4 x2) [(.int (4 : Int32)), (.ref a1)])) rfl rfl (hb hby d13_27) _ ?_
      show Steps p.tables e below (s₁.setTop (mkF m 28 (lo13_6_5 a1 p4 x2) [(.int x4)])) _
      refine y_istore X0 hx hby d13_28 (l' := (lo13_6_6 a1 p4 x4)) rfl ?_
      refine y_iload X0 hx hby d13_30 rfl ?_
      refine y_iloadN X0 hx hby d13_32 rfl ?_
      exact k
    by_cases hc309 : x4 < p4
    · obtain ⟨cl311, Ar311, q311, Sz311, Nn311, Hh311, Gg311⟩ := id V_a1
      have hin311 : ¬ ((5 : Int32) < 0 ∨ cl311.slots.size ≤ ((5 : Int32)).toNatClampNeg) := inb_of Sz311 ⟨by decide, by decide⟩
      have hat311 : cl311.slots[((5 : Int32)).toNatClampNeg]? = some (.int x5) := Hh311.at hin311 rfl
      have pre313 : GO p e below (s₁.setTop (mkF m 33 (lo13_6_9 a1 p4 x5) [(.int p4), (.int x5)])) (s₁.setTop (entryFrame m #[(.ref a1), (.int (0 : Int32)), (.int (6 : Int32)), (.int p4)] 8)) := fun t k => by
        refine pre310 _ ?_
        refine y_icmpNo X0 hx hby d13_33 (tlt hc309).2.1 ?_
        refine y_iload X0 hx hby d13_36 rfl ?_
        refine y_iconst X0 hx hby (v := (1 : Int32)) d13_38 rfl ?_
        refine y_iadd X0 hx hby d13_39 ?_
        rw [show ((4 : Int32) + (1 : Int32)) = (5 : Int32) from by decide]
        refine y_istore X0 hx hby d13_40 (l' := (lo13_6_7 a1 p4 x4)) rfl ?_
        refine y_goto X0 hx hby (pc' := 63) d13_42 (by decide) (by decide) ?_
        refine y_goto X0 hx hby (pc' := 8) d13_63 (by decide) (by decide) ?_
        refine y_iload X0 hx hby d13_8 rfl ?_
        refine y_iload X0 hx hby d13_10 rfl ?_
        refine y_icmpNo X0 hx hby d13_12 (flt (by decide)).2.2.1 ?_
        refine y_iload X0 hx hby d13_15 rfl ?_
        refine y_iload X0 hx hby d13_17 rfl ?_
        refine y_iadd X0 hx hby d13_19 ?_
        rw [show ((5 : Int32) + (5 : Int32)) = (10 : Int32) from by decide]
        refine y_iconst X0 hx hby (v := (1 : Int32)) d13_20 rfl ?_
        refine y_iushr X0 hx hby d13_21 ?_
        rw [show (((10 : Int32).toUInt32 >>> ((1 : Int32) &&& 31).toUInt32).toInt32) = (5 : Int32) from by decide]
        refine y_istore X0 hx hby d13_22 (l' := (lo13_6_8 a1 p4 x4)) rfl ?_
        refine y_aloadN X0 hx hby d13_24 rfl rfl ?_
        refine y_iload X0 hx hby d13_25 rfl ?_
        refine X0.iaload hx (j := (5 : Int32)) (v := (.int x5)) (by rw [e0]; exact Ar311.1) (State.isArrayOf_alike hZ.alike Ar311.2.1) Ar311.2.2 hin311 hat311 (g := (mkF m 27 (lo13_6_8 a1 p4 x4) [(.int (5 : Int32)), (.ref a1)])) rfl rfl (hb hby d13_27) _ ?_
        show Steps p.tables e below (s₁.setTop (mkF m 28 (lo13_6_8 a1 p4 x4) [(.int x5)])) _
        refine y_istore X0 hx hby d13_28 (l' := (lo13_6_9 a1 p4 x5)) rfl ?_
        refine y_iload X0 hx hby d13_30 rfl ?_
        refine y_iloadN X0 hx hby d13_32 rfl ?_
        exact k
      by_cases hc312 : x5 < p4
      · obtain ⟨fs, hr, hrun, hended, hW, hsame⟩ := X0.leave (v := some (.int (-7 : Int32))) (fun h => by rw [Bd.returns] at h; cases h)
        refine ⟨_, _, pre313 _ ?_, hrun, hended, _, _, rfl, ?_, ⟨_, rfl⟩, hW, hsame.mono (by decide) (by decide)⟩
        · refine y_icmpNo X0 hx hby d13_33 (tlt hc312).2.1 ?_
          refine y_iload X0 hx hby d13_36 rfl ?_
          refine y_iconst X0 hx hby (v := (1 : Int32)) d13_38 rfl ?_
          refine y_iadd X0 hx hby d13_39 ?_
          rw [show ((5 : Int32) + (1 : Int32)) = (6 : Int32) from by decide]
          refine y_istore X0 hx hby d13_40 (l' := (lo13_6_10 a1 p4 x5)) rfl ?_
          refine y_goto X0 hx hby (pc' := 63) d13_42 (by decide) (by decide) ?_
          refine y_goto X0 hx hby (pc' := 8) d13_63 (by decide) (by decide) ?_
          refine y_iload X0 hx hby d13_8 rfl ?_
          refine y_iload X0 hx hby d13_10 rfl ?_
          refine y_icmpYes X0 hx hby (pc' := 66) d13_12 (tlt (by decide)).2.2.1 (by decide) (by decide) ?_
          refine y_iload X0 hx hby d13_66 rfl ?_
          refine y_iconst X0 hx hby (v := (1 : Int32)) d13_68 rfl ?_
          refine y_iadd X0 hx hby d13_69 ?_
          rw [show ((6 : Int32) + (1 : Int32)) = (7 : Int32) from by decide]
          refine y_ineg X0 hx hby d13_70 ?_
          rw [show ((-(7 : Int32))) = (-7 : Int32) from by decide]
          exact retI X0 hx Bd.returns (hb hby d13_71) hr
        · show QP _ h0 n0 _ s₁.heap _
          rw [e0, show f13_6 a1 p4 k1 x0 x1 x2 x3 x4 x5 = (-7 : Int32) from by unfold f13_6; rw [if_pos hc306, if_pos hc309, if_pos hc312]]
          exact ⟨rfl, N0, rfl⟩
      · have pre315 : GO p e below (s₁.setTop (mkF m 48 (lo13_6_9 a1 p4 x5) [(.int p4), (.int x5)])) (s₁.setTop (entryFrame m #[(.ref a1), (.int (0 : Int32)), (.int (6 : Int32)), (.int p4)] 8)) := fun t k => by
          refine pre313 _ ?_
          refine y_icmpYes X0 hx hby (pc' := 45) d13_33 (flt hc312).2.1 (by decide) (by decide) ?_
          refine y_iload X0 hx hby d13_45 rfl ?_
          refine y_iloadN X0 hx hby d13_47 rfl ?_
          exact k
        by_cases hc314 : p4 < x5
        · obtain ⟨fs, hr, hrun, hended, hW, hsame⟩ := X0.leave (v := some (.int (-6 : Int32))) (fun h => by rw [Bd.returns] at h; cases h)
          refine ⟨_, _, pre315 _ ?_, hrun, hended, _, _, rfl, ?_, ⟨_, rfl⟩, hW, hsame.mono (by decide) (by decide)⟩
          · refine y_icmpNo X0 hx hby d13_48 (tlt hc314).2.2.2 ?_
            refine y_iload X0 hx hby d13_51 rfl ?_
            refine y_iconst X0 hx hby (v := (1 : Int32)) d13_53 rfl ?_
            refine y_isub X0 hx hby d13_54 ?_
            rw [show ((5 : Int32) - (1 : Int32)) = (4 : Int32) from by decide]
            refine y_istore X0 hx hby d13_55 (l' := (lo13_6_11 a1 p4 x5)) rfl ?_
            refine y_goto X0 hx hby (pc' := 63) d13_57 (by decide) (by decide) ?_
            refine y_goto X0 hx hby (pc' := 8) d13_63 (by decide) (by decide) ?_
            refine y_iload X0 hx hby d13_8 rfl ?_
            refine y_iload X0 hx hby d13_10 rfl ?_
            refine y_icmpYes X0 hx hby (pc' := 66) d13_12 (tlt (by decide)).2.2.1 (by decide) (by decide) ?_
            refine y_iload X0 hx hby d13_66 rfl ?_
            refine y_iconst X0 hx hby (v := (1 : Int32)) d13_68 rfl ?_
            refine y_iadd X0 hx hby d13_69 ?_
            rw [show ((5 : Int32) + (1 : Int32)) = (6 : Int32) from by decide]
            refine y_ineg X0 hx hby d13_70 ?_
            rw [show ((-(6 : Int32))) = (-6 : Int32) from by decide]
            exact retI X0 hx Bd.returns (hb hby d13_71) hr
          · show QP _ h0 n0 _ s₁.heap _
            rw [e0, show f13_6 a1 p4 k1 x0 x1 x2 x3 x4 x5 = (-6 : Int32) from by unfold f13_6; rw [if_pos hc306, if_pos hc309, if_neg hc312, if_pos hc314]]
            exact ⟨rfl, N0, rfl⟩
        · obtain ⟨fs, hr, hrun, hended, hW, hsame⟩ := X0.leave (v := some (.int (5 : Int32))) (fun h => by rw [Bd.returns] at h; cases h)
          refine ⟨_, _, pre315 _ ?_, hrun, hended, _, _, rfl, ?_, ⟨_, rfl⟩, hW, hsame.mono (by decide) (by decide)⟩
          · refine y_icmpYes X0 hx hby (pc' := 60) d13_48 (flt hc314).2.2.2 (by decide) (by decide) ?_
            refine y_iload X0 hx hby d13_60 rfl ?_
            exact retI X0 hx Bd.returns (hb hby d13_62) hr
          · show QP _ h0 n0 _ s₁.heap _
            rw [e0, show f13_6 a1 p4 k1 x0 x1 x2 x3 x4 x5 = (5 : Int32) from by unfold f13_6; rw [if_pos hc306, if_pos hc309, if_neg hc312, if_neg hc314]]
            exact ⟨rfl, N0, rfl⟩
    · have pre317 : GO p e below (s₁.setTop (mkF m 48 (lo13_6_6 a1 p4 x4) [(.int p4), (.int x4)])) (s₁.setTop (entryFrame m #[(.ref a1), (.int (0 : Int32)), (.int (6 : Int32)), (.int p4)] 8)) := fun t k => by
        refine pre310 _ ?_
        refine y_icmpYes X0 hx hby (pc' := 45) d13_33 (flt hc309).2.1 (by decide) (by decide) ?_
        refine y_iload X0 hx hby d13_45 rfl ?_
        refine y_iloadN X0 hx hby d13_47 rfl ?_
        exact k
      by_cases hc316 : p4 < x4
      · obtain ⟨cl318, Ar318, q318, Sz318, Nn318, Hh318, Gg318⟩ := id V_a1
        have hin318 : ¬ ((3 : Int32) < 0 ∨ cl318.slots.size ≤ ((3 : Int32)).toNatClampNeg) := inb_of Sz318 ⟨by decide, by decide⟩
        have hat318 : cl318.slots[((3 : Int32)).toNatClampNeg]? = some (.int x3) := Hh318.at hin318 rfl
        have pre320 : GO p e below (s₁.setTop (mkF m 33 (lo13_6_14 a1 p4 x3) [(.int p4), (.int x3)])) (s₁.setTop (entryFrame m #[(.ref a1), (.int (0 : Int32)), (.int (6 : Int32)), (.int p4)] 8)) := fun t k => by
          refine pre317 _ ?_
          refine y_icmpNo X0 hx hby d13_48 (tlt hc316).2.2.2 ?_
          refine y_iload X0 hx hby d13_51 rfl ?_
          refine y_iconst X0 hx hby (v := (1 : Int32)) d13_53 rfl ?_
          refine y_isub X0 hx hby d13_54 ?_
          rw [show ((4 : Int32) - (1 : Int32)) = (3 : Int32) from by decide]
          refine y_istore X0 hx hby d13_55 (l' := (lo13_6_12 a1 p4 x4)) rfl ?_
          refine y_goto X0 hx hby (pc' := 63) d13_57 (by decide) (by decide) ?_
          refine y_goto X0 hx hby (pc' := 8) d13_63 (by decide) (by decide) ?_
          refine y_iload X0 hx hby d13_8 rfl ?_
          refine y_iload X0 hx hby d13_10 rfl ?_
          refine y_icmpNo X0 hx hby d13_12 (flt (by decide)).2.2.1 ?_
          refine y_iload X0 hx hby d13_15 rfl ?_
          refine y_iload X0 hx hby d13_17 rfl ?_
          refine y_iadd X0 hx hby d13_19 ?_
          rw [show ((3 : Int32) + (3 : Int32)) = (6 : Int32) from by decide]
          refine y_iconst X0 hx hby (v := (1 : Int32)) d13_20 rfl ?_
          refine y_iushr X0 hx hby d13_21 ?_
          rw [show (((6 : Int32).toUInt32 >>> ((1 : Int32) &&& 31).toUInt32).toInt32) = (3 : Int32) from by decide]
          refine y_istore X0 hx hby d13_22 (l' := (lo13_6_13 a1 p4 x4)) rfl ?_
          refine y_aloadN X0 hx hby d13_24 rfl rfl ?_
          refine y_iload X0 hx hby d13_25 rfl ?_
          refine X0.iaload hx (j := (3 : Int32)) (v := (.int x3)) (by rw [e0]; exact Ar318.1) (State.isArrayOf_alike hZ.alike Ar318.2.1) Ar318.2.2 hin318 hat318 (g := (mkF m 27 (lo13_6_13 a1 p4 x4) [(.int (3 : Int32)), (.ref a1)])) rfl rfl (hb hby d13_27) _ ?_
          show Steps p.tables e below (s₁.setTop (mkF m 28 (lo13_6_13 a1 p4 x4) [(.int x3)])) _
          refine y_istore X0 hx hby d13_28 (l' := (lo13_6_14 a1 p4 x3)) rfl ?_
          refine y_iload X0 hx hby d13_30 rfl ?_
          refine y_iloadN X0 hx hby d13_32 rfl ?_
          exact k
        by_cases hc319 : x3 < p4
        · obtain ⟨fs, hr, hrun, hended, hW, hsame⟩ := X0.leave (v := some (.int (-5 : Int32))) (fun h => by rw [Bd.returns] at h; cases h)
          refine ⟨_, _, pre320 _ ?_, hrun, hended, _, _, rfl, ?_, ⟨_, rfl⟩, hW, hsame.mono (by decide) (by decide)⟩
          · refine y_icmpNo X0 hx hby d13_33 (tlt hc319).2.1 ?_
            refine y_iload X0 hx hby d13_36 rfl ?_
            refine y_iconst X0 hx hby (v := (1 : Int32)) d13_38 rfl ?_
            refine y_iadd X0 hx hby d13_39 ?_
            rw [show ((3 : Int32) + (1 : Int32)) = (4 : Int32) from by decide]
            refine y_istore X0 hx hby d13_40 (l' := (lo13_6_15 a1 p4 x3)) rfl ?_
            refine y_goto X0 hx hby (pc' := 63) d13_42 (by decide) (by decide) ?_
            refine y_goto X0 hx hby (pc' := 8) d13_63 (by decide) (by decide) ?_
            refine y_iload X0 hx hby d13_8 rfl ?_
            refine y_iload X0 hx hby d13_10 rfl ?_
            refine y_icmpYes X0 hx hby (pc' := 66) d13_12 (tlt (by decide)).2.2.1 (by decide) (by decide) ?_
            refine y_iload X0 hx hby d13_66 rfl ?_
            refine y_iconst X0 hx hby (v := (1 : Int32)) d13_68 rfl ?_
            refine y_iadd X0 hx hby d13_69 ?_
            rw [show ((4 : Int32) + (1 : Int32)) = (5 : Int32) from by decide]
            refine y_ineg X0 hx hby d13_70 ?_
            rw [show ((-(5 : Int32))) = (-5 : Int32) from by decide]
            exact retI X0 hx Bd.returns (hb hby d13_71) hr
          · show QP _ h0 n0 _ s₁.heap _
            rw [e0, show f13_6 a1 p4 k1 x0 x1 x2 x3 x4 x5 = (-5 : Int32) from by unfold f13_6; rw [if_pos hc306, if_neg hc309, if_pos hc316, if_pos hc319]]
            exact ⟨rfl, N0, rfl⟩
        · have pre322 : GO p e below (s₁.setTop (mkF m 48 (lo13_6_14 a1 p4 x3) [(.int p4), (.int x3)])) (s₁.setTop (entryFrame m #[(.ref a1), (.int (0 : Int32)), (.int (6 : Int32)), (.int p4)] 8)) := fun t k => by
            refine pre320 _ ?_
            refine y_icmpYes X0 hx hby (pc' := 45) d13_33 (flt hc319).2.1 (by decide) (by decide) ?_
            refine y_iload X0 hx hby d13_45 rfl ?_
            refine y_iloadN X0 hx hby d13_47 rfl ?_
            exact k
          by_cases hc321 : p4 < x3
          · obtain ⟨fs, hr, hrun, hended, hW, hsame⟩ := X0.leave (v := some (.int (-4 : Int32))) (fun h => by rw [Bd.returns] at h; cases h)
            refine ⟨_, _, pre322 _ ?_, hrun, hended, _, _, rfl, ?_, ⟨_, rfl⟩, hW, hsame.mono (by decide) (by decide)⟩
            · refine y_icmpNo X0 hx hby d13_48 (tlt hc321).2.2.2 ?_
              refine y_iload X0 hx hby d13_51 rfl ?_
              refine y_iconst X0 hx hby (v := (1 : Int32)) d13_53 rfl ?_
              refine y_isub X0 hx hby d13_54 ?_
              rw [show ((3 : Int32) - (1 : Int32)) = (2 : Int32) from by decide]
              refine y_istore X0 hx hby d13_55 (l' := (lo13_6_16 a1 p4 x3)) rfl ?_
              refine y_goto X0 hx hby (pc' := 63) d13_57 (by decide) (by decide) ?_
              refine y_goto X0 hx hby (pc' := 8) d13_63 (by decide) (by decide) ?_
              refine y_iload X0 hx hby d13_8 rfl ?_
              refine y_iload X0 hx hby d13_10 rfl ?_
              refine y_icmpYes X0 hx hby (pc' := 66) d13_12 (tlt (by decide)).2.2.1 (by decide) (by decide) ?_
              refine y_iload X0 hx hby d13_66 rfl ?_
              refine y_iconst X0 hx hby (v := (1 : Int32)) d13_68 rfl ?_
              refine y_iadd X0 hx hby d13_69 ?_
              rw [show ((3 : Int32) + (1 : Int32)) = (4 : Int32) from by decide]
              refine y_ineg X0 hx hby d13_70 ?_
              rw [show ((-(4 : Int32))) = (-4 : Int32) from by decide]
              exact retI X0 hx Bd.returns (hb hby d13_71) hr
            · show QP _ h0 n0 _ s₁.heap _
              rw [e0, show f13_6 a1 p4 k1 x0 x1 x2 x3 x4 x5 = (-4 : Int32) from by unfold f13_6; rw [if_pos hc306, if_neg hc309, if_pos hc316, if_neg hc319, if_pos hc321]]
              exact ⟨rfl, N0, rfl⟩
          · obtain ⟨fs, hr, hrun, hended, hW, hsame⟩ := X0.leave (v := some (.int (3 : Int32))) (fun h => by rw [Bd.returns] at h; cases h)
            refine ⟨_, _, pre322 _ ?_, hrun, hended, _, _, rfl, ?_, ⟨_, rfl⟩, hW, hsame.mono (by decide) (by decide)⟩
            · refine y_icmpYes X0 hx hby (pc' := 60) d13_48 (flt hc321).2.2.2 (by decide) (by decide) ?_
              refine y_iload X0 hx hby d13_60 rfl ?_
              exact retI X0 hx Bd.returns (hb hby d13_62) hr
            · show QP _ h0 n0 _ s₁.heap _
              rw [e0, show f13_6 a1 p4 k1 x0 x1 x2 x3 x4 x5 = (3 : Int32) from by unfold f13_6; rw [if_pos hc306, if_neg hc309, if_pos hc316, if_neg hc319, if_neg hc321]]
              exact ⟨rfl, N0, rfl⟩
      · obtain ⟨fs, hr, hrun, hended, hW, hsame⟩ := X0.leave (v := some (.int (4 : Int32))) (fun h => by rw [Bd.returns] at h; cases h)
        refine ⟨_, _, pre317 _ ?_, hrun, hended, _, _, rfl, ?_, ⟨_, rfl⟩, hW, hsame.mono (by decide) (by decide)⟩
        · refine y_icmpYes X0 hx hby (pc' := 60) d13_48 (flt hc316).2.2.2 (by decide) (by decide) ?_
          refine y_iload X0 hx hby d13_60 rfl ?_
          exact retI X0 hx Bd.returns (hb hby d13_62) hr
        · show QP _ h0 n0 _ s₁.heap _
          rw [e0, show f13_6 a1 p4 k1 x0 x1 x2 x3 x4 x5 = (4 : Int32) from by unfold f13_6; rw [if_pos hc306, if_neg hc309, if_neg hc316]]
          exact ⟨rfl, N0, rfl⟩
  · have pre324 : GO p e below (s₁.setTop (mkF m 48 (lo13_6_3 a1 p4 x2) [(.int p4), (.int x2)])) (s₁.setTop (entryFrame m #[(.ref a1), (.int (0 : Int32)), (.int (6 : Int32)), (.int p4)] 8)) := fun t k => by
      refine pre307 _ ?_
      refine y_icmpYes X0 hx hby (pc' := 45) d13_33 (flt hc306).2.1 (by decide) (by decide) ?_
      refine y_iload X0 hx hby d13_45 rfl ?_
      refine y_iloadN X0 hx hby d13_47 rfl ?_
      exact k
    by_cases hc323 : p4 < x2
    · obtain ⟨cl325, Ar325, q325, Sz325, Nn325, Hh325, Gg325⟩ := id V_a1
      have hin325 : ¬ ((0 : Int32) < 0 ∨ cl325.slots.size ≤ ((0 : Int32)).toNatClampNeg) := inb_of Sz325 ⟨by decide, by decide⟩
      have hat325 : cl325.slots[((0 : Int32)).toNatClampNeg]? = some (.int x0) := Hh325.at hin325 rfl
      have pre327 : GO p e below (s₁.setTop (mkF m 33 (lo13_6_19 a1 p4 x0) [(.int p4), (.int x0)])) (s₁.setTop (entryFrame m #[(.ref a1), (.int (0 : Int32)), (.int (6 : Int32)), (.int p4)] 8)) := fun t k => by
        refine pre324 _ ?_
        refine y_icmpNo X0 hx hby d13_48 (tlt hc323).2.2.2 ?_
        refine y_iload X0 hx hby d13_51 rfl ?_
        refine y_iconst X0 hx hby (v := (1 : Int32)) d13_53 rfl ?_
        refine y_isub X0 hx hby d13_54 ?_
        rw [show ((2 : Int32) - (1 : Int32)) = (1 : Int32) from by decide]
        refine y_istore X0 hx hby d13_55 (l' := (lo13_6_17 a1 p4 x2)) rfl ?_
        refine y_goto X0 hx hby (pc' := 63) d13_57 (by decide) (by decide) ?_
        refine y_goto X0 hx hby (pc' := 8) d13_63 (by decide) (by decide) ?_
        refine y_iload X0 hx hby d13_8 rfl ?_
        refine y_iload X0 hx hby d13_10 rfl ?_
        refine y_icmpNo X0 hx hby d13_12 (flt (by decide)).2.2.1 ?_
        refine y_iload X0 hx hby d13_15 rfl ?_
        refine y_iload X0 hx hby d13_17 rfl ?_
        refine y_iadd X0 hx hby d13_19 ?_
        rw [show ((0 : Int32) + (1 : Int32)) = (1 : Int32) from by decide]
        refine y_iconst X0 hx hby (v := (1 : Int32)) d13_20 rfl ?_
        refine y_iushr X0 hx hby d13_21 ?_
        rw [show (((1 : Int32).toUInt32 >>> ((1 : Int32) &&& 31).toUInt32).toInt32) = (0 : Int32) from by decide]
        refine y_istore X0 hx hby d13_22 (l' := (lo13_6_18 a1 p4 x2)) rfl ?_
        refine y_aloadN X0 hx hby d13_24 rfl rfl ?_
        refine y_iload X0 hx hby d13_25 rfl ?_
        refine X0.iaload hx (j := (0 : Int32)) (v := (.int x0)) (by rw [e0]; exact Ar325.1) (State.isArrayOf_alike hZ.alike Ar325.2.1) Ar325.2.2 hin325 hat325 (g := (mkF m 27 (lo13_6_18 a1 p4 x2) [(.int (0 : Int32)), (.ref a1)])) rfl rfl (hb hby d13_27) _ ?_
        show Steps p.tables e below (s₁.setTop (mkF m 28 (lo13_6_18 a1 p4 x2) [(.int x0)])) _
        refine y_istore X0 hx hby d13_28 (l' := (lo13_6_19 a1 p4 x0)) rfl ?_
        refine y_iload X0 hx hby d13_30 rfl ?_
        refine y_iloadN X0 hx hby d13_32 rfl ?_
        exact k
      by_cases hc326 : x0 < p4
      · obtain ⟨cl328, Ar328, q328, Sz328, Nn328, Hh328, Gg328⟩ := id V_a1
        have hin328 : ¬ ((1 : Int32) < 0 ∨ cl328.slots.size ≤ ((1 : Int32)).toNatClampNeg) := inb_of Sz328 ⟨by decide, by decide⟩
        have hat328 : cl328.slots[((1 : Int32)).toNatClampNeg]? = some (.int x1) := Hh328.at hin328 rfl
        have pre330 : GO p e below (s₁.setTop (mkF m 33 (lo13_6_22 a1 p4 x1) [(.int p4), (.int x1)])) (s₁.setTop (entryFrame m #[(.ref a1), (.int (0 : Int32)), (.int (6 : Int32)), (.int p4)] 8)) := fun t k => by
          refine pre327 _ ?_
          refine y_icmpNo X0 hx hby d13_33 (tlt hc326).2.1 ?_
          refine y_iload X0 hx hby d13_36 rfl ?_
          refine y_iconst X0 hx hby (v := (1 : Int32)) d13_38 rfl ?_
          refine y_iadd X0 hx hby d13_39 ?_
          rw [show ((0 : Int32) + (1 : Int32)) = (1 : Int32) from by decide]
          refine y_istore X0 hx hby d13_40 (l' := (lo13_6_20 a1 p4 x0)) rfl ?_
          refine y_goto X0 hx hby (pc' := 63) d13_42 (by decide) (by decide) ?_
          refine y_goto X0 hx hby (pc' := 8) d13_63 (by decide) (by decide) ?_
          refine y_iload X0 hx hby d13_8 rfl ?_
          refine y_iload X0 hx hby d13_10 rfl ?_
          refine y_icmpNo X0 hx hby d13_12 (flt (by decide)).2.2.1 ?_
          refine y_iload X0 hx hby d13_15 rfl ?_
          refine y_iload X0 hx hby d13_17 rfl ?_
          refine y_iadd X0 hx hby d13_19 ?_
          rw [show ((1 : Int32) + (1 : Int32)) = (2 : Int32) from by decide]
          refine y_iconst X0 hx hby (v := (1 : Int32)) d13_20 rfl ?_
          refine y_iushr X0 hx hby d13_21 ?_
          rw [show (((2 : Int32).toUInt32 >>> ((1 : Int32) &&& 31).toUInt32).toInt32) = (1 : Int32) from by decide]
          refine y_istore X0 hx hby d13_22 (l' := (lo13_6_21 a1 p4 x0)) rfl ?_
          refine y_aloadN X0 hx hby d13_24 rfl rfl ?_
          refine y_iload X0 hx hby d13_25 rfl ?_
          refine X0.iaload hx (j := (1 : Int32)) (v := (.int x1)) (by rw [e0]; exact Ar328.1) (State.isArrayOf_alike hZ.alike Ar328.2.1) Ar328.2.2 hin328 hat328 (g := (mkF m 27 (lo13_6_21 a1 p4 x0) [(.int (1 : Int32)), (.ref a1)])) rfl rfl (hb hby d13_27) _ ?_
          show Steps p.tables e below (s₁.setTop (mkF m 28 (lo13_6_21 a1 p4 x0) [(.int x1)])) _
          refine y_istore X0 hx hby d13_28 (l' := (lo13_6_22 a1 p4 x1)) rfl ?_
          refine y_iload X0 hx hby d13_30 rfl ?_
          refine y_iloadN X0 hx hby d13_32 rfl ?_
          exact k
        by_cases hc329 : x1 < p4
        · obtain ⟨fs, hr, hrun, hended, hW, hsame⟩ := X0.leave (v := some (.int (-3 : Int32))) (fun h => by rw [Bd.returns] at h; cases h)
          refine ⟨_, _, pre330 _ ?_, hrun, hended, _, _, rfl, ?_, ⟨_, rfl⟩, hW, hsame.mono (by decide) (by decide)⟩
          · refine y_icmpNo X0 hx hby d13_33 (tlt hc329).2.1 ?_
            refine y_iload X0 hx hby d13_36 rfl ?_
            refine y_iconst X0 hx hby (v := (1 : Int32)) d13_38 rfl ?_
            refine y_iadd X0 hx hby d13_39 ?_
            rw [show ((1 : Int32) + (1 : Int32)) = (2 : Int32) from by decide]
            refine y_istore X0 hx hby d13_40 (l' := (lo13_6_23 a1 p4 x1)) rfl ?_
            refine y_goto X0 hx hby (pc' := 63) d13_42 (by decide) (by decide) ?_
            refine y_goto X0 hx hby (pc' := 8) d13_63 (by decide) (by decide) ?_
            refine y_iload X0 hx hby d13_8 rfl ?_
            refine y_iload X0 hx hby d13_10 rfl ?_
            refine y_icmpYes X0 hx hby (pc' := 66) d13_12 (tlt (by decide)).2.2.1 (by decide) (by decide) ?_
            refine y_iload X0 hx hby d13_66 rfl ?_
            refine y_iconst X0 hx hby (v := (1 : Int32)) d13_68 rfl ?_
            refine y_iadd X0 hx hby d13_69 ?_
            rw [show ((2 : Int32) + (1 : Int32)) = (3 : Int32) from by decide]
            refine y_ineg X0 hx hby d13_70 ?_
            rw [show ((-(3 : Int32))) = (-3 : Int32) from by decide]
            exact retI X0 hx Bd.returns (hb hby d13_71) hr
          · show QP _ h0 n0 _ s₁.heap _
            rw [e0, show f13_6 a1 p4 k1 x0 x1 x2 x3 x4 x5 = (-3 : Int32) from by unfold f13_6; rw [if_neg hc306, if_pos hc323, if_pos hc326, if_pos hc329]]
            exact ⟨rfl, N0, rfl⟩
        · have pre332 : GO p e below (s₁.setTop (mkF m 48 (lo13_6_22 a1 p4 x1) [(.int p4), (.int x1)])) (s₁.setTop (entryFrame m #[(.ref a1), (.int (0 : Int32)), (.int (6 : Int32)), (.int p4)] 8)) := fun t k => by
            refine pre330 _ ?_
            refine y_icmpYes X0 hx hby (pc' := 45) d13_33 (flt hc329).2.1 (by decide) (by decide) ?_
            refine y_iload X0 hx hby d13_45 rfl ?_
            refine y_iloadN X0 hx hby d13_47 rfl ?_
            exact k
          by_cases hc331 : p4 < x1
          · obtain ⟨fs, hr, hrun, hended, hW, hsame⟩ := X0.leave (v := some (.int (-2 : Int32))) (fun h => by rw [Bd.returns] at h; cases h)
            refine ⟨_, _, pre332 _ ?_, hrun, hended, _, _, rfl, ?_, ⟨_, rfl⟩, hW, hsame.mono (by decide) (by decide)⟩
            · refine y_icmpNo X0 hx hby d13_48 (tlt hc331).2.2.2 ?_
              refine y_iload X0 hx hby d13_51 rfl ?_
              refine y_iconst X0 hx hby (v := (1 : Int32)) d13_53 rfl ?_
              refine y_isub X0 hx hby d13_54 ?_
              rw [show ((1 : Int32) - (1 : Int32)) = (0 : Int32) from by decide]
              refine y_istore X0 hx hby d13_55 (l' := (lo13_6_24 a1 p4 x1)) rfl ?_
              refine y_goto X0 hx hby (pc' := 63) d13_57 (by decide) (by decide) ?_
              refine y_goto X0 hx hby (pc' := 8) d13_63 (by decide) (by decide) ?_
              refine y_iload X0 hx hby d13_8 rfl ?_
              refine y_iload X0 hx hby d13_10 rfl ?_
              refine y_icmpYes X0 hx hby (pc' := 66) d13_12 (tlt (by decide)).2.2.1 (by decide) (by decide) ?_
              refine y_iload X0 hx hby d13_66 rfl ?_
              refine y_iconst X0 hx hby (v := (1 : Int32)) d13_68 rfl ?_
              refine y_iadd X0 hx hby d13_69 ?_
              rw [show ((1 : Int32) + (1 : Int32)) = (2 : Int32) from by decide]
              refine y_ineg X0 hx hby d13_70 ?_
              rw [show ((-(2 : Int32))) = (-2 : Int32) from by decide]
              exact retI X0 hx Bd.returns (hb hby d13_71) hr
            · show QP _ h0 n0 _ s₁.heap _
              rw [e0, show f13_6 a1 p4 k1 x0 x1 x2 x3 x4 x5 = (-2 : Int32) from by unfold f13_6; rw [if_neg hc306, if_pos hc323, if_pos hc326, if_neg hc329, if_pos hc331]]
              exact ⟨rfl, N0, rfl⟩
          · obtain ⟨fs, hr, hrun, hended, hW, hsame⟩ := X0.leave (v := some (.int (1 : Int32))) (fun h => by rw [Bd.returns] at h; cases h)
            refine ⟨_, _, pre332 _ ?_, hrun, hended, _, _, rfl, ?_, ⟨_, rfl⟩, hW, hsame.mono (by decide) (by decide)⟩
            · refine y_icmpYes X0 hx hby (pc' := 60) d13_48 (flt hc331).2.2.2 (by decide) (by decide) ?_
              refine y_iload X0 hx hby d13_60 rfl ?_
              exact retI X0 hx Bd.returns (hb hby d13_62) hr
            · show QP _ h0 n0 _ s₁.heap _
              rw [e0, show f13_6 a1 p4 k1 x0 x1 x2 x3 x4 x5 = (1 : Int32) from by unfold f13_6; rw [if_neg hc306, if_pos hc323, if_pos hc326, if_neg hc329, if_neg hc331]]
              exact ⟨rfl, N0, rfl⟩
      · have pre334 : GO p e below (s₁.setTop (mkF m 48 (lo13_6_19 a1 p4 x0) [(.int p4), (.int x0)])) (s₁.setTop (entryFrame m #[(.ref a1), (.int (0 : Int32)), (.int (6 : Int32)), (.int p4)] 8)) := fun t k => by
          refine pre327 _ ?_
          refine y_icmpYes X0 hx hby (pc' := 45) d13_33 (flt hc326).2.1 (by decide) (by decide) ?_
          refine y_iload X0 hx hby d13_45 rfl ?_
          refine y_iloadN X0 hx hby d13_47 rfl ?_
          exact k
        by_cases hc333 : p4 < x0
        · obtain ⟨fs, hr, hrun, hended, hW, hsame⟩ := X0.leave (v := some (.int (-1 : Int32))) (fun h => by rw [Bd.returns] at h; cases h)
          refine ⟨_, _, pre334 _ ?_, hrun, hended, _, _, rfl, ?_, ⟨_, rfl⟩, hW, hsame.mono (by decide) (by decide)⟩
          · refine y_icmpNo X0 hx hby d13_48 (tlt hc333).2.2.2 ?_
            refine y_iload X0 hx hby d13_51 rfl ?_
            refine y_iconst X0 hx hby (v := (1 : Int32)) d13_53 rfl ?_
            refine y_isub X0 hx hby d13_54 ?_
            rw [show ((0 : Int32) - (1 : Int32)) = (-1 : Int32) from by decide]
            refine y_istore X0 hx hby d13_55 (l' := (lo13_6_25 a1 p4 x0)) rfl ?_
            refine y_goto X0 hx hby (pc' := 63) d13_57 (by decide) (by decide) ?_
            refine y_goto X0 hx hby (pc' := 8) d13_63 (by decide) (by decide) ?_
            refine y_iload X0 hx hby d13_8 rfl ?_
            refine y_iload X0 hx hby d13_10 rfl ?_
            refine y_icmpYes X0 hx hby (pc' := 66) d13_12 (tlt (by decide)).2.2.1 (by decide) (by decide) ?_
            refine y_iload X0 hx hby d13_66 rfl ?_
            refine y_iconst X0 hx hby (v := (1 : Int32)) d13_68 rfl ?_
            refine y_iadd X0 hx hby d13_69 ?_
            rw [show ((0 : Int32) + (1 : Int32)) = (1 : Int32) from by decide]
            refine y_ineg X0 hx hby d13_70 ?_
            rw [show ((-(1 : Int32))) = (-1 : Int32) from by decide]
            exact retI X0 hx Bd.returns (hb hby d13_71) hr
          · show QP _ h0 n0 _ s₁.heap _
            rw [e0, show f13_6 a1 p4 k1 x0 x1 x2 x3 x4 x5 = (-1 : Int32) from by unfold f13_6; rw [if_neg hc306, if_pos hc323, if_neg hc326, if_pos hc333]]
            exact ⟨rfl, N0, rfl⟩
        · obtain ⟨fs, hr, hrun, hended, hW, hsame⟩ := X0.leave (v := some (.int (0 : Int32))) (fun h => by rw [Bd.returns] at h; cases h)
          refine ⟨_, _, pre334 _ ?_, hrun, hended, _, _, rfl, ?_, ⟨_, rfl⟩, hW, hsame.mono (by decide) (by decide)⟩
          · refine y_icmpYes X0 hx hby (pc' := 60) d13_48 (flt hc333).2.2.2 (by decide) (by decide) ?_
            refine y_iload X0 hx hby d13_60 rfl ?_
            exact retI X0 hx Bd.returns (hb hby d13_62) hr
          · show QP _ h0 n0 _ s₁.heap _
            rw [e0, show f13_6 a1 p4 k1 x0 x1 x2 x3 x4 x5 = (0 : Int32) from by unfold f13_6; rw [if_neg hc306, if_pos hc323, if_neg hc326, if_neg hc333]]
            exact ⟨rfl, N0, rfl⟩
    · obtain ⟨fs, hr, hrun, hended, hW, hsame⟩ := X0.leave (v := some (.int (2 : Int32))) (fun h => by rw [Bd.returns] at h; cases h)
      refine ⟨_, _, pre324 _ ?_, hrun, hended, _, _, rfl, ?_, ⟨_, rfl⟩, hW, hsame.mono (by decide) (by decide)⟩
      · refine y_icmpYes X0 hx hby (pc' := 60) d13_48 (flt hc323).2.2.2 (by decide) (by decide) ?_
        refine y_iload X0 hx hby d13_60 rfl ?_
        exact retI X0 hx Bd.returns (hb hby d13_62) hr
      · show QP _ h0 n0 _ s₁.heap _
        rw [e0, show f13_6 a1 p4 k1 x0 x1 x2 x3 x4 x5 = (2 : Int32) from by unfold f13_6; rw [if_neg hc306, if_neg hc323]]
        exact ⟨rfl, N0, rfl⟩
abbrev bs_6 (p4 x0 x1 x2 x3 x4 x5 : Int32) : Int32 := f13_6 (0 : Addr) p4 (0 : ClassId) x0 x1 x2 x3 x4 x5
set_option maxRecDepth 65536 in
set_option maxHeartbeats 40000000 in
theorem rm12_6 (l : Launch) (Z : State) (a0 : Array Value) (hw : HW a0 Z) (ws : List Jvm.Cond) (a1 : Addr) (p2 : Int32) (k1 : ClassId) (x0 x1 x2 x3 x4 x5 : Int32) (h0 : Heap) (n0 : Nat) (Z0 : n0 ≤ h0.size) (V_a1 : Arv Z h0 a1 k1 .int (6 : Int32) [(.int x0), (.int x1), (.int x2), (.int x3), (.int x4), (.int x5)] (.int (0 : Int32))) :
    MF l mn10 jdk_65_method_57_code 2 (some .int) ws ({ frames := 1, cells := 0, slots := 0, locals := 19 } : Room) #[(.ref a1), (.int p2)] Z h0 (QP (some (.int (bs_6 p2 x0 x1 x2 x3 x4 x5))) h0 n0) := by
  refine MetFree.of_bodySF (plainFor_of_name pn_5) hisR ?_
  intro p e s m args below meth c s₁ Bd hml0 hP hK
  obtain ⟨rfl, hZ, hh⟩ := hP
  have hx := Bd.exec
  have hby := Bd.bytes
  have hml : c.maxLocals = 2 := hml0
  have hown : s.vm.findClass "java/util/Arrays" = some m.cls := findClass_of_methodNamed Bd.named
  have hnm := (name_of_methodNamed Bd.named Bd.method).1
  have X0 : Stand p l e ({ frames := 1, cells := 0, slots := 0, locals := 19 } : Room) s m #[(.ref a1), (.int p2)] below meth c s₁ [] 0 0 := Stand.of_body Bd
  have e0 : s₁.heap = h0 := by rw [← hh, Bd.state]; rfl
  have N0 := Fr.nil n0
  have pre0 : GO p e below (s₁.setTop (mkF m 0 #[.val (.ref a1), .val (.int p2)] [])) (s₁.setTop (entryFrame m #[(.ref a1), (.int p2)] 2)) := fun t k => castTop (ef_12 m a1 p2) k
  obtain ⟨cl335, Ar335, q335, Sz335, Nn335, Hh335, Gg335⟩ := id V_a1
  obtain ⟨_, _, ⟨T336, L336, k336, n336⟩, -, X336, ⟨Lc336, hQ336, l336, y336, z336⟩, st336⟩ := Jvm.LawKit.callS X0 hx (y := mn9) hown (mvT hZ (ww hw 72 rfl)) (mvT hZ (ww hw 73 rfl)) (mvT hZ (ww hw 32 rfl)) (mvT hZ (ww hw 74 rfl)) (by decide) (backOf (W := 0) (rm13_6 l Z a0 hw [] a1 p2 k1 x0 x1 x2 x3 x4 x5 h0 n0 Z0 V_a1) hZ (ww hw 74 rfl) (ww hw 32 rfl) (by decide) (by decide)) (g := (mkF m 5 #[.val (.ref a1), .val (.int p2)] [(.int p2), (.int (6 : Int32)), (.int (0 : Int32)), (.ref a1)])) rfl (by rw [hml]; rfl) (argsL := [(.ref a1), (.int (0 : Int32)), (.int (6 : Int32)), (.int p2)]) (rest := []) (lenOf pd_3 rfl) rfl (by show 2 * 0 + _ ≤ _; exact Nat.le_of_eq rfl) (hb hby d12_5) (fun _ _ => ⟨rfl, e0, (by decide : 0 + 0 ≤ _), (by decide : 0 + 0 ≤ _)⟩)
  dsimp only [Pt.U, Pt.locs, Pt.cells, Pt.slots] at X336 l336 y336 z336 st336 hQ336
  subst l336 y336 z336
  obtain ⟨rfl, N336q, e336⟩ := hQ336
  have N336 := Fr.app N0 N336q
  obtain ⟨fs, hr, hrun, hended, hW, hsame⟩ := X336.leave (v := some (.int (bs_6 p2 x0 x1 x2 x3 x4 x5))) (fun h => by rw [Bd.returns] at h; cases h)
  refine ⟨_, _, pre0 _ ?_, hrun, hended, _, _, rfl, ?_, ⟨_, rfl⟩, hW, hsame.mono (by decide) (by decide)⟩
  · refine y_aloadN X0 hx hby d12_0 rfl rfl ?_
    refine y_iconst X0 hx hby (v := (0 : Int32)) d12_1 rfl ?_
    refine y_aloadN X0 hx hby d12_2 rfl rfl ?_
    refine X0.arraylength hx (by rw [e0]; exact Ar335.1) (State.isArrayOf_alike hZ.alike Ar335.2.1) (g := (mkF m 3 #[.val (.ref a1), .val (.int p2)] [(.ref a1), (.int (0 : Int32)), (.ref a1)])) rfl rfl (hb hby d12_3) _ ?_
    rw [len_of Sz335 Nn335]
    show Steps p.tables e below (s₁.setTop (mkF m 4 #[.val (.ref a1), .val (.int p2)] [(.int (6 : Int32)), (.int (0 : Int32)), (.ref a1)])) _
    refine y_iloadN X0 hx hby d12_4 rfl ?_
    refine st336 _ ?_
    show Steps p.tables e below (T336.setTop (mkF m 8 #[.val (.ref a1), .val (.int p2)] [(.int (bs_6 p2 x0 x1 x2 x3 x4 x5))])) _
    exact retI X336 hx Bd.returns (hb hby d12_8) hr
  · show QP _ h0 n0 _ T336.heap _
    rw [e336]
    exact ⟨rfl, N336, rfl⟩
set_option maxRecDepth 65536 in
set_option maxHeartbeats 40000000 in
theorem rm11_6 (l : Launch) (Z : State) (a0 : Array Value) (hw : HW a0 Z) (ws : List Jvm.Cond) (a1 : Addr) (p2 : Int32) (aB : Addr) (kB : ClassId) (x0 x1 x2 x3 x4 x5 : Int32) (h0 : Heap) (n0 : Nat) (Z0 : n0 ≤ h0.size) (E_a1 : Exa Z h0 a1 "com/example/hard_delay_bounds/harddelaybounds/analysis/FlowSet") (F_numbers_a1 : Fld Z h0 a1 "com/example/hard_delay_bounds/harddelaybounds/analysis/FlowSet" "numbers" "[I" (.ref aB)) (V_aB : Arv Z h0 aB kB .int (6 : Int32) [(.int x0), (.int x1), (.int x2), (.int x3), (.int x4), (.int x5)] (.int (0 : Int32))) :
    MF l mn11 prog_17_method_4_code 2 (some .int) ws ({ frames := 2, cells := 0, slots := 0, locals := 32 } : Room) #[(.ref a1), (.int p2)] Z h0 (QP (some (.int (bs_6 p2 x0 x1 x2 x3 x4 x5))) h0 n0) := by
  refine MetFree.of_bodySF (plainFor_of_name pn_6) hisR ?_
  intro p e s m args below meth c s₁ Bd hml0 hP hK
  obtain ⟨rfl, hZ, hh⟩ := hP
  have hx := Bd.exec
  have hby := Bd.bytes
  have hml : c.maxLocals = 2 := hml0
  have hown : s.vm.findClass "com/example/hard_delay_bounds/harddelaybounds/analysis/FlowSet" = some m.cls := findClass_of_methodNamed Bd.named
  have hnm := (name_of_methodNamed Bd.named Bd.method).1
  have X0 : Stand p l e ({ frames := 2, cells := 0, slots := 0, locals := 32 } : Room) s m #[(.ref a1), (.int p2)] below meth c s₁ [] 0 0 := Stand.of_body Bd
  have e0 : s₁.heap = h0 := by rw [← hh, Bd.state]; rfl
  have N0 := Fr.nil n0
  have pre0 : GO p e below (s₁.setTop (mkF m 0 #[.val (.ref a1), .val (.int p2)] [])) (s₁.setTop (entryFrame m #[(.ref a1), (.int p2)] 2)) := fun t k => castTop (ef_11 m a1 p2) k
  obtain ⟨T337, X337, e337, st337⟩ := getF X0 hx hZ hown (host := "") (Or.inl (ww hw 43 rfl)) Via.refl e0 F_numbers_a1 (g := (mkF m 1 #[.val (.ref a1), .val (.int p2)] [(.ref a1)])) rfl rfl (hb hby d11_1)
  obtain ⟨_, _, ⟨T338, L338, k338, n338⟩, -, X338, ⟨Lc338, hQ338, l338, y338, z338⟩, st338⟩ := Jvm.LawKit.callS X337 hx (y := mn10) hown (mvT hZ (ww hw 69 rfl)) (mvT hZ (ww hw 70 rfl)) (mvT hZ (ww hw 32 rfl)) (mvT hZ (ww hw 71 rfl)) (by decide) (backOf (W := 0) (rm12_6 l Z a0 hw [] aB p2 kB x0 x1 x2 x3 x4 x5 h0 n0 Z0 V_aB) hZ (ww hw 71 rfl) (ww hw 32 rfl) (by decide) (by decide)) (g := (mkF m 5 #[.val (.ref a1), .val (.int p2)] [(.int p2), (.ref aB)])) rfl (by rw [hml]; rfl) (argsL := [(.ref aB), (.int p2)]) (rest := []) (lenOf pd_4 rfl) rfl (by show 2 * 0 + _ ≤ _; exact Nat.le_of_eq rfl) (hb hby d11_5) (fun _ _ => ⟨rfl, e337, (by decide : 0 + 0 ≤ _), (by decide : 0 + 0 ≤ _)⟩)
  dsimp only [Pt.U, Pt.locs, Pt.cells, Pt.slots] at X338 l338 y338 z338 st338 hQ338
  subst l338 y338 z338
  obtain ⟨rfl, N338q, e338⟩ := hQ338
  have N338 := Fr.app N0 N338q
  obtain ⟨fs, hr, hrun, hended, hW, hsame⟩ := X338.leave (v := some (.int (bs_6 p2 x0 x1 x2 x3 x4 x5))) (fun h => by rw [Bd.returns] at h; cases h)
  refine ⟨_, _, pre0 _ ?_, hrun, hended, _, _, rfl, ?_, ⟨_, rfl⟩, hW, hsame.mono (by decide) (by decide)⟩
  · refine y_aloadN X0 hx hby d11_0 rfl rfl ?_
    refine st337 _ ?_
    show Steps p.tables e below (T337.setTop (mkF m 4 #[.val (.ref a1), .val (.int p2)] [(.ref aB)])) _
    refine y_iloadN X337 hx hby d11_4 rfl ?_
    refine st338 _ ?_
    show Steps p.tables e below (T338.setTop (mkF m 8 #[.val (.ref a1), .val (.int p2)] [(.int (bs_6 p2 x0 x1 x2 x3 x4 x5))])) _
    exact retI X338 hx Bd.returns (hb hby d11_8) hr
  · show QP _ h0 n0 _ T338.heap _
    rw [e338]
    exact ⟨rfl, N338, rfl⟩
def f10_6 (a1 : Addr) (p2 : Int32) (aB : Addr) (kB : ClassId) (x0 x1 x2 x3 x4 x5 : Int32) : Int32 := (if (bs_6 p2 x0 x1 x2 x3 x4 x5) < (0 : Int32) then (0 : Int32) else (1 : Int32))
set_option maxRecDepth 65536 in
set_option maxHeartbeats 40000000 in
theorem rm10_6 (l : Launch) (Z : State) (a0 : Array Value) (hw : HW a0 Z) (ws : List Jvm.Cond) (a1 : Addr) (p2 : Int32) (aB : Addr) (kB : ClassId) (x0 x1 x2 x3 x4 x5 : Int32) (h0 : Heap) (n0 : Nat) (Z0 : n0 ≤ h0.size) (E_a1 : Exa Z h0 a1 "com/example/hard_delay_bounds/harddelaybounds/analysis/FlowSet") (F_numbers_a1 : Fld Z h0 a1 "com/example/hard_delay_bounds/harddelaybounds/analysis/FlowSet" "numbers" "[I" (.ref aB)) (V_aB : Arv Z h0 aB kB .int (6 : Int32) [(.int x0), (.int x1), (.int x2), (.int x3), (.int x4), (.int x5)] (.int (0 : Int32))) :
    MF l mn12 prog_17_method_5_code 2 (some .boolean) ws ({ frames := 3, cells := 0, slots := 0, locals := 45 } : Room) #[(.ref a1), (.int p2)] Z h0 (QP (some (.int (f10_6 a1 p2 aB kB x0 x1 x2 x3 x4 x5))) h0 n0) := by
  refine MetFree.of_bodySF (plainFor_of_name pn_6) hisR ?_
  intro p e s m args below meth c s₁ Bd hml0 hP hK
  obtain ⟨rfl, hZ, hh⟩ := hP
  have hx := Bd.exec
  have hby := Bd.bytes
  have hml : c.maxLocals = 2 := hml0
  have hown : s.vm.findClass "com/example/hard_delay_bounds/harddelaybounds/analysis/FlowSet" = some m.cls := findClass_of_methodNamed Bd.named
  have hnm := (name_of_methodNamed Bd.named Bd.method).1
  have X0 : Stand p l e ({ frames := 3, cells := 0, slots := 0, locals := 45 } : Room) s m #[(.ref a1), (.int p2)] below meth c s₁ [] 0 0 := Stand.of_body Bd
  have e0 : s₁.heap = h0 := by rw [← hh, Bd.state]; rfl
  have N0 := Fr.nil n0
  have pre0 : GO p e below (s₁.setTop (mkF m 0 #[.val (.ref a1), .val (.int p2)] [])) (s₁.setTop (entryFrame m #[(.ref a1), (.int p2)] 2)) := fun t k => castTop (ef_10 m a1 p2) k
  obtain ⟨cq339, kq339, q339a, q339b, q339c⟩ := isOf hZ e0 E_a1
  obtain ⟨_, _, ⟨T339, L339, k339, n339⟩, -, X339, ⟨Lc339, hQ339, l339, y339, z339⟩, st339⟩ := X0.virtualBack hx (y := mn11) (z := mn11) hown (mvT hZ (ww hw 64 rfl)) (mvT hZ (ww hw 65 rfl)) (notFace_of_selects (args := #[]) (mvT hZ (ww hw 67 rfl))) (mvT hZ (ww hw 67 rfl)) (mvT hZ (ww hw 66 rfl)) (by decide) (backOf (W := 0) (rm11_6 l Z a0 hw [] a1 p2 aB kB x0 x1 x2 x3 x4 x5 h0 n0 Z0 E_a1 F_numbers_a1 V_aB) hZ (ww hw 68 rfl) (ww hw 27 rfl) (by decide) (by decide)) q339a q339c (g := (mkF m 2 #[.val (.ref a1), .val (.int p2)] [(.int p2), (.ref a1)])) rfl (by rw [hml]; rfl) (Steps.refl _) (argsL := [(.int p2)]) (rest := []) (lenOf pd_5 rfl) rfl (by show 2 * 0 + _ ≤ _; exact Nat.le_of_eq rfl) (hb hby d10_2) (fun _ _ => ⟨rfl, e0, (by decide : 0 + 0 ≤ _), (by decide : 0 + 0 ≤ _)⟩)
  dsimp only [Pt.U, Pt.locs, Pt.cells, Pt.slots] at X339 l339 y339 z339 st339 hQ339
  subst l339 y339 z339
  obtain ⟨rfl, N339q, e339⟩ := hQ339
  have N339 := Fr.app N0 N339q
  have pre341 : GO p e below (T339.setTop (mkF m 5 #[.val (.ref a1), .val (.int p2)] [(.int (bs_6 p2 x0 x1 x2 x3 x4 x5))])) (s₁.setTop (entryFrame m #[(.ref a1), (.int p2)] 2)) := fun t k => by
    refine pre0 _ ?_
    refine y_aloadN X0 hx hby d10_0 rfl rfl ?_
    refine y_iloadN X0 hx hby d10_1 rfl ?_
    refine st339.trans ?_
    show Steps p.tables e below (T339.setTop (mkF m 5 #[.val (.ref a1), .val (.int p2)] [(.int (bs_6 p2 x0 x1 x2 x3 x4 x5))])) _
    exact k
  by_cases hc340 : (bs_6 p2 x0 x1 x2 x3 x4 x5) < (0 : Int32)
  · obtain ⟨fs, hr, hrun, hended, hW, hsame⟩ := X339.leave (v := some (.int (0 : Int32))) (fun h => by rw [Bd.returns] at h; cases h)
    refine ⟨_, _, pre341 _ ?_, hrun, hended, _, _, rfl, ?_, ⟨_, rfl⟩, hW, hsame.mono (by decide) (by decide)⟩
    · refine y_ifYes X339 hx hby (pc' := 12) d10_5 ((if0 _ _).trans (tlt hc340).1) (by decide) (by decide) ?_
      refine y_iconst X339 hx hby (v := (0 : Int32)) d10_12 rfl ?_
      exact retN X339 hx (t := .boolean) Bd.returns (by simp) (hb hby d10_13) hr
    · show QP _ h0 n0 _ T339.heap _
      rw [e339, show f10_6 a1 p2 aB kB x0 x1 x2 x3 x4 x5 = (0 : Int32) from by unfold f10_6; rw [if_pos hc340]]
      exact ⟨rfl, N339, rfl⟩
  · obtain ⟨fs, hr, hrun, hended, hW, hsame⟩ := X339.leave (v := some (.int (1 : Int32))) (fun h => by rw [Bd.returns] at h; cases h)
    refine ⟨_, _, pre341 _ ?_, hrun, hended, _, _, rfl, ?_, ⟨_, rfl⟩, hW, hsame.mono (by decide) (by decide)⟩
    · refine y_ifNo X339 hx hby d10_5 ((if0 _ _).trans (flt hc340).1) ?_
      refine y_iconst X339 hx hby (v := (1 : Int32)) d10_8 rfl ?_
      refine y_goto X339 hx hby (pc' := 13) d10_9 (by decide) (by decide) ?_
      exact retN X339 hx (t := .boolean) Bd.returns (by simp) (hb hby d10_13) hr
    · show QP _ h0 n0 _ T339.heap _
      rw [e339, show f10_6 a1 p2 aB kB x0 x1 x2 x3 x4 x5 = (1 : Int32) from by unfold f10_6; rw [if_neg hc340]]
      exact ⟨rfl, N339, rfl⟩
abbrev ct_6 (p2 x0 x1 x2 x3 x4 x5 : Int32) : Int32 := f10_6 (0 : Addr) p2 (0 : Addr) (0 : ClassId) x0 x1 x2 x3 x4 x5
def nu_6 (p2 x0 x1 x2 x3 x4 x5 : Int32) : Int32 := if p2 = (0 : Int32) then x0 else if p2 = (1 : Int32) then x1 else if p2 = (2 : Int32) then x2 else if p2 = (3 : Int32) then x3 else if p2 = (4 : Int32) then x4 else x5
theorem own_nuget_6 {p2 x0 x1 x2 x3 x4 x5 : Int32} (hp : p2 = (0 : Int32) ∨ p2 = (1 : Int32) ∨ p2 = (2 : Int32) ∨ p2 = (3 : Int32) ∨ p2 = (4 : Int32) ∨ p2 = (5 : Int32)) : ¬ p2 < 0 ∧ p2 < (6 : Int32) ∧ ([(.int x0), (.int x1), (.int x2), (.int x3), (.int x4), (.int x5)] : List Value).getD p2.toNatClampNeg (.int (0 : Int32)) = .int (nu_6 p2 x0 x1 x2 x3 x4 x5) := by
  rcases hp with rfl | rfl | rfl | rfl | rfl | rfl <;> exact ⟨by decide, by decide, rfl⟩
theorem own_cast {a b : Int64} (h1 : -2147483648 ≤ a.toInt) (h2 : a.toInt < b.toInt) (h3 : b.toInt ≤ 2147483647) : a.toInt32 < b.toInt32 := by
  have q1 := c_l2i a
  have q2 := c_l2i b
  have r1 := rng32 a.toInt32
  have r2 := rng32 b.toInt32
  rw [Int32.lt_iff_toInt_lt]
  omega
theorem own_inj {a b : Int64} (h1 : -2147483648 ≤ a.toInt) (h2 : a.toInt ≤ 2147483647) (h3 : -2147483648 ≤ b.toInt) (h4 : b.toInt ≤ 2147483647) : (a.toInt32 = b.toInt32) = (a = b) := by
  have q1 := c_l2i a
  have q2 := c_l2i b
  have r1 := rng32 a.toInt32
  have r2 := rng32 b.toInt32
  rw [← Int32.toInt_inj, ← Int64.toInt_inj]
  apply propext
  omega
theorem own_and (x : Int32) : 0 ≤ (x &&& (255 : Int32)).toInt := by
  have : (x &&& 255).toInt = x.toInt % (2 ^ 8 : Nat) := c_mask x _ 8 (by decide) (by decide)
  omega
theorem own_next {x : Int64} {d : Int32} {K J : Int} (h1 : -2147483648 ≤ x.toInt) (h2 : x.toInt ≤ K) (h3 : 0 ≤ d.toInt) (h4 : d.toInt ≤ J) (h5 : K + 1 + J < 9223372036854775808) : x.toInt < (x + 1 + d.toInt64).toInt ∧ (x + 1 + d.toInt64).toInt ≤ K + 1 + J := by
  have a1 := c_ladd x 1
  have a2 := c_ladd (x + 1) d.toInt64
  have a3 := c_i2l d
  have e1 : (1 : Int64).toInt = 1 := by decide
  have r1 := rng64 (x + 1)
  have r2 := rng64 (x + 1 + d.toInt64)
  have r3 := rng64 x
  omega
theorem own_m16 (x : Int32) : 0 ≤ (x &&& (65535 : Int32)).toInt ∧ (x &&& (65535 : Int32)).toInt ≤ 65535 := by
  have : (x &&& 65535).toInt = x.toInt % (2 ^ 16 : Nat) := c_mask x _ 16 (by decide) (by decide)
  omega
theorem own_u16 (x : Int32) : 0 ≤ ((x.toUInt32 >>> ((16 : Int32) &&& 31).toUInt32).toInt32).toInt ∧ ((x.toUInt32 >>> ((16 : Int32) &&& 31).toUInt32).toInt32).toInt ≤ 65535 := by
  have h := c_iushr x 16 16 (by decide) (by decide)
  have r := rng32 x
  omega
theorem own_m31 (x : Int32) : 0 ≤ (x &&& (2147483647 : Int32)).toInt ∧ (x &&& (2147483647 : Int32)).toInt ≤ 2147483647 := by
  have : (x &&& 2147483647).toInt = x.toInt % (2 ^ 31 : Nat) := c_mask x _ 31 (by decide) (by decide)
  omega
theorem own_fix0 {zc : Int32} {z0 z1 z2 z3 z4 z5 : Int64} (h : zc = (0 : Int32) ∨ (zc = (1 : Int32) ∧ z0.toInt ≤ 2147483647) ∨ (zc = (2 : Int32) ∧ z1.toInt ≤ 2147483647) ∨ (zc = (3 : Int32) ∧ z2.toInt ≤ 2147483647) ∨ (zc = (4 : Int32) ∧ z3.toInt ≤ 2147483647) ∨ (zc = (5 : Int32) ∧ z4.toInt ≤ 2147483647) ∨ (zc = (6 : Int32) ∧ z5.toInt ≤ 2147483647))  (h2 : ¬ (0 : Int32) < zc) : zc = (0 : Int32) := by
  rcases h with hm | ⟨hm, hi⟩ | ⟨hm, hi⟩ | ⟨hm, hi⟩ | ⟨hm, hi⟩ | ⟨hm, hi⟩ | ⟨hm, hi⟩
  all_goals first | (subst hm; first | exact absurd h1 (by decide) | exact absurd h2 (by decide)) | exact hm
theorem own_hi0 {zc : Int32} {z0 z1 z2 z3 z4 z5 : Int64} (h : zc = (0 : Int32) ∨ (zc = (1 : Int32) ∧ z0.toInt ≤ 2147483647) ∨ (zc = (2 : Int32) ∧ z1.toInt ≤ 2147483647) ∨ (zc = (3 : Int32) ∧ z2.toInt ≤ 2147483647) ∨ (zc = (4 : Int32) ∧ z3.toInt ≤ 2147483647) ∨ (zc = (5 : Int32) ∧ z4.toInt ≤ 2147483647) ∨ (zc = (6 : Int32) ∧ z5.toInt ≤ 2147483647)) (h1 : (0 : Int32) < zc) (o1 : z0.toInt < z1.toInt) (o2 : z1.toInt < z2.toInt) (o3 : z2.toInt < z3.toInt) (o4 : z3.toInt < z4.toInt) (o5 : z4.toInt < z5.toInt) : z0.toInt ≤ 2147483647 := by
  rcases h with hm | ⟨hm, hi⟩ | ⟨hm, hi⟩ | ⟨hm, hi⟩ | ⟨hm, hi⟩ | ⟨hm, hi⟩ | ⟨hm, hi⟩
  all_goals first | omega | (subst hm; exact absurd h1 (by decide))
theorem own_fix1 {zc : Int32} {z0 z1 z2 z3 z4 z5 : Int64} (h : zc = (0 : Int32) ∨ (zc = (1 : Int32) ∧ z0.toInt ≤ 2147483647) ∨ (zc = (2 : Int32) ∧ z1.toInt ≤ 2147483647) ∨ (zc = (3 : Int32) ∧ z2.toInt ≤ 2147483647) ∨ (zc = (4 : Int32) ∧ z3.toInt ≤ 2147483647) ∨ (zc = (5 : Int32) ∧ z4.toInt ≤ 2147483647) ∨ (zc = (6 : Int32) ∧ z5.toInt ≤ 2147483647)) (h1 : (0 : Int32) < zc) (h2 : ¬ (1 : Int32) < zc) : zc = (1 : Int32) ∧ z0.toInt ≤ 2147483647 := by
  rcases h with hm | ⟨hm, hi⟩ | ⟨hm, hi⟩ | ⟨hm, hi⟩ | ⟨hm, hi⟩ | ⟨hm, hi⟩ | ⟨hm, hi⟩
  all_goals first | (subst hm; first | exact absurd h1 (by decide) | exact absurd h2 (by decide)) | exact ⟨hm, hi⟩
theorem own_hi1 {zc : Int32} {z0 z1 z2 z3 z4 z5 : Int64} (h : zc = (0 : Int32) ∨ (zc = (1 : Int32) ∧ z0.toInt ≤ 2147483647) ∨ (zc = (2 : Int32) ∧ z1.toInt ≤ 2147483647) ∨ (zc = (3 : Int32) ∧ z2.toInt ≤ 2147483647) ∨ (zc = (4 : Int32) ∧ z3.toInt ≤ 2147483647) ∨ (zc = (5 : Int32) ∧ z4.toInt ≤ 2147483647) ∨ (zc = (6 : Int32) ∧ z5.toInt ≤ 2147483647)) (h1 : (1 : Int32) < zc) (o1 : z0.toInt < z1.toInt) (o2 : z1.toInt < z2.toInt) (o3 : z2.toInt < z3.toInt) (o4 : z3.toInt < z4.toInt) (o5 : z4.toInt < z5.toInt) : z1.toInt ≤ 2147483647 := by
  rcases h with hm | ⟨hm, hi⟩ | ⟨hm, hi⟩ | ⟨hm, hi⟩ | ⟨hm, hi⟩ | ⟨hm, hi⟩ | ⟨hm, hi⟩
  all_goals first | omega | (subst hm; exact absurd h1 (by decide))
theorem own_fix2 {zc : Int32} {z0 z1 z2 z3 z4 z5 : Int64} (h : zc = (0 : Int32) ∨ (zc = (1 : Int32) ∧ z0.toInt ≤ 2147483647) ∨ (zc = (2 : Int32) ∧ z1.toInt ≤ 2147483647) ∨ (zc = (3 : Int32) ∧ z2.toInt ≤ 2147483647) ∨ (zc = (4 : Int32) ∧ z3.toInt ≤ 2147483647) ∨ (zc = (5 : Int32) ∧ z4.toInt ≤ 2147483647) ∨ (zc = (6 : Int32) ∧ z5.toInt ≤ 2147483647)) (h1 : (1 : Int32) < zc) (h2 : ¬ (2 : Int32) < zc) : zc = (2 : Int32) ∧ z1.toInt ≤ 2147483647 := by
  rcases h with hm | ⟨hm, hi⟩ | ⟨hm, hi⟩ | ⟨hm, hi⟩ | ⟨hm, hi⟩ | ⟨hm, hi⟩ | ⟨hm, hi⟩
  all_goals first | (subst hm; first | exact absurd h1 (by decide) | exact absurd h2 (by decide)) | exact ⟨hm, hi⟩
theorem own_hi2 {zc : Int32} {z0 z1 z2 z3 z4 z5 : Int64} (h : zc = (0 : Int32) ∨ (zc = (1 : Int32) ∧ z0.toInt ≤ 2147483647) ∨ (zc = (2 : Int32) ∧ z1.toInt ≤ 2147483647) ∨ (zc = (3 : Int32) ∧ z2.toInt ≤ 2147483647) ∨ (zc = (4 : Int32) ∧ z3.toInt ≤ 2147483647) ∨ (zc = (5 : Int32) ∧ z4.toInt ≤ 2147483647) ∨ (zc = (6 : Int32) ∧ z5.toInt ≤ 2147483647)) (h1 : (2 : Int32) < zc) (o1 : z0.toInt < z1.toInt) (o2 : z1.toInt < z2.toInt) (o3 : z2.toInt < z3.toInt) (o4 : z3.toInt < z4.toInt) (o5 : z4.toInt < z5.toInt) : z2.toInt ≤ 2147483647 := by
  rcases h with hm | ⟨hm, hi⟩ | ⟨hm, hi⟩ | ⟨hm, hi⟩ | ⟨hm, hi⟩ | ⟨hm, hi⟩ | ⟨hm, hi⟩
  all_goals first | omega | (subst hm; exact absurd h1 (by decide))
theorem own_fix3 {zc : Int32} {z0 z1 z2 z3 z4 z5 : Int64} (h : zc = (0 : Int32) ∨ (zc = (1 : Int32) ∧ z0.toInt ≤ 2147483647) ∨ (zc = (2 : Int32) ∧ z1.toInt ≤ 2147483647) ∨ (zc = (3 : Int32) ∧ z2.toInt ≤ 2147483647) ∨ (zc = (4 : Int32) ∧ z3.toInt ≤ 2147483647) ∨ (zc = (5 : Int32) ∧ z4.toInt ≤ 2147483647) ∨ (zc = (6 : Int32) ∧ z5.toInt ≤ 2147483647)) (h1 : (2 : Int32) < zc) (h2 : ¬ (3 : Int32) < zc) : zc = (3 : Int32) ∧ z2.toInt ≤ 2147483647 := by
  rcases h with hm | ⟨hm, hi⟩ | ⟨hm, hi⟩ | ⟨hm, hi⟩ | ⟨hm, hi⟩ | ⟨hm, hi⟩ | ⟨hm, hi⟩
  all_goals first | (subst hm; first | exact absurd h1 (by decide) | exact absurd h2 (by decide)) | exact ⟨hm, hi⟩
theorem own_hi3 {zc : Int32} {z0 z1 z2 z3 z4 z5 : Int64} (h : zc = (0 : Int32) ∨ (zc = (1 : Int32) ∧ z0.toInt ≤ 2147483647) ∨ (zc = (2 : Int32) ∧ z1.toInt ≤ 2147483647) ∨ (zc = (3 : Int32) ∧ z2.toInt ≤ 2147483647) ∨ (zc = (4 : Int32) ∧ z3.toInt ≤ 2147483647) ∨ (zc = (5 : Int32) ∧ z4.toInt ≤ 2147483647) ∨ (zc = (6 : Int32) ∧ z5.toInt ≤ 2147483647)) (h1 : (3 : Int32) < zc) (o1 : z0.toInt < z1.toInt) (o2 : z1.toInt < z2.toInt) (o3 : z2.toInt < z3.toInt) (o4 : z3.toInt < z4.toInt) (o5 : z4.toInt < z5.toInt) : z3.toInt ≤ 2147483647 := by
  rcases h with hm | ⟨hm, hi⟩ | ⟨hm, hi⟩ | ⟨hm, hi⟩ | ⟨hm, hi⟩ | ⟨hm, hi⟩ | ⟨hm, hi⟩
  all_goals first | omega | (subst hm; exact absurd h1 (by decide))
theorem own_fix4 {zc : Int32} {z0 z1 z2 z3 z4 z5 : Int64} (h : zc = (0 : Int32) ∨ (zc = (1 : Int32) ∧ z0.toInt ≤ 2147483647) ∨ (zc = (2 : Int32) ∧ z1.toInt ≤ 2147483647) ∨ (zc = (3 : Int32) ∧ z2.toInt ≤ 2147483647) ∨ (zc = (4 : Int32) ∧ z3.toInt ≤ 2147483647) ∨ (zc = (5 : Int32) ∧ z4.toInt ≤ 2147483647) ∨ (zc = (6 : Int32) ∧ z5.toInt ≤ 2147483647)) (h1 : (3 : Int32) < zc) (h2 : ¬ (4 : Int32) < zc) : zc = (4 : Int32) ∧ z3.toInt ≤ 2147483647 := by
  rcases h with hm | ⟨hm, hi⟩ | ⟨hm, hi⟩ | ⟨hm, hi⟩ | ⟨hm, hi⟩ | ⟨hm, hi⟩ | ⟨hm, hi⟩
  all_goals first | (subst hm; first | exact absurd h1 (by decide) | exact absurd h2 (by decide)) | exact ⟨hm, hi⟩
theorem own_hi4 {zc : Int32} {z0 z1 z2 z3 z4 z5 : Int64} (h : zc = (0 : Int32) ∨ (zc = (1 : Int32) ∧ z0.toInt ≤ 2147483647) ∨ (zc = (2 : Int32) ∧ z1.toInt ≤ 2147483647) ∨ (zc = (3 : Int32) ∧ z2.toInt ≤ 2147483647) ∨ (zc = (4 : Int32) ∧ z3.toInt ≤ 2147483647) ∨ (zc = (5 : Int32) ∧ z4.toInt ≤ 2147483647) ∨ (zc = (6 : Int32) ∧ z5.toInt ≤ 2147483647)) (h1 : (4 : Int32) < zc) (o1 : z0.toInt < z1.toInt) (o2 : z1.toInt < z2.toInt) (o3 : z2.toInt < z3.toInt) (o4 : z3.toInt < z4.toInt) (o5 : z4.toInt < z5.toInt) : z4.toInt ≤ 2147483647 := by
  rcases h with hm | ⟨hm, hi⟩ | ⟨hm, hi⟩ | ⟨hm, hi⟩ | ⟨hm, hi⟩ | ⟨hm, hi⟩ | ⟨hm, hi⟩
  all_goals first | omega | (subst hm; exact absurd h1 (by decide))
theorem own_fix5 {zc : Int32} {z0 z1 z2 z3 z4 z5 : Int64} (h : zc = (0 : Int32) ∨ (zc = (1 : Int32) ∧ z0.toInt ≤ 2147483647) ∨ (zc = (2 : Int32) ∧ z1.toInt ≤ 2147483647) ∨ (zc = (3 : Int32) ∧ z2.toInt ≤ 2147483647) ∨ (zc = (4 : Int32) ∧ z3.toInt ≤ 2147483647) ∨ (zc = (5 : Int32) ∧ z4.toInt ≤ 2147483647) ∨ (zc = (6 : Int32) ∧ z5.toInt ≤ 2147483647)) (h1 : (4 : Int32) < zc) (h2 : ¬ (5 : Int32) < zc) : zc = (5 : Int32) ∧ z4.toInt ≤ 2147483647 := by
  rcases h with hm | ⟨hm, hi⟩ | ⟨hm, hi⟩ | ⟨hm, hi⟩ | ⟨hm, hi⟩ | ⟨hm, hi⟩ | ⟨hm, hi⟩
  all_goals first | (subst hm; first | exact absurd h1 (by decide) | exact absurd h2 (by decide)) | exact ⟨hm, hi⟩
theorem own_hi5 {zc : Int32} {z0 z1 z2 z3 z4 z5 : Int64} (h : zc = (0 : Int32) ∨ (zc = (1 : Int32) ∧ z0.toInt ≤ 2147483647) ∨ (zc = (2 : Int32) ∧ z1.toInt ≤ 2147483647) ∨ (zc = (3 : Int32) ∧ z2.toInt ≤ 2147483647) ∨ (zc = (4 : Int32) ∧ z3.toInt ≤ 2147483647) ∨ (zc = (5 : Int32) ∧ z4.toInt ≤ 2147483647) ∨ (zc = (6 : Int32) ∧ z5.toInt ≤ 2147483647)) (h1 : (5 : Int32) < zc) (o1 : z0.toInt < z1.toInt) (o2 : z1.toInt < z2.toInt) (o3 : z2.toInt < z3.toInt) (o4 : z3.toInt < z4.toInt) (o5 : z4.toInt < z5.toInt) : z5.toInt ≤ 2147483647 := by
  rcases h with hm | ⟨hm, hi⟩ | ⟨hm, hi⟩ | ⟨hm, hi⟩ | ⟨hm, hi⟩ | ⟨hm, hi⟩ | ⟨hm, hi⟩
  all_goals first | omega | (subst hm; exact absurd h1 (by decide))
theorem own_fix6 {zc : Int32} {z0 z1 z2 z3 z4 z5 : Int64} (h : zc = (0 : Int32) ∨ (zc = (1 : Int32) ∧ z0.toInt ≤ 2147483647) ∨ (zc = (2 : Int32) ∧ z1.toInt ≤ 2147483647) ∨ (zc = (3 : Int32) ∧ z2.toInt ≤ 2147483647) ∨ (zc = (4 : Int32) ∧ z3.toInt ≤ 2147483647) ∨ (zc = (5 : Int32) ∧ z4.toInt ≤ 2147483647) ∨ (zc = (6 : Int32) ∧ z5.toInt ≤ 2147483647)) (h1 : (5 : Int32) < zc)  : zc = (6 : Int32) ∧ z5.toInt ≤ 2147483647 := by
  rcases h with hm | ⟨hm, hi⟩ | ⟨hm, hi⟩ | ⟨hm, hi⟩ | ⟨hm, hi⟩ | ⟨hm, hi⟩ | ⟨hm, hi⟩
  all_goals first | (subst hm; first | exact absurd h1 (by decide) | exact absurd h2 (by decide)) | exact ⟨hm, hi⟩
theorem own_rem1 (y : Int32) (hy : 0 ≤ y.toInt) : y % (1 : Int32) = (0 : Int32) := by
  have h := c_irem y 1 1 (by decide)
  simp only [← Int32.toInt_inj]
  have e0 : (0 : Int32).toInt = 0 := by decide
  omega
theorem own_nup1 (i : Int32) (z0 z1 z2 z3 z4 z5 : Int64) (hp : i = (0 : Int32)) : nu_1 i (z0.toInt32) = (f9 i z0 z1 z2 z3 z4 z5).toInt32 := by
  rcases hp with rfl <;> rfl
theorem own_prn1 (i : Int32) (z0 z1 z2 z3 z4 z5 : Int64) (hp : i = (0 : Int32)) (lo : -2147483648 ≤ z0.toInt)  (hi : z0.toInt ≤ 2147483647) : -2147483648 ≤ (f9 i z0 z1 z2 z3 z4 z5).toInt ∧ (f9 i z0 z1 z2 z3 z4 z5).toInt ≤ 2147483647 := by
  rcases hp with rfl
  · show -2147483648 ≤ z0.toInt ∧ z0.toInt ≤ 2147483647
    omega
theorem own_rem2 (y : Int32) (hy : 0 ≤ y.toInt) : y % (2 : Int32) = (0 : Int32) ∨ y % (2 : Int32) = (1 : Int32) := by
  have h := c_irem y 2 2 (by decide)
  simp only [← Int32.toInt_inj]
  have e0 : (0 : Int32).toInt = 0 := by decide
  have e1 : (1 : Int32).toInt = 1 := by decide
  omega
theorem own_nup2 (i : Int32) (z0 z1 z2 z3 z4 z5 : Int64) (hp : i = (0 : Int32) ∨ i = (1 : Int32)) : nu_2 i (z0.toInt32) (z1.toInt32) = (f9 i z0 z1 z2 z3 z4 z5).toInt32 := by
  rcases hp with rfl | rfl <;> rfl
theorem own_prn2 (i : Int32) (z0 z1 z2 z3 z4 z5 : Int64) (hp : i = (0 : Int32) ∨ i = (1 : Int32)) (lo : -2147483648 ≤ z0.toInt) (o1 : z0.toInt < z1.toInt) (hi : z1.toInt ≤ 2147483647) : -2147483648 ≤ (f9 i z0 z1 z2 z3 z4 z5).toInt ∧ (f9 i z0 z1 z2 z3 z4 z5).toInt ≤ 2147483647 := by
  rcases hp with rfl | rfl
  · show -2147483648 ≤ z0.toInt ∧ z0.toInt ≤ 2147483647
    omega
  · show -2147483648 ≤ z1.toInt ∧ z1.toInt ≤ 2147483647
    omega
theorem own_rem3 (y : Int32) (hy : 0 ≤ y.toInt) : y % (3 : Int32) = (0 : Int32) ∨ y % (3 : Int32) = (1 : Int32) ∨ y % (3 : Int32) = (2 : Int32) := by
  have h := c_irem y 3 3 (by decide)
  simp only [← Int32.toInt_inj]
  have e0 : (0 : Int32).toInt = 0 := by decide
  have e1 : (1 : Int32).toInt = 1 := by decide
  have e2 : (2 : Int32).toInt = 2 := by decide
  omega
theorem own_nup3 (i : Int32) (z0 z1 z2 z3 z4 z5 : Int64) (hp : i = (0 : Int32) ∨ i = (1 : Int32) ∨ i = (2 : Int32)) : nu_3 i (z0.toInt32) (z1.toInt32) (z2.toInt32) = (f9 i z0 z1 z2 z3 z4 z5).toInt32 := by
  rcases hp with rfl | rfl | rfl <;> rfl
theorem own_prn3 (i : Int32) (z0 z1 z2 z3 z4 z5 : Int64) (hp : i = (0 : Int32) ∨ i = (1 : Int32) ∨ i = (2 : Int32)) (lo : -2147483648 ≤ z0.toInt) (o1 : z0.toInt < z1.toInt) (o2 : z1.toInt < z2.toInt) (hi : z2.toInt ≤ 2147483647) : -2147483648 ≤ (f9 i z0 z1 z2 z3 z4 z5).toInt ∧ (f9 i z0 z1 z2 z3 z4 z5).toInt ≤ 2147483647 := by
  rcases hp with rfl | rfl | rfl
  · show -2147483648 ≤ z0.toInt ∧ z0.toInt ≤ 2147483647
    omega
  · show -2147483648 ≤ z1.toInt ∧ z1.toInt ≤ 2147483647
    omega
  · show -2147483648 ≤ z2.toInt ∧ z2.toInt ≤ 2147483647
    omega
theorem own_rem4 (y : Int32) (hy : 0 ≤ y.toInt) : y % (4 : Int32) = (0 : Int32) ∨ y % (4 : Int32) = (1 : Int32) ∨ y % (4 : Int32) = (2 : Int32) ∨ y % (4 : Int32) = (3 : Int32) := by
  have h := c_irem y 4 4 (by decide)
  simp only [← Int32.toInt_inj]
  have e0 : (0 : Int32).toInt = 0 := by decide
  have e1 : (1 : Int32).toInt = 1 := by decide
  have e2 : (2 : Int32).toInt = 2 := by decide
  have e3 : (3 : Int32).toInt = 3 := by decide
  omega
theorem own_nup4 (i : Int32) (z0 z1 z2 z3 z4 z5 : Int64) (hp : i = (0 : Int32) ∨ i = (1 : Int32) ∨ i = (2 : Int32) ∨ i = (3 : Int32)) : nu_4 i (z0.toInt32) (z1.toInt32) (z2.toInt32) (z3.toInt32) = (f9 i z0 z1 z2 z3 z4 z5).toInt32 := by
  rcases hp with rfl | rfl | rfl | rfl <;> rfl
theorem own_prn4 (i : Int32) (z0 z1 z2 z3 z4 z5 : Int64) (hp : i = (0 : Int32) ∨ i = (1 : Int32) ∨ i = (2 : Int32) ∨ i = (3 : Int32)) (lo : -2147483648 ≤ z0.toInt) (o1 : z0.toInt < z1.toInt) (o2 : z1.toInt < z2.toInt) (o3 : z2.toInt < z3.toInt) (hi : z3.toInt ≤ 2147483647) : -2147483648 ≤ (f9 i z0 z1 z2 z3 z4 z5).toInt ∧ (f9 i z0 z1 z2 z3 z4 z5).toInt ≤ 2147483647 := by
  rcases hp with rfl | rfl | rfl | rfl
  · show -2147483648 ≤ z0.toInt ∧ z0.toInt ≤ 2147483647
    omega
  · show -2147483648 ≤ z1.toInt ∧ z1.toInt ≤ 2147483647
    omega
  · show -2147483648 ≤ z2.toInt ∧ z2.toInt ≤ 2147483647
    omega
  · show -2147483648 ≤ z3.toInt ∧ z3.toInt ≤ 2147483647
    omega
theorem own_rem5 (y : Int32) (hy : 0 ≤ y.toInt) : y % (5 : Int32) = (0 : Int32) ∨ y % (5 : Int32) = (1 : Int32) ∨ y % (5 : Int32) = (2 : Int32) ∨ y % (5 : Int32) = (3 : Int32) ∨ y % (5 : Int32) = (4 : Int32) := by
  have h := c_irem y 5 5 (by decide)
  simp only [← Int32.toInt_inj]
  have e0 : (0 : Int32).toInt = 0 := by decide
  have e1 : (1 : Int32).toInt = 1 := by decide
  have e2 : (2 : Int32).toInt = 2 := by decide
  have e3 : (3 : Int32).toInt = 3 := by decide
  have e4 : (4 : Int32).toInt = 4 := by decide
  omega
theorem own_nup5 (i : Int32) (z0 z1 z2 z3 z4 z5 : Int64) (hp : i = (0 : Int32) ∨ i = (1 : Int32) ∨ i = (2 : Int32) ∨ i = (3 : Int32) ∨ i = (4 : Int32)) : nu_5 i (z0.toInt32) (z1.toInt32) (z2.toInt32) (z3.toInt32) (z4.toInt32) = (f9 i z0 z1 z2 z3 z4 z5).toInt32 := by
  rcases hp with rfl | rfl | rfl | rfl | rfl <;> rfl
theorem own_prn5 (i : Int32) (z0 z1 z2 z3 z4 z5 : Int64) (hp : i = (0 : Int32) ∨ i = (1 : Int32) ∨ i = (2 : Int32) ∨ i = (3 : Int32) ∨ i = (4 : Int32)) (lo : -2147483648 ≤ z0.toInt) (o1 : z0.toInt < z1.toInt) (o2 : z1.toInt < z2.toInt) (o3 : z2.toInt < z3.toInt) (o4 : z3.toInt < z4.toInt) (hi : z4.toInt ≤ 2147483647) : -2147483648 ≤ (f9 i z0 z1 z2 z3 z4 z5).toInt ∧ (f9 i z0 z1 z2 z3 z4 z5).toInt ≤ 2147483647 := by
  rcases hp with rfl | rfl | rfl | rfl | rfl
  · show -2147483648 ≤ z0.toInt ∧ z0.toInt ≤ 2147483647
    omega
  · show -2147483648 ≤ z1.toInt ∧ z1.toInt ≤ 2147483647
    omega
  · show -2147483648 ≤ z2.toInt ∧ z2.toInt ≤ 2147483647
    omega
  · show -2147483648 ≤ z3.toInt ∧ z3.toInt ≤ 2147483647
    omega
  · show -2147483648 ≤ z4.toInt ∧ z4.toInt ≤ 2147483647
    omega
theorem own_rem6 (y : Int32) (hy : 0 ≤ y.toInt) : y % (6 : Int32) = (0 : Int32) ∨ y % (6 : Int32) = (1 : Int32) ∨ y % (6 : Int32) = (2 : Int32) ∨ y % (6 : Int32) = (3 : Int32) ∨ y % (6 : Int32) = (4 : Int32) ∨ y % (6 : Int32) = (5 : Int32) := by
  have h := c_irem y 6 6 (by decide)
  simp only [← Int32.toInt_inj]
  have e0 : (0 : Int32).toInt = 0 := by decide
  have e1 : (1 : Int32).toInt = 1 := by decide
  have e2 : (2 : Int32).toInt = 2 := by decide
  have e3 : (3 : Int32).toInt = 3 := by decide
  have e4 : (4 : Int32).toInt = 4 := by decide
  have e5 : (5 : Int32).toInt = 5 := by decide
  omega
theorem own_nup6 (i : Int32) (z0 z1 z2 z3 z4 z5 : Int64) (hp : i = (0 : Int32) ∨ i = (1 : Int32) ∨ i = (2 : Int32) ∨ i = (3 : Int32) ∨ i = (4 : Int32) ∨ i = (5 : Int32)) : nu_6 i (z0.toInt32) (z1.toInt32) (z2.toInt32) (z3.toInt32) (z4.toInt32) (z5.toInt32) = (f9 i z0 z1 z2 z3 z4 z5).toInt32 := by
  rcases hp with rfl | rfl | rfl | rfl | rfl | rfl <;> rfl
theorem own_prn6 (i : Int32) (z0 z1 z2 z3 z4 z5 : Int64) (hp : i = (0 : Int32) ∨ i = (1 : Int32) ∨ i = (2 : Int32) ∨ i = (3 : Int32) ∨ i = (4 : Int32) ∨ i = (5 : Int32)) (lo : -2147483648 ≤ z0.toInt) (o1 : z0.toInt < z1.toInt) (o2 : z1.toInt < z2.toInt) (o3 : z2.toInt < z3.toInt) (o4 : z3.toInt < z4.toInt) (o5 : z4.toInt < z5.toInt) (hi : z5.toInt ≤ 2147483647) : -2147483648 ≤ (f9 i z0 z1 z2 z3 z4 z5).toInt ∧ (f9 i z0 z1 z2 z3 z4 z5).toInt ≤ 2147483647 := by
  rcases hp with rfl | rfl | rfl | rfl | rfl | rfl
  · show -2147483648 ≤ z0.toInt ∧ z0.toInt ≤ 2147483647
    omega
  · show -2147483648 ≤ z1.toInt ∧ z1.toInt ≤ 2147483647
    omega
  · show -2147483648 ≤ z2.toInt ∧ z2.toInt ≤ 2147483647
    omega
  · show -2147483648 ≤ z3.toInt ∧ z3.toInt ≤ 2147483647
    omega
  · show -2147483648 ≤ z4.toInt ∧ z4.toInt ≤ 2147483647
    omega
  · show -2147483648 ≤ z5.toInt ∧ z5.toInt ≤ 2147483647
    omega
theorem own_ct0 (y  : Int32)  : ct_0 y  = 0 := by
  unfold ct_0 f10_0 bs_0 f13_0
  simp only [Int32.lt_iff_toInt_lt, ← Int32.toInt_inj]
  repeat' split
  all_goals first | rfl | (exfalso; omega) | (simp only [Int32.reduceToInt] at *; exfalso; omega)
theorem own_ct1 (y x0 : Int32)  : ct_1 y x0 = if y = x0 then 1 else 0 := by
  unfold ct_1 f10_1 bs_1 f13_1
  simp only [Int32.lt_iff_toInt_lt, ← Int32.toInt_inj]
  repeat' split
  all_goals first | rfl | (exfalso; omega) | (simp only [Int32.reduceToInt] at *; exfalso; omega)
theorem own_ct2 (y x0 x1 : Int32) (h1 : x0 < x1) : ct_2 y x0 x1 = if y = x0 ∨ y = x1 then 1 else 0 := by
  unfold ct_2 f10_2 bs_2 f13_2
  rw [Int32.lt_iff_toInt_lt] at h1
  simp only [Int32.lt_iff_toInt_lt, ← Int32.toInt_inj]
  repeat' split
  all_goals first | rfl | (exfalso; omega) | (simp only [Int32.reduceToInt] at *; exfalso; omega)
theorem own_ct3 (y x0 x1 x2 : Int32) (h1 : x0 < x1) (h2 : x1 < x2) : ct_3 y x0 x1 x2 = if y = x0 ∨ y = x1 ∨ y = x2 then 1 else 0 := by
  unfold ct_3 f10_3 bs_3 f13_3
  rw [Int32.lt_iff_toInt_lt] at h1 h2
  simp only [Int32.lt_iff_toInt_lt, ← Int32.toInt_inj]
  repeat' split
  all_goals first | rfl | (exfalso; omega) | (simp only [Int32.reduceToInt] at *; exfalso; omega)
theorem own_ct4 (y x0 x1 x2 x3 : Int32) (h1 : x0 < x1) (h2 : x1 < x2) (h3 : x2 < x3) : ct_4 y x0 x1 x2 x3 = if y = x0 ∨ y = x1 ∨ y = x2 ∨ y = x3 then 1 else 0 := by
  unfold ct_4 f10_4 bs_4 f13_4
  rw [Int32.lt_iff_toInt_lt] at h1 h2 h3
  simp only [Int32.lt_iff_toInt_lt, ← Int32.toInt_inj]
  repeat' split
  all_goals first | rfl | (exfalso; omega) | (simp only [Int32.reduceToInt] at *; exfalso; omega)
theorem own_ct5 (y x0 x1 x2 x3 x4 : Int32) (h1 : x0 < x1) (h2 : x1 < x2) (h3 : x2 < x3) (h4 : x3 < x4) : ct_5 y x0 x1 x2 x3 x4 = if y = x0 ∨ y = x1 ∨ y = x2 ∨ y = x3 ∨ y = x4 then 1 else 0 := by
  unfold ct_5 f10_5 bs_5 f13_5
  rw [Int32.lt_iff_toInt_lt] at h1 h2 h3 h4
  simp only [Int32.lt_iff_toInt_lt, ← Int32.toInt_inj]
  repeat' split
  all_goals first | rfl | (exfalso; omega) | (simp only [Int32.reduceToInt] at *; exfalso; omega)
theorem own_ct6 (y x0 x1 x2 x3 x4 x5 : Int32) (h1 : x0 < x1) (h2 : x1 < x2) (h3 : x2 < x3) (h4 : x3 < x4) (h5 : x4 < x5) : ct_6 y x0 x1 x2 x3 x4 x5 = if y = x0 ∨ y = x1 ∨ y = x2 ∨ y = x3 ∨ y = x4 ∨ y = x5 then 1 else 0 := by
  unfold ct_6 f10_6 bs_6 f13_6
  rw [Int32.lt_iff_toInt_lt] at h1 h2 h3 h4 h5
  simp only [Int32.lt_iff_toInt_lt, ← Int32.toInt_inj]
  repeat' split
  all_goals first | rfl | (exfalso; omega) | (simp only [Int32.reduceToInt] at *; exfalso; omega)
def ex6 (zc : Int32) (t z0 z1 z2 z3 z4 z5 : Int64) : Int32 := 0
def ex5 (zc : Int32) (t z0 z1 z2 z3 z4 z5 : Int64) : Int32 := if (5 : Int32) < zc then (if t = z5 then 1 else ex6 zc t z0 z1 z2 z3 z4 z5) else ex6 zc t z0 z1 z2 z3 z4 z5
theorem own_ex5 {p : Program} {l : Launch} {e : Env} {R : Room} {s : State} {m : MethodId} {args : Array Value} {below : List Frame} {meth : Method} {c : Code} {T : State} {locs : List Loc} {cells slots : Nat} {L : Array Slot} {zc : Int32} {t z0 z1 z2 z3 z4 z5 : Int64} (X : Stand p l e R s m args below meth c T locs cells slots) (hx : p.tables.exec = Jvm.exec) (hby : c.code = code) (h24 : L[24]? = some (.val (.int zc))) (h29 : L[29]? = some (.val (.long t))) (h10 : L[10]? = some (.val (.long z0))) (h12 : L[12]? = some (.val (.long z1))) (h14 : L[14]? = some (.val (.long z2))) (h16 : L[16]? = some (.val (.long z3))) (h18 : L[18]? = some (.val (.long z4))) (h20 : L[20]? = some (.val (.long z5))) {tt : State} (k : Steps p.tables e below (T.setTop (mkF m 513 L [.int (ex5 zc t z0 z1 z2 z3 z4 z5)])) tt) : Steps p.tables e below (T.setTop (mkF m 494 L [])) tt := by
  unfold ex5 at k
  refine y_iload X hx hby at_494 h24 ?_
  refine y_iconst X hx hby (v := (5 : Int32)) at_496 rfl ?_
  by_cases h1 : (5 : Int32) < zc
  · rw [if_pos h1] at k
    refine y_icmpNo X hx hby at_497 (tlt h1).2.2.2 ?_
    refine y_lload X hx hby at_500 h29 ?_
    refine y_lload X hx hby at_502 h20 ?_
    refine y_lcmp X hx hby at_504 ?_
    by_cases h2 : t = z5
    · rw [if_pos h2] at k
      refine y_ifNo X hx hby at_505 ((if0 _ _).trans (teq ((lw_eq t z5).mpr h2)).2) ?_
      refine y_iconst X hx hby (v := (1 : Int32)) at_508 rfl ?_
      refine y_goto X hx hby (pc' := 513) at_509 (by decide) (by decide) ?_
      exact k
    · rw [if_neg h2] at k
      refine y_ifYes X hx hby (pc' := 512) at_505 ((if0 _ _).trans (feq (fun q => h2 ((lw_eq t z5).mp q))).2) (by decide) (by decide) ?_
      refine y_iconst X hx hby (v := (0 : Int32)) at_512 rfl ?_
      exact k
  · rw [if_neg h1] at k
    refine y_icmpYes X hx hby (pc' := 512) at_497 (flt h1).2.2.2 (by decide) (by decide) ?_
    refine y_iconst X hx hby (v := (0 : Int32)) at_512 rfl ?_
    exact k
def ex4 (zc : Int32) (t z0 z1 z2 z3 z4 z5 : Int64) : Int32 := if (4 : Int32) < zc then (if t = z4 then 1 else ex5 zc t z0 z1 z2 z3 z4 z5) else ex5 zc t z0 z1 z2 z3 z4 z5
theorem own_ex4 {p : Program} {l : Launch} {e : Env} {R : Room} {s : State} {m : MethodId} {args : Array Value} {below : List Frame} {meth : Method} {c : Code} {T : State} {locs : List Loc} {cells slots : Nat} {L : Array Slot} {zc : Int32} {t z0 z1 z2 z3 z4 z5 : Int64} (X : Stand p l e R s m args below meth c T locs cells slots) (hx : p.tables.exec = Jvm.exec) (hby : c.code = code) (h24 : L[24]? = some (.val (.int zc))) (h29 : L[29]? = some (.val (.long t))) (h10 : L[10]? = some (.val (.long z0))) (h12 : L[12]? = some (.val (.long z1))) (h14 : L[14]? = some (.val (.long z2))) (h16 : L[16]? = some (.val (.long z3))) (h18 : L[18]? = some (.val (.long z4))) (h20 : L[20]? = some (.val (.long z5))) {tt : State} (k : Steps p.tables e below (T.setTop (mkF m 513 L [.int (ex4 zc t z0 z1 z2 z3 z4 z5)])) tt) : Steps p.tables e below (T.setTop (mkF m 480 L [])) tt := by
  unfold ex4 at k
  refine y_iload X hx hby at_480 h24 ?_
  refine y_iconst X hx hby (v := (4 : Int32)) at_482 rfl ?_
  by_cases h1 : (4 : Int32) < zc
  · rw [if_pos h1] at k
    refine y_icmpNo X hx hby at_483 (tlt h1).2.2.2 ?_
    refine y_lload X hx hby at_486 h29 ?_
    refine y_lload X hx hby at_488 h18 ?_
    refine y_lcmp X hx hby at_490 ?_
    by_cases h2 : t = z4
    · rw [if_pos h2] at k
      refine y_ifYes X hx hby (pc' := 508) at_491 ((if0 _ _).trans (teq ((lw_eq t z4).mpr h2)).1) (by decide) (by decide) ?_
      refine y_iconst X hx hby (v := (1 : Int32)) at_508 rfl ?_
      refine y_goto X hx hby (pc' := 513) at_509 (by decide) (by decide) ?_
      exact k
    · rw [if_neg h2] at k
      refine y_ifNo X hx hby at_491 ((if0 _ _).trans (feq (fun q => h2 ((lw_eq t z4).mp q))).1) ?_
      exact own_ex5 X hx hby h24 h29 h10 h12 h14 h16 h18 h20 k
  · rw [if_neg h1] at k
    refine y_icmpYes X hx hby (pc' := 494) at_483 (flt h1).2.2.2 (by decide) (by decide) ?_
    exact own_ex5 X hx hby h24 h29 h10 h12 h14 h16 h18 h20 k
def ex3 (zc : Int32) (t z0 z1 z2 z3 z4 z5 : Int64) : Int32 := if (3 : Int32) < zc then (if t = z3 then 1 else ex4 zc t z0 z1 z2 z3 z4 z5) else ex4 zc t z0 z1 z2 z3 z4 z5
theorem own_ex3 {p : Program} {l : Launch} {e : Env} {R : Room} {s : State} {m : MethodId} {args : Array Value} {below : List Frame} {meth : Method} {c : Code} {T : State} {locs : List Loc} {cells slots : Nat} {L : Array Slot} {zc : Int32} {t z0 z1 z2 z3 z4 z5 : Int64} (X : Stand p l e R s m args below meth c T locs cells slots) (hx : p.tables.exec = Jvm.exec) (hby : c.code = code) (h24 : L[24]? = some (.val (.int zc))) (h29 : L[29]? = some (.val (.long t))) (h10 : L[10]? = some (.val (.long z0))) (h12 : L[12]? = some (.val (.long z1))) (h14 : L[14]? = some (.val (.long z2))) (h16 : L[16]? = some (.val (.long z3))) (h18 : L[18]? = some (.val (.long z4))) (h20 : L[20]? = some (.val (.long z5))) {tt : State} (k : Steps p.tables e below (T.setTop (mkF m 513 L [.int (ex3 zc t z0 z1 z2 z3 z4 z5)])) tt) : Steps p.tables e below (T.setTop (mkF m 466 L [])) tt := by
  unfold ex3 at k
  refine y_iload X hx hby at_466 h24 ?_
  refine y_iconst X hx hby (v := (3 : Int32)) at_468 rfl ?_
  by_cases h1 : (3 : Int32) < zc
  · rw [if_pos h1] at k
    refine y_icmpNo X hx hby at_469 (tlt h1).2.2.2 ?_
    refine y_lload X hx hby at_472 h29 ?_
    refine y_lload X hx hby at_474 h16 ?_
    refine y_lcmp X hx hby at_476 ?_
    by_cases h2 : t = z3
    · rw [if_pos h2] at k
      refine y_ifYes X hx hby (pc' := 508) at_477 ((if0 _ _).trans (teq ((lw_eq t z3).mpr h2)).1) (by decide) (by decide) ?_
      refine y_iconst X hx hby (v := (1 : Int32)) at_508 rfl ?_
      refine y_goto X hx hby (pc' := 513) at_509 (by decide) (by decide) ?_
      exact k
    · rw [if_neg h2] at k
      refine y_ifNo X hx hby at_477 ((if0 _ _).trans (feq (fun q => h2 ((lw_eq t z3).mp q))).1) ?_
      exact own_ex4 X hx hby h24 h29 h10 h12 h14 h16 h18 h20 k
  · rw [if_neg h1] at k
    refine y_icmpYes X hx hby (pc' := 480) at_469 (flt h1).2.2.2 (by decide) (by decide) ?_
    exact own_ex4 X hx hby h24 h29 h10 h12 h14 h16 h18 h20 k
def ex2 (zc : Int32) (t z0 z1 z2 z3 z4 z5 : Int64) : Int32 := if (2 : Int32) < zc then (if t = z2 then 1 else ex3 zc t z0 z1 z2 z3 z4 z5) else ex3 zc t z0 z1 z2 z3 z4 z5
theorem own_ex2 {p : Program} {l : Launch} {e : Env} {R : Room} {s : State} {m : MethodId} {args : Array Value} {below : List Frame} {meth : Method} {c : Code} {T : State} {locs : List Loc} {cells slots : Nat} {L : Array Slot} {zc : Int32} {t z0 z1 z2 z3 z4 z5 : Int64} (X : Stand p l e R s m args below meth c T locs cells slots) (hx : p.tables.exec = Jvm.exec) (hby : c.code = code) (h24 : L[24]? = some (.val (.int zc))) (h29 : L[29]? = some (.val (.long t))) (h10 : L[10]? = some (.val (.long z0))) (h12 : L[12]? = some (.val (.long z1))) (h14 : L[14]? = some (.val (.long z2))) (h16 : L[16]? = some (.val (.long z3))) (h18 : L[18]? = some (.val (.long z4))) (h20 : L[20]? = some (.val (.long z5))) {tt : State} (k : Steps p.tables e below (T.setTop (mkF m 513 L [.int (ex2 zc t z0 z1 z2 z3 z4 z5)])) tt) : Steps p.tables e below (T.setTop (mkF m 452 L [])) tt := by
  unfold ex2 at k
  refine y_iload X hx hby at_452 h24 ?_
  refine y_iconst X hx hby (v := (2 : Int32)) at_454 rfl ?_
  by_cases h1 : (2 : Int32) < zc
  · rw [if_pos h1] at k
    refine y_icmpNo X hx hby at_455 (tlt h1).2.2.2 ?_
    refine y_lload X hx hby at_458 h29 ?_
    refine y_lload X hx hby at_460 h14 ?_
    refine y_lcmp X hx hby at_462 ?_
    by_cases h2 : t = z2
    · rw [if_pos h2] at k
      refine y_ifYes X hx hby (pc' := 508) at_463 ((if0 _ _).trans (teq ((lw_eq t z2).mpr h2)).1) (by decide) (by decide) ?_
      refine y_iconst X hx hby (v := (1 : Int32)) at_508 rfl ?_
      refine y_goto X hx hby (pc' := 513) at_509 (by decide) (by decide) ?_
      exact k
    · rw [if_neg h2] at k
      refine y_ifNo X hx hby at_463 ((if0 _ _).trans (feq (fun q => h2 ((lw_eq t z2).mp q))).1) ?_
      exact own_ex3 X hx hby h24 h29 h10 h12 h14 h16 h18 h20 k
  · rw [if_neg h1] at k
    refine y_icmpYes X hx hby (pc' := 466) at_455 (flt h1).2.2.2 (by decide) (by decide) ?_
    exact own_ex3 X hx hby h24 h29 h10 h12 h14 h16 h18 h20 k
def ex1 (zc : Int32) (t z0 z1 z2 z3 z4 z5 : Int64) : Int32 := if (1 : Int32) < zc then (if t = z1 then 1 else ex2 zc t z0 z1 z2 z3 z4 z5) else ex2 zc t z0 z1 z2 z3 z4 z5
theorem own_ex1 {p : Program} {l : Launch} {e : Env} {R : Room} {s : State} {m : MethodId} {args : Array Value} {below : List Frame} {meth : Method} {c : Code} {T : State} {locs : List Loc} {cells slots : Nat} {L : Array Slot} {zc : Int32} {t z0 z1 z2 z3 z4 z5 : Int64} (X : Stand p l e R s m args below meth c T locs cells slots) (hx : p.tables.exec = Jvm.exec) (hby : c.code = code) (h24 : L[24]? = some (.val (.int zc))) (h29 : L[29]? = some (.val (.long t))) (h10 : L[10]? = some (.val (.long z0))) (h12 : L[12]? = some (.val (.long z1))) (h14 : L[14]? = some (.val (.long z2))) (h16 : L[16]? = some (.val (.long z3))) (h18 : L[18]? = some (.val (.long z4))) (h20 : L[20]? = some (.val (.long z5))) {tt : State} (k : Steps p.tables e below (T.setTop (mkF m 513 L [.int (ex1 zc t z0 z1 z2 z3 z4 z5)])) tt) : Steps p.tables e below (T.setTop (mkF m 438 L [])) tt := by
  unfold ex1 at k
  refine y_iload X hx hby at_438 h24 ?_
  refine y_iconst X hx hby (v := (1 : Int32)) at_440 rfl ?_
  by_cases h1 : (1 : Int32) < zc
  · rw [if_pos h1] at k
    refine y_icmpNo X hx hby at_441 (tlt h1).2.2.2 ?_
    refine y_lload X hx hby at_444 h29 ?_
    refine y_lload X hx hby at_446 h12 ?_
    refine y_lcmp X hx hby at_448 ?_
    by_cases h2 : t = z1
    · rw [if_pos h2] at k
      refine y_ifYes X hx hby (pc' := 508) at_449 ((if0 _ _).trans (teq ((lw_eq t z1).mpr h2)).1) (by decide) (by decide) ?_
      refine y_iconst X hx hby (v := (1 : Int32)) at_508 rfl ?_
      refine y_goto X hx hby (pc' := 513) at_509 (by decide) (by decide) ?_
      exact k
    · rw [if_neg h2] at k
      refine y_ifNo X hx hby at_449 ((if0 _ _).trans (feq (fun q => h2 ((lw_eq t z1).mp q))).1) ?_
      exact own_ex2 X hx hby h24 h29 h10 h12 h14 h16 h18 h20 k
  · rw [if_neg h1] at k
    refine y_icmpYes X hx hby (pc' := 452) at_441 (flt h1).2.2.2 (by decide) (by decide) ?_
    exact own_ex2 X hx hby h24 h29 h10 h12 h14 h16 h18 h20 k
def ex0 (zc : Int32) (t z0 z1 z2 z3 z4 z5 : Int64) : Int32 := if (0 : Int32) < zc then (if t = z0 then 1 else ex1 zc t z0 z1 z2 z3 z4 z5) else ex1 zc t z0 z1 z2 z3 z4 z5
theorem own_ex0 {p : Program} {l : Launch} {e : Env} {R : Room} {s : State} {m : MethodId} {args : Array Value} {below : List Frame} {meth : Method} {c : Code} {T : State} {locs : List Loc} {cells slots : Nat} {L : Array Slot} {zc : Int32} {t z0 z1 z2 z3 z4 z5 : Int64} (X : Stand p l e R s m args below meth c T locs cells slots) (hx : p.tables.exec = Jvm.exec) (hby : c.code = code) (h24 : L[24]? = some (.val (.int zc))) (h29 : L[29]? = some (.val (.long t))) (h10 : L[10]? = some (.val (.long z0))) (h12 : L[12]? = some (.val (.long z1))) (h14 : L[14]? = some (.val (.long z2))) (h16 : L[16]? = some (.val (.long z3))) (h18 : L[18]? = some (.val (.long z4))) (h20 : L[20]? = some (.val (.long z5))) {tt : State} (k : Steps p.tables e below (T.setTop (mkF m 513 L [.int (ex0 zc t z0 z1 z2 z3 z4 z5)])) tt) : Steps p.tables e below (T.setTop (mkF m 425 L [])) tt := by
  unfold ex0 at k
  refine y_iload X hx hby at_425 h24 ?_
  by_cases h1 : (0 : Int32) < zc
  · rw [if_pos h1] at k
    refine y_ifNo X hx hby at_427 ((if0 _ _).trans (tlt h1).2.2.2) ?_
    refine y_lload X hx hby at_430 h29 ?_
    refine y_lload X hx hby at_432 h10 ?_
    refine y_lcmp X hx hby at_434 ?_
    by_cases h2 : t = z0
    · rw [if_pos h2] at k
      refine y_ifYes X hx hby (pc' := 508) at_435 ((if0 _ _).trans (teq ((lw_eq t z0).mpr h2)).1) (by decide) (by decide) ?_
      refine y_iconst X hx hby (v := (1 : Int32)) at_508 rfl ?_
      refine y_goto X hx hby (pc' := 513) at_509 (by decide) (by decide) ?_
      exact k
    · rw [if_neg h2] at k
      refine y_ifNo X hx hby at_435 ((if0 _ _).trans (feq (fun q => h2 ((lw_eq t z0).mp q))).1) ?_
      exact own_ex1 X hx hby h24 h29 h10 h12 h14 h16 h18 h20 k
  · rw [if_neg h1] at k
    refine y_ifYes X hx hby (pc' := 438) at_427 ((if0 _ _).trans (flt h1).2.2.2) (by decide) (by decide) ?_
    exact own_ex1 X hx hby h24 h29 h10 h12 h14 h16 h18 h20 k
theorem own_fin0 (t z0 z1 z2 z3 z4 z5 : Int64) (o1 : z0.toInt < z1.toInt) (o2 : z1.toInt < z2.toInt) (o3 : z2.toInt < z3.toInt) (o4 : z3.toInt < z4.toInt) (o5 : z4.toInt < z5.toInt) (lo : -2147483648 ≤ z0.toInt ∧ z0.toInt ≤ 2147483647)  (hp : -2147483648 ≤ t.toInt ∧ t.toInt ≤ 2147483647) : (ct_0 (t.toInt32)) = (ex0 (0 : Int32) t z0 z1 z2 z3 z4 z5) := by
  rw [own_ct0 _]
  first | rfl | simp [ex0, ex1, ex2, ex3, ex4, ex5, ex6]
theorem own_fin1 (t z0 z1 z2 z3 z4 z5 : Int64) (o1 : z0.toInt < z1.toInt) (o2 : z1.toInt < z2.toInt) (o3 : z2.toInt < z3.toInt) (o4 : z3.toInt < z4.toInt) (o5 : z4.toInt < z5.toInt) (lo : -2147483648 ≤ z0.toInt ∧ z0.toInt ≤ 2147483647) (hi : z0.toInt ≤ 2147483647) (hp : -2147483648 ≤ t.toInt ∧ t.toInt ≤ 2147483647) : (ct_1 (t.toInt32) (z0.toInt32)) = (ex0 (1 : Int32) t z0 z1 z2 z3 z4 z5) := by
  rw [own_ct1 _ _]
  have i0 := own_inj hp.1 hp.2 (show -2147483648 ≤ z0.toInt by omega) (show z0.toInt ≤ 2147483647 by omega)
  simp only [ex0, ex1, ex2, ex3, ex4, ex5, ex6, i0]
  all_goals (by_cases t0 : t = z0 <;> simp [t0])
theorem own_fin2 (t z0 z1 z2 z3 z4 z5 : Int64) (o1 : z0.toInt < z1.toInt) (o2 : z1.toInt < z2.toInt) (o3 : z2.toInt < z3.toInt) (o4 : z3.toInt < z4.toInt) (o5 : z4.toInt < z5.toInt) (lo : -2147483648 ≤ z0.toInt ∧ z0.toInt ≤ 2147483647) (hi : z1.toInt ≤ 2147483647) (hp : -2147483648 ≤ t.toInt ∧ t.toInt ≤ 2147483647) : (ct_2 (t.toInt32) (z0.toInt32) (z1.toInt32)) = (ex0 (2 : Int32) t z0 z1 z2 z3 z4 z5) := by
  rw [own_ct2 _ _ _ (own_cast (by omega) o1 (by omega))]
  have i0 := own_inj hp.1 hp.2 (show -2147483648 ≤ z0.toInt by omega) (show z0.toInt ≤ 2147483647 by omega)
  have i1 := own_inj hp.1 hp.2 (show -2147483648 ≤ z1.toInt by omega) (show z1.toInt ≤ 2147483647 by omega)
  simp only [ex0, ex1, ex2, ex3, ex4, ex5, ex6, i0, i1]
  all_goals (by_cases t0 : t = z0 <;> by_cases t1 : t = z1 <;> simp [t0, t1])
theorem own_fin3 (t z0 z1 z2 z3 z4 z5 : Int64) (o1 : z0.toInt < z1.toInt) (o2 : z1.toInt < z2.toInt) (o3 : z2.toInt < z3.toInt) (o4 : z3.toInt < z4.toInt) (o5 : z4.toInt < z5.toInt) (lo : -2147483648 ≤ z0.toInt ∧ z0.toInt ≤ 2147483647) (hi : z2.toInt ≤ 2147483647) (hp : -2147483648 ≤ t.toInt ∧ t.toInt ≤ 2147483647) : (ct_3 (t.toInt32) (z0.toInt32) (z1.toInt32) (z2.toInt32)) = (ex0 (3 : Int32) t z0 z1 z2 z3 z4 z5) := by
  rw [own_ct3 _ _ _ _ (own_cast (by omega) o1 (by omega)) (own_cast (by omega) o2 (by omega))]
  have i0 := own_inj hp.1 hp.2 (show -2147483648 ≤ z0.toInt by omega) (show z0.toInt ≤ 2147483647 by omega)
  have i1 := own_inj hp.1 hp.2 (show -2147483648 ≤ z1.toInt by omega) (show z1.toInt ≤ 2147483647 by omega)
  have i2 := own_inj hp.1 hp.2 (show -2147483648 ≤ z2.toInt by omega) (show z2.toInt ≤ 2147483647 by omega)
  simp only [ex0, ex1, ex2, ex3, ex4, ex5, ex6, i0, i1, i2]
  all_goals (by_cases t0 : t = z0 <;> by_cases t1 : t = z1 <;> by_cases t2 : t = z2 <;> simp [t0, t1, t2])
theorem own_fin4 (t z0 z1 z2 z3 z4 z5 : Int64) (o1 : z0.toInt < z1.toInt) (o2 : z1.toInt < z2.toInt) (o3 : z2.toInt < z3.toInt) (o4 : z3.toInt < z4.toInt) (o5 : z4.toInt < z5.toInt) (lo : -2147483648 ≤ z0.toInt ∧ z0.toInt ≤ 2147483647) (hi : z3.toInt ≤ 2147483647) (hp : -2147483648 ≤ t.toInt ∧ t.toInt ≤ 2147483647) : (ct_4 (t.toInt32) (z0.toInt32) (z1.toInt32) (z2.toInt32) (z3.toInt32)) = (ex0 (4 : Int32) t z0 z1 z2 z3 z4 z5) := by
  rw [own_ct4 _ _ _ _ _ (own_cast (by omega) o1 (by omega)) (own_cast (by omega) o2 (by omega)) (own_cast (by omega) o3 (by omega))]
  have i0 := own_inj hp.1 hp.2 (show -2147483648 ≤ z0.toInt by omega) (show z0.toInt ≤ 2147483647 by omega)
  have i1 := own_inj hp.1 hp.2 (show -2147483648 ≤ z1.toInt by omega) (show z1.toInt ≤ 2147483647 by omega)
  have i2 := own_inj hp.1 hp.2 (show -2147483648 ≤ z2.toInt by omega) (show z2.toInt ≤ 2147483647 by omega)
  have i3 := own_inj hp.1 hp.2 (show -2147483648 ≤ z3.toInt by omega) (show z3.toInt ≤ 2147483647 by omega)
  simp only [ex0, ex1, ex2, ex3, ex4, ex5, ex6, i0, i1, i2, i3]
  all_goals (by_cases t0 : t = z0 <;> by_cases t1 : t = z1 <;> by_cases t2 : t = z2 <;> by_cases t3 : t = z3 <;> simp [t0, t1, t2, t3])
theorem own_fin5 (t z0 z1 z2 z3 z4 z5 : Int64) (o1 : z0.toInt < z1.toInt) (o2 : z1.toInt < z2.toInt) (o3 : z2.toInt < z3.toInt) (o4 : z3.toInt < z4.toInt) (o5 : z4.toInt < z5.toInt) (lo : -2147483648 ≤ z0.toInt ∧ z0.toInt ≤ 2147483647) (hi : z4.toInt ≤ 2147483647) (hp : -2147483648 ≤ t.toInt ∧ t.toInt ≤ 2147483647) : (ct_5 (t.toInt32) (z0.toInt32) (z1.toInt32) (z2.toInt32) (z3.toInt32) (z4.toInt32)) = (ex0 (5 : Int32) t z0 z1 z2 z3 z4 z5) := by
  rw [own_ct5 _ _ _ _ _ _ (own_cast (by omega) o1 (by omega)) (own_cast (by omega) o2 (by omega)) (own_cast (by omega) o3 (by omega)) (own_cast (by omega) o4 (by omega))]
  have i0 := own_inj hp.1 hp.2 (show -2147483648 ≤ z0.toInt by omega) (show z0.toInt ≤ 2147483647 by omega)
  have i1 := own_inj hp.1 hp.2 (show -2147483648 ≤ z1.toInt by omega) (show z1.toInt ≤ 2147483647 by omega)
  have i2 := own_inj hp.1 hp.2 (show -2147483648 ≤ z2.toInt by omega) (show z2.toInt ≤ 2147483647 by omega)
  have i3 := own_inj hp.1 hp.2 (show -2147483648 ≤ z3.toInt by omega) (show z3.toInt ≤ 2147483647 by omega)
  have i4 := own_inj hp.1 hp.2 (show -2147483648 ≤ z4.toInt by omega) (show z4.toInt ≤ 2147483647 by omega)
  simp only [ex0, ex1, ex2, ex3, ex4, ex5, ex6, i0, i1, i2, i3, i4]
  all_goals (by_cases t0 : t = z0 <;> by_cases t1 : t = z1 <;> by_cases t2 : t = z2 <;> by_cases t3 : t = z3 <;> by_cases t4 : t = z4 <;> simp [t0, t1, t2, t3, t4])
theorem own_fin6 (t z0 z1 z2 z3 z4 z5 : Int64) (o1 : z0.toInt < z1.toInt) (o2 : z1.toInt < z2.toInt) (o3 : z2.toInt < z3.toInt) (o4 : z3.toInt < z4.toInt) (o5 : z4.toInt < z5.toInt) (lo : -2147483648 ≤ z0.toInt ∧ z0.toInt ≤ 2147483647) (hi : z5.toInt ≤ 2147483647) (hp : -2147483648 ≤ t.toInt ∧ t.toInt ≤ 2147483647) : (ct_6 (t.toInt32) (z0.toInt32) (z1.toInt32) (z2.toInt32) (z3.toInt32) (z4.toInt32) (z5.toInt32)) = (ex0 (6 : Int32) t z0 z1 z2 z3 z4 z5) := by
  rw [own_ct6 _ _ _ _ _ _ _ (own_cast (by omega) o1 (by omega)) (own_cast (by omega) o2 (by omega)) (own_cast (by omega) o3 (by omega)) (own_cast (by omega) o4 (by omega)) (own_cast (by omega) o5 (by omega))]
  have i0 := own_inj hp.1 hp.2 (show -2147483648 ≤ z0.toInt by omega) (show z0.toInt ≤ 2147483647 by omega)
  have i1 := own_inj hp.1 hp.2 (show -2147483648 ≤ z1.toInt by omega) (show z1.toInt ≤ 2147483647 by omega)
  have i2 := own_inj hp.1 hp.2 (show -2147483648 ≤ z2.toInt by omega) (show z2.toInt ≤ 2147483647 by omega)
  have i3 := own_inj hp.1 hp.2 (show -2147483648 ≤ z3.toInt by omega) (show z3.toInt ≤ 2147483647 by omega)
  have i4 := own_inj hp.1 hp.2 (show -2147483648 ≤ z4.toInt by omega) (show z4.toInt ≤ 2147483647 by omega)
  have i5 := own_inj hp.1 hp.2 (show -2147483648 ≤ z5.toInt by omega) (show z5.toInt ≤ 2147483647 by omega)
  simp only [ex0, ex1, ex2, ex3, ex4, ex5, ex6, i0, i1, i2, i3, i4, i5]
  all_goals (by_cases t0 : t = z0 <;> by_cases t1 : t = z1 <;> by_cases t2 : t = z2 <;> by_cases t3 : t = z3 <;> by_cases t4 : t = z4 <;> by_cases t5 : t = z5 <;> simp [t0, t1, t2, t3, t4, t5])
theorem pd_6 : parseMethodDescriptor "()V" = some ⟨[], none⟩ := by decide +kernel
theorem pd_7 : parseMethodDescriptor "(I)Lcom/example/hard_delay_bounds/harddelaybounds/analysis/FlowSet$Builder;" = some ⟨[.int], some (.object "com/example/hard_delay_bounds/harddelaybounds/analysis/FlowSet$Builder")⟩ := by decide +kernel
theorem pd_8 : parseMethodDescriptor "()Lcom/example/hard_delay_bounds/harddelaybounds/analysis/FlowSet;" = some ⟨[], some (.object "com/example/hard_delay_bounds/harddelaybounds/analysis/FlowSet")⟩ := by decide +kernel
theorem pd_9 : parseMethodDescriptor "()I" = some ⟨[], some .int⟩ := by decide +kernel
theorem pd_10 : parseMethodDescriptor "(IJJJJJJ)J" = some ⟨[.int, .long, .long, .long, .long, .long, .long], some .long⟩ := by decide +kernel
theorem pd_11 : parseMethodDescriptor "(I)Z" = some ⟨[.int], some .boolean⟩ := by decide +kernel
theorem ef_0 (m : MethodId) (x0 : Int32) (x1 : Int32) (x2 : Int32) (x3 : Int32) (x4 : Int32) (x5 : Int32) : entryFrame m #[(.int x0), (.int x1), (.int x2), (.int x3), (.int x4), (.int x5)] maxLocals = mkF m 0 #[.val (.int x0), .val (.int x1), .val (.int x2), .val (.int x3), .val (.int x4), .val (.int x5), .unset, .unset, .unset, .unset, .unset, .unset, .unset, .unset, .unset, .unset, .unset, .unset, .unset, .unset, .unset, .unset, .unset, .unset, .unset, .unset, .unset, .unset, .unset, .unset, .unset, .unset, .unset, .unset] [] := by first | (simp [entryFrame, mkF, argsToLocals, Value.category, maxLocals]; done) | rfl
def mg0_137a (p1 p2 p3 p4 p5 p6 : Int32) (z1 : Int64) : Int32 := if (2147483647 : Int64) < z1 then (1 : Int32) else (2 : Int32)
def mg0_123a (p1 p2 p3 p4 p5 p6 : Int32) (z1 : Int64) (z2 : Int64) : Int32 := if (2147483647 : Int64) < z2 then (mg0_137a p1 p2 p3 p4 p5 p6 z1) else (3 : Int32)
def mg0_109a (p1 p2 p3 p4 p5 p6 : Int32) (z1 : Int64) (z2 : Int64) (z3 : Int64) : Int32 := if (2147483647 : Int64) < z3 then (mg0_123a p1 p2 p3 p4 p5 p6 z1 z2) else (4 : Int32)
def mg0_95a (p1 p2 p3 p4 p5 p6 : Int32) (z1 : Int64) (z2 : Int64) (z3 : Int64) (z4 : Int64) : Int32 := if (2147483647 : Int64) < z4 then (mg0_109a p1 p2 p3 p4 p5 p6 z1 z2 z3) else (5 : Int32)
def mg0_80a (p1 p2 p3 p4 p5 p6 : Int32) (z1 : Int64) (z2 : Int64) (z3 : Int64) (z4 : Int64) (z5 : Int64) : Int32 := if (2147483647 : Int64) < z5 then (mg0_95a p1 p2 p3 p4 p5 p6 z1 z2 z3 z4) else (6 : Int32)
def mg0_418a (p1 p2 p3 p4 p5 p6 : Int32) (z0 : Int64) (z1 : Int64) (z2 : Int64) (z3 : Int64) (z4 : Int64) (z5 : Int64) : Int64 := if (((f9 ((((p6.toUInt32 >>> ((3 : Int32) &&& 31).toUInt32).toInt32) &&& (255 : Int32)) % (6 : Int32)) z0 z1 z2 z3 z4 z5) + (((p6 &&& (3 : Int32)) % (3 : Int32)).toInt64)) - (1 : Int64)) < (-2147483648 : Int64) then (f9 ((((p6.toUInt32 >>> ((3 : Int32) &&& 31).toUInt32).toInt32) &&& (255 : Int32)) % (6 : Int32)) z0 z1 z2 z3 z4 z5) else (((f9 ((((p6.toUInt32 >>> ((3 : Int32) &&& 31).toUInt32).toInt32) &&& (255 : Int32)) % (6 : Int32)) z0 z1 z2 z3 z4 z5) + (((p6 &&& (3 : Int32)) % (3 : Int32)).toInt64)) - (1 : Int64))
def mg0_410a (p1 p2 p3 p4 p5 p6 : Int32) (z0 : Int64) (z1 : Int64) (z2 : Int64) (z3 : Int64) (z4 : Int64) (z5 : Int64) : Int64 := if (2147483647 : Int64) < (((f9 ((((p6.toUInt32 >>> ((3 : Int32) &&& 31).toUInt32).toInt32) &&& (255 : Int32)) % (6 : Int32)) z0 z1 z2 z3 z4 z5) + (((p6 &&& (3 : Int32)) % (3 : Int32)).toInt64)) - (1 : Int64)) then (f9 ((((p6.toUInt32 >>> ((3 : Int32) &&& 31).toUInt32).toInt32) &&& (255 : Int32)) % (6 : Int32)) z0 z1 z2 z3 z4 z5) else (mg0_418a p1 p2 p3 p4 p5 p6 z0 z1 z2 z3 z4 z5)
def mg0_418b (p1 p2 p3 p4 p5 p6 : Int32) (z0 : Int64) (z1 : Int64) (z2 : Int64) (z3 : Int64) (z4 : Int64) (z5 : Int64) : Int64 := if (((f9 ((((p6.toUInt32 >>> ((3 : Int32) &&& 31).toUInt32).toInt32) &&& (255 : Int32)) % (5 : Int32)) z0 z1 z2 z3 z4 z5) + (((p6 &&& (3 : Int32)) % (3 : Int32)).toInt64)) - (1 : Int64)) < (-2147483648 : Int64) then (f9 ((((p6.toUInt32 >>> ((3 : Int32) &&& 31).toUInt32).toInt32) &&& (255 : Int32)) % (5 : Int32)) z0 z1 z2 z3 z4 z5) else (((f9 ((((p6.toUInt32 >>> ((3 : Int32) &&& 31).toUInt32).toInt32) &&& (255 : Int32)) % (5 : Int32)) z0 z1 z2 z3 z4 z5) + (((p6 &&& (3 : Int32)) % (3 : Int32)).toInt64)) - (1 : Int64))
def mg0_410b (p1 p2 p3 p4 p5 p6 : Int32) (z0 : Int64) (z1 : Int64) (z2 : Int64) (z3 : Int64) (z4 : Int64) (z5 : Int64) : Int64 := if (2147483647 : Int64) < (((f9 ((((p6.toUInt32 >>> ((3 : Int32) &&& 31).toUInt32).toInt32) &&& (255 : Int32)) % (5 : Int32)) z0 z1 z2 z3 z4 z5) + (((p6 &&& (3 : Int32)) % (3 : Int32)).toInt64)) - (1 : Int64)) then (f9 ((((p6.toUInt32 >>> ((3 : Int32) &&& 31).toUInt32).toInt32) &&& (255 : Int32)) % (5 : Int32)) z0 z1 z2 z3 z4 z5) else (mg0_418b p1 p2 p3 p4 p5 p6 z0 z1 z2 z3 z4 z5)
def mg0_418c (p1 p2 p3 p4 p5 p6 : Int32) (z0 : Int64) (z1 : Int64) (z2 : Int64) (z3 : Int64) (z4 : Int64) (z5 : Int64) : Int64 := if (((f9 ((((p6.toUInt32 >>> ((3 : Int32) &&& 31).toUInt32).toInt32) &&& (255 : Int32)) % (4 : Int32)) z0 z1 z2 z3 z4 z5) + (((p6 &&& (3 : Int32)) % (3 : Int32)).toInt64)) - (1 : Int64)) < (-2147483648 : Int64) then (f9 ((((p6.toUInt32 >>> ((3 : Int32) &&& 31).toUInt32).toInt32) &&& (255 : Int32)) % (4 : Int32)) z0 z1 z2 z3 z4 z5) else (((f9 ((((p6.toUInt32 >>> ((3 : Int32) &&& 31).toUInt32).toInt32) &&& (255 : Int32)) % (4 : Int32)) z0 z1 z2 z3 z4 z5) + (((p6 &&& (3 : Int32)) % (3 : Int32)).toInt64)) - (1 : Int64))
def mg0_410c (p1 p2 p3 p4 p5 p6 : Int32) (z0 : Int64) (z1 : Int64) (z2 : Int64) (z3 : Int64) (z4 : Int64) (z5 : Int64) : Int64 := if (2147483647 : Int64) < (((f9 ((((p6.toUInt32 >>> ((3 : Int32) &&& 31).toUInt32).toInt32) &&& (255 : Int32)) % (4 : Int32)) z0 z1 z2 z3 z4 z5) + (((p6 &&& (3 : Int32)) % (3 : Int32)).toInt64)) - (1 : Int64)) then (f9 ((((p6.toUInt32 >>> ((3 : Int32) &&& 31).toUInt32).toInt32) &&& (255 : Int32)) % (4 : Int32)) z0 z1 z2 z3 z4 z5) else (mg0_418c p1 p2 p3 p4 p5 p6 z0 z1 z2 z3 z4 z5)
def mg0_418d (p1 p2 p3 p4 p5 p6 : Int32) (z0 : Int64) (z1 : Int64) (z2 : Int64) (z3 : Int64) (z4 : Int64) (z5 : Int64) : Int64 := if (((f9 ((((p6.toUInt32 >>> ((3 : Int32) &&& 31).toUInt32).toInt32) &&& (255 : Int32)) % (3 : Int32)) z0 z1 z2 z3 z4 z5) + (((p6 &&& (3 : Int32)) % (3 : Int32)).toInt64)) - (1 : Int64)) < (-2147483648 : Int64) then (f9 ((((p6.toUInt32 >>> ((3 : Int32) &&& 31).toUInt32).toInt32) &&& (255 : Int32)) % (3 : Int32)) z0 z1 z2 z3 z4 z5) else (((f9 ((((p6.toUInt32 >>> ((3 : Int32) &&& 31).toUInt32).toInt32) &&& (255 : Int32)) % (3 : Int32)) z0 z1 z2 z3 z4 z5) + (((p6 &&& (3 : Int32)) % (3 : Int32)).toInt64)) - (1 : Int64))
def mg0_410d (p1 p2 p3 p4 p5 p6 : Int32) (z0 : Int64) (z1 : Int64) (z2 : Int64) (z3 : Int64) (z4 : Int64) (z5 : Int64) : Int64 := if (2147483647 : Int64) < (((f9 ((((p6.toUInt32 >>> ((3 : Int32) &&& 31).toUInt32).toInt32) &&& (255 : Int32)) % (3 : Int32)) z0 z1 z2 z3 z4 z5) + (((p6 &&& (3 : Int32)) % (3 : Int32)).toInt64)) - (1 : Int64)) then (f9 ((((p6.toUInt32 >>> ((3 : Int32) &&& 31).toUInt32).toInt32) &&& (255 : Int32)) % (3 : Int32)) z0 z1 z2 z3 z4 z5) else (mg0_418d p1 p2 p3 p4 p5 p6 z0 z1 z2 z3 z4 z5)
def mg0_418e (p1 p2 p3 p4 p5 p6 : Int32) (z0 : Int64) (z1 : Int64) (z2 : Int64) (z3 : Int64) (z4 : Int64) (z5 : Int64) : Int64 := if (((f9 ((((p6.toUInt32 >>> ((3 : Int32) &&& 31).toUInt32).toInt32) &&& (255 : Int32)) % (2 : Int32)) z0 z1 z2 z3 z4 z5) + (((p6 &&& (3 : Int32)) % (3 : Int32)).toInt64)) - (1 : Int64)) < (-2147483648 : Int64) then (f9 ((((p6.toUInt32 >>> ((3 : Int32) &&& 31).toUInt32).toInt32) &&& (255 : Int32)) % (2 : Int32)) z0 z1 z2 z3 z4 z5) else (((f9 ((((p6.toUInt32 >>> ((3 : Int32) &&& 31).toUInt32).toInt32) &&& (255 : Int32)) % (2 : Int32)) z0 z1 z2 z3 z4 z5) + (((p6 &&& (3 : Int32)) % (3 : Int32)).toInt64)) - (1 : Int64))
def mg0_410e (p1 p2 p3 p4 p5 p6 : Int32) (z0 : Int64) (z1 : Int64) (z2 : Int64) (z3 : Int64) (z4 : Int64) (z5 : Int64) : Int64 := if (2147483647 : Int64) < (((f9 ((((p6.toUInt32 >>> ((3 : Int32) &&& 31).toUInt32).toInt32) &&& (255 : Int32)) % (2 : Int32)) z0 z1 z2 z3 z4 z5) + (((p6 &&& (3 : Int32)) % (3 : Int32)).toInt64)) - (1 : Int64)) then (f9 ((((p6.toUInt32 >>> ((3 : Int32) &&& 31).toUInt32).toInt32) &&& (255 : Int32)) % (2 : Int32)) z0 z1 z2 z3 z4 z5) else (mg0_418e p1 p2 p3 p4 p5 p6 z0 z1 z2 z3 z4 z5)
def mg0_418f (p1 p2 p3 p4 p5 p6 : Int32) (z0 : Int64) (z1 : Int64) (z2 : Int64) (z3 : Int64) (z4 : Int64) (z5 : Int64) : Int64 := if (((f9 ((((p6.toUInt32 >>> ((3 : Int32) &&& 31).toUInt32).toInt32) &&& (255 : Int32)) % (1 : Int32)) z0 z1 z2 z3 z4 z5) + (((p6 &&& (3 : Int32)) % (3 : Int32)).toInt64)) - (1 : Int64)) < (-2147483648 : Int64) then (f9 ((((p6.toUInt32 >>> ((3 : Int32) &&& 31).toUInt32).toInt32) &&& (255 : Int32)) % (1 : Int32)) z0 z1 z2 z3 z4 z5) else (((f9 ((((p6.toUInt32 >>> ((3 : Int32) &&& 31).toUInt32).toInt32) &&& (255 : Int32)) % (1 : Int32)) z0 z1 z2 z3 z4 z5) + (((p6 &&& (3 : Int32)) % (3 : Int32)).toInt64)) - (1 : Int64))
def mg0_410f (p1 p2 p3 p4 p5 p6 : Int32) (z0 : Int64) (z1 : Int64) (z2 : Int64) (z3 : Int64) (z4 : Int64) (z5 : Int64) : Int64 := if (2147483647 : Int64) < (((f9 ((((p6.toUInt32 >>> ((3 : Int32) &&& 31).toUInt32).toInt32) &&& (255 : Int32)) % (1 : Int32)) z0 z1 z2 z3 z4 z5) + (((p6 &&& (3 : Int32)) % (3 : Int32)).toInt64)) - (1 : Int64)) then (f9 ((((p6.toUInt32 >>> ((3 : Int32) &&& 31).toUInt32).toInt32) &&& (255 : Int32)) % (1 : Int32)) z0 z1 z2 z3 z4 z5) else (mg0_418f p1 p2 p3 p4 p5 p6 z0 z1 z2 z3 z4 z5)
def mg0_418g (p1 p2 p3 p4 p5 p6 : Int32) (z0 : Int64) (z1 : Int64) (z2 : Int64) (z3 : Int64) (z4 : Int64) (z5 : Int64) : Int64 := if (((f9 ((((p6.toUInt32 >>> ((3 : Int32) &&& 31).toUInt32).toInt32) &&& (255 : Int32)) % (1 : Int32)) z0 z1 z2 z3 z4 z5) + (((p6 &&& (3 : Int32)) % (3 : Int32)).toInt64)) - (1 : Int64)) < (-2147483648 : Int64) then (f9 ((((p6.toUInt32 >>> ((3 : Int32) &&& 31).toUInt32).toInt32) &&& (255 : Int32)) % (1 : Int32)) z0 z1 z2 z3 z4 z5) else (((f9 ((((p6.toUInt32 >>> ((3 : Int32) &&& 31).toUInt32).toInt32) &&& (255 : Int32)) % (1 : Int32)) z0 z1 z2 z3 z4 z5) + (((p6 &&& (3 : Int32)) % (3 : Int32)).toInt64)) - (1 : Int64))
def mg0_410g (p1 p2 p3 p4 p5 p6 : Int32) (z0 : Int64) (z1 : Int64) (z2 : Int64) (z3 : Int64) (z4 : Int64) (z5 : Int64) : Int64 := if (2147483647 : Int64) < (((f9 ((((p6.toUInt32 >>> ((3 : Int32) &&& 31).toUInt32).toInt32) &&& (255 : Int32)) % (1 : Int32)) z0 z1 z2 z3 z4 z5) + (((p6 &&& (3 : Int32)) % (3 : Int32)).toInt64)) - (1 : Int64)) then (f9 ((((p6.toUInt32 >>> ((3 : Int32) &&& 31).toUInt32).toInt32) &&& (255 : Int32)) % (1 : Int32)) z0 z1 z2 z3 z4 z5) else (mg0_418g p1 p2 p3 p4 p5 p6 z0 z1 z2 z3 z4 z5)
theorem own_cnt (p1 p2 p3 p4 p5 p6 : Int32) (z0 z1 z2 z3 z4 z5 : Int64) (o1 : z0.toInt < z1.toInt) (o2 : z1.toInt < z2.toInt) (o3 : z2.toInt < z3.toInt) (o4 : z3.toInt < z4.toInt) (o5 : z4.toInt < z5.toInt) (lo : -2147483648 ≤ z0.toInt ∧ z0.toInt ≤ 2147483647) : (f1 ((p1 &&& (2147483647 : Int32)) % (7 : Int32)) (mg0_80a p1 p2 p3 p4 p5 p6 z1 z2 z3 z4 z5)) = (0 : Int32) ∨ ((f1 ((p1 &&& (2147483647 : Int32)) % (7 : Int32)) (mg0_80a p1 p2 p3 p4 p5 p6 z1 z2 z3 z4 z5)) = (1 : Int32) ∧ z0.toInt ≤ 2147483647) ∨ ((f1 ((p1 &&& (2147483647 : Int32)) % (7 : Int32)) (mg0_80a p1 p2 p3 p4 p5 p6 z1 z2 z3 z4 z5)) = (2 : Int32) ∧ z1.toInt ≤ 2147483647) ∨ ((f1 ((p1 &&& (2147483647 : Int32)) % (7 : Int32)) (mg0_80a p1 p2 p3 p4 p5 p6 z1 z2 z3 z4 z5)) = (3 : Int32) ∧ z2.toInt ≤ 2147483647) ∨ ((f1 ((p1 &&& (2147483647 : Int32)) % (7 : Int32)) (mg0_80a p1 p2 p3 p4 p5 p6 z1 z2 z3 z4 z5)) = (4 : Int32) ∧ z3.toInt ≤ 2147483647) ∨ ((f1 ((p1 &&& (2147483647 : Int32)) % (7 : Int32)) (mg0_80a p1 p2 p3 p4 p5 p6 z1 z2 z3 z4 z5)) = (5 : Int32) ∧ z4.toInt ≤ 2147483647) ∨ ((f1 ((p1 &&& (2147483647 : Int32)) % (7 : Int32)) (mg0_80a p1 p2 p3 p4 p5 p6 z1 z2 z3 z4 z5)) = (6 : Int32) ∧ z5.toInt ≤ 2147483647) := by
  have w1 := own_m31 p1
  have w2 := c_irem (p1 &&& 2147483647) 7 7 (by decide)
  have m1 : (2147483647 : Int64).toInt = 2147483647 := by decide
  have e0 : (0 : Int32).toInt = 0 := by decide
  have e1 : (1 : Int32).toInt = 1 := by decide
  have e2 : (2 : Int32).toInt = 2 := by decide
  have e3 : (3 : Int32).toInt = 3 := by decide
  have e4 : (4 : Int32).toInt = 4 := by decide
  have e5 : (5 : Int32).toInt = 5 := by decide
  have e6 : (6 : Int32).toInt = 6 := by decide
  unfold f1 mg0_80a mg0_95a mg0_109a mg0_123a mg0_137a
  generalize (p1 &&& 2147483647) % 7 = y at *
  simp only [Int32.lt_iff_toInt_lt, Int64.lt_iff_toInt_lt, ← Int32.toInt_inj]
  repeat' split
  all_goals omega
theorem own_rg0 (p1 p2 p3 p4 p5 p6 : Int32) (z0 z1 z2 z3 z4 z5 : Int64) (o1 : z0.toInt < z1.toInt) (o2 : z1.toInt < z2.toInt) (o3 : z2.toInt < z3.toInt) (o4 : z3.toInt < z4.toInt) (o5 : z4.toInt < z5.toInt) (lo : -2147483648 ≤ z0.toInt ∧ z0.toInt ≤ 2147483647) (hi : z5.toInt ≤ 2147483647) : -2147483648 ≤ (mg0_410a p1 p2 p3 p4 p5 p6 z0 z1 z2 z3 z4 z5).toInt ∧ (mg0_410a p1 p2 p3 p4 p5 p6 z0 z1 z2 z3 z4 z5).toInt ≤ 2147483647 := by
  have v := own_prn6 _ z0 z1 z2 z3 z4 z5 (own_rem6 ((p6.toUInt32 >>> ((3 : Int32) &&& 31).toUInt32).toInt32 &&& (255 : Int32)) (own_and _)) lo.1 o1 o2 o3 o4 o5 hi
  have m1 : (2147483647 : Int64).toInt = 2147483647 := by decide
  have m2 : (-2147483648 : Int64).toInt = -2147483648 := by decide
  unfold mg0_410a mg0_418a
  simp only [Int64.lt_iff_toInt_lt]
  repeat' split
  all_goals omega
theorem own_rg1 (p1 p2 p3 p4 p5 p6 : Int32) (z0 z1 z2 z3 z4 z5 : Int64) (o1 : z0.toInt < z1.toInt) (o2 : z1.toInt < z2.toInt) (o3 : z2.toInt < z3.toInt) (o4 : z3.toInt < z4.toInt) (o5 : z4.toInt < z5.toInt) (lo : -2147483648 ≤ z0.toInt ∧ z0.toInt ≤ 2147483647) (hi : z4.toInt ≤ 2147483647) : -2147483648 ≤ (mg0_410b p1 p2 p3 p4 p5 p6 z0 z1 z2 z3 z4 z5).toInt ∧ (mg0_410b p1 p2 p3 p4 p5 p6 z0 z1 z2 z3 z4 z5).toInt ≤ 2147483647 := by
  have v := own_prn5 _ z0 z1 z2 z3 z4 z5 (own_rem5 ((p6.toUInt32 >>> ((3 : Int32) &&& 31).toUInt32).toInt32 &&& (255 : Int32)) (own_and _)) lo.1 o1 o2 o3 o4 hi
  have m1 : (2147483647 : Int64).toInt = 2147483647 := by decide
  have m2 : (-2147483648 : Int64).toInt = -2147483648 := by decide
  unfold mg0_410b mg0_418b
  simp only [Int64.lt_iff_toInt_lt]
  repeat' split
  all_goals omega
theorem own_rg2 (p1 p2 p3 p4 p5 p6 : Int32) (z0 z1 z2 z3 z4 z5 : Int64) (o1 : z0.toInt < z1.toInt) (o2 : z1.toInt < z2.toInt) (o3 : z2.toInt < z3.toInt) (o4 : z3.toInt < z4.toInt) (o5 : z4.toInt < z5.toInt) (lo : -2147483648 ≤ z0.toInt ∧ z0.toInt ≤ 2147483647) (hi : z3.toInt ≤ 2147483647) : -2147483648 ≤ (mg0_410c p1 p2 p3 p4 p5 p6 z0 z1 z2 z3 z4 z5).toInt ∧ (mg0_410c p1 p2 p3 p4 p5 p6 z0 z1 z2 z3 z4 z5).toInt ≤ 2147483647 := by
  have v := own_prn4 _ z0 z1 z2 z3 z4 z5 (own_rem4 ((p6.toUInt32 >>> ((3 : Int32) &&& 31).toUInt32).toInt32 &&& (255 : Int32)) (own_and _)) lo.1 o1 o2 o3 hi
  have m1 : (2147483647 : Int64).toInt = 2147483647 := by decide
  have m2 : (-2147483648 : Int64).toInt = -2147483648 := by decide
  unfold mg0_410c mg0_418c
  simp only [Int64.lt_iff_toInt_lt]
  repeat' split
  all_goals omega
theorem own_rg3 (p1 p2 p3 p4 p5 p6 : Int32) (z0 z1 z2 z3 z4 z5 : Int64) (o1 : z0.toInt < z1.toInt) (o2 : z1.toInt < z2.toInt) (o3 : z2.toInt < z3.toInt) (o4 : z3.toInt < z4.toInt) (o5 : z4.toInt < z5.toInt) (lo : -2147483648 ≤ z0.toInt ∧ z0.toInt ≤ 2147483647) (hi : z2.toInt ≤ 2147483647) : -2147483648 ≤ (mg0_410d p1 p2 p3 p4 p5 p6 z0 z1 z2 z3 z4 z5).toInt ∧ (mg0_410d p1 p2 p3 p4 p5 p6 z0 z1 z2 z3 z4 z5).toInt ≤ 2147483647 := by
  have v := own_prn3 _ z0 z1 z2 z3 z4 z5 (own_rem3 ((p6.toUInt32 >>> ((3 : Int32) &&& 31).toUInt32).toInt32 &&& (255 : Int32)) (own_and _)) lo.1 o1 o2 hi
  have m1 : (2147483647 : Int64).toInt = 2147483647 := by decide
  have m2 : (-2147483648 : Int64).toInt = -2147483648 := by decide
  unfold mg0_410d mg0_418d
  simp only [Int64.lt_iff_toInt_lt]
  repeat' split
  all_goals omega
theorem own_rg4 (p1 p2 p3 p4 p5 p6 : Int32) (z0 z1 z2 z3 z4 z5 : Int64) (o1 : z0.toInt < z1.toInt) (o2 : z1.toInt < z2.toInt) (o3 : z2.toInt < z3.toInt) (o4 : z3.toInt < z4.toInt) (o5 : z4.toInt < z5.toInt) (lo : -2147483648 ≤ z0.toInt ∧ z0.toInt ≤ 2147483647) (hi : z1.toInt ≤ 2147483647) : -2147483648 ≤ (mg0_410e p1 p2 p3 p4 p5 p6 z0 z1 z2 z3 z4 z5).toInt ∧ (mg0_410e p1 p2 p3 p4 p5 p6 z0 z1 z2 z3 z4 z5).toInt ≤ 2147483647 := by
  have v := own_prn2 _ z0 z1 z2 z3 z4 z5 (own_rem2 ((p6.toUInt32 >>> ((3 : Int32) &&& 31).toUInt32).toInt32 &&& (255 : Int32)) (own_and _)) lo.1 o1 hi
  have m1 : (2147483647 : Int64).toInt = 2147483647 := by decide
  have m2 : (-2147483648 : Int64).toInt = -2147483648 := by decide
  unfold mg0_410e mg0_418e
  simp only [Int64.lt_iff_toInt_lt]
  repeat' split
  all_goals omega
theorem own_rg5 (p1 p2 p3 p4 p5 p6 : Int32) (z0 z1 z2 z3 z4 z5 : Int64) (o1 : z0.toInt < z1.toInt) (o2 : z1.toInt < z2.toInt) (o3 : z2.toInt < z3.toInt) (o4 : z3.toInt < z4.toInt) (o5 : z4.toInt < z5.toInt) (lo : -2147483648 ≤ z0.toInt ∧ z0.toInt ≤ 2147483647) (hi : z0.toInt ≤ 2147483647) : -2147483648 ≤ (mg0_410f p1 p2 p3 p4 p5 p6 z0 z1 z2 z3 z4 z5).toInt ∧ (mg0_410f p1 p2 p3 p4 p5 p6 z0 z1 z2 z3 z4 z5).toInt ≤ 2147483647 := by
  have v := own_prn1 _ z0 z1 z2 z3 z4 z5 (own_rem1 ((p6.toUInt32 >>> ((3 : Int32) &&& 31).toUInt32).toInt32 &&& (255 : Int32)) (own_and _)) lo.1  hi
  have m1 : (2147483647 : Int64).toInt = 2147483647 := by decide
  have m2 : (-2147483648 : Int64).toInt = -2147483648 := by decide
  unfold mg0_410f mg0_418f
  simp only [Int64.lt_iff_toInt_lt]
  repeat' split
  all_goals omega
theorem own_rg6 (p1 p2 p3 p4 p5 p6 : Int32) (z0 z1 z2 z3 z4 z5 : Int64) (o1 : z0.toInt < z1.toInt) (o2 : z1.toInt < z2.toInt) (o3 : z2.toInt < z3.toInt) (o4 : z3.toInt < z4.toInt) (o5 : z4.toInt < z5.toInt) (lo : -2147483648 ≤ z0.toInt ∧ z0.toInt ≤ 2147483647)  : -2147483648 ≤ (mg0_410g p1 p2 p3 p4 p5 p6 z0 z1 z2 z3 z4 z5).toInt ∧ (mg0_410g p1 p2 p3 p4 p5 p6 z0 z1 z2 z3 z4 z5).toInt ≤ 2147483647 := by
  have v := own_prn1 _ z0 z1 z2 z3 z4 z5 (own_rem1 ((p6.toUInt32 >>> ((3 : Int32) &&& 31).toUInt32).toInt32 &&& (255 : Int32)) (own_and _)) lo.1  lo.2
  have m1 : (2147483647 : Int64).toInt = 2147483647 := by decide
  have m2 : (-2147483648 : Int64).toInt = -2147483648 := by decide
  unfold mg0_410g mg0_418g
  simp only [Int64.lt_iff_toInt_lt]
  repeat' split
  all_goals omega
abbrev lo0_0 (p1 p2 p3 p4 p5 p6 : Int32) : Array Slot := #[.val (.int p1), .val (.int p2), .val (.int p3), .val (.int p4), .val (.int p5), .val (.int p6), .unset, .unset, .unset, .unset, .unset, .unset, .unset, .unset, .unset, .unset, .unset, .unset, .unset, .unset, .unset, .unset, .unset, .unset, .unset, .unset, .unset, .unset, .unset, .unset, .unset, .unset, .unset, .unset]
abbrev lo0_1 (p1 p2 p3 p4 p5 p6 : Int32) : Array Slot := #[.val (.int p1), .val (.int p2), .val (.int p3), .val (.int p4), .val (.int p5), .val (.int p6), .val (.long (2147483647 : Int64)), .second, .unset, .unset, .unset, .unset, .unset, .unset, .unset, .unset, .unset, .unset, .unset, .unset, .unset, .unset, .unset, .unset, .unset, .unset, .unset, .unset, .unset, .unset, .unset, .unset, .unset, .unset]
abbrev lo0_2 (p1 p2 p3 p4 p5 p6 : Int32) : Array Slot := #[.val (.int p1), .val (.int p2), .val (.int p3), .val (.int p4), .val (.int p5), .val (.int p6), .val (.long (2147483647 : Int64)), .second, .val (.long (-2147483648 : Int64)), .second, .unset, .unset, .unset, .unset, .unset, .unset, .unset, .unset, .unset, .unset, .unset, .unset, .unset, .unset, .unset, .unset, .unset, .unset, .unset, .unset, .unset, .unset, .unset, .unset]
abbrev lo0_3 (p1 p2 p3 p4 p5 p6 : Int32) : Array Slot := #[.val (.int p1), .val (.int p2), .val (.int p3), .val (.int p4), .val (.int p5), .val (.int p6), .val (.long (2147483647 : Int64)), .second, .val (.long (-2147483648 : Int64)), .second, .val (.long (p2.toInt64)), .second, .unset, .unset, .unset, .unset, .unset, .unset, .unset, .unset, .unset, .unset, .unset, .unset, .unset, .unset, .unset, .unset, .unset, .unset, .unset, .unset, .unset, .unset]
abbrev lo0_4 (p1 p2 p3 p4 p5 p6 : Int32) : Array Slot := #[.val (.int p1), .val (.int p2), .val (.int p3), .val (.int p4), .val (.int p5), .val (.int p6), .val (.long (2147483647 : Int64)), .second, .val (.long (-2147483648 : Int64)), .second, .val (.long (p2.toInt64)), .second, .val (.long (((p2.toInt64) + (1 : Int64)) + ((p3 &&& (65535 : Int32)).toInt64))), .second, .unset, .unset, .unset, .unset, .unset, .unset, .unset, .unset, .unset, .unset, .unset, .unset, .unset, .unset, .unset, .unset, .unset, .unset, .unset, .unset]
abbrev lo0_5 (p1 p2 p3 p4 p5 p6 : Int32) : Array Slot := #[.val (.int p1), .val (.int p2), .val (.int p3), .val (.int p4), .val (.int p5), .val (.int p6), .val (.long (2147483647 : Int64)), .second, .val (.long (-2147483648 : Int64)), .second, .val (.long (p2.toInt64)), .second, .val (.long (((p2.toInt64) + (1 : Int64)) + ((p3 &&& (65535 : Int32)).toInt64))), .second, .val (.long (((((p2.toInt64) + (1 : Int64)) + ((p3 &&& (65535 : Int32)).toInt64)) + (1 : Int64)) + (((p3.toUInt32 >>> ((16 : Int32) &&& 31).toUInt32).toInt32).toInt64))), .second, .unset, .unset, .unset, .unset, .unset, .unset, .unset, .unset, .unset, .unset, .unset, .unset, .unset, .unset, .unset, .unset, .unset, .unset]
abbrev lo0_6 (p1 p2 p3 p4 p5 p6 : Int32) : Array Slot := #[.val (.int p1), .val (.int p2), .val (.int p3), .val (.int p4), .val (.int p5), .val (.int p6), .val (.long (2147483647 : Int64)), .second, .val (.long (-2147483648 : Int64)), .second, .val (.long (p2.toInt64)), .second, .val (.long (((p2.toInt64) + (1 : Int64)) + ((p3 &&& (65535 : Int32)).toInt64))), .second, .val (.long (((((p2.toInt64) + (1 : Int64)) + ((p3 &&& (65535 : Int32)).toInt64)) + (1 : Int64)) + (((p3.toUInt32 >>> ((16 : Int32) &&& 31).toUInt32).toInt32).toInt64))), .second, .val (.long (((((((p2.toInt64) + (1 : Int64)) + ((p3 &&& (65535 : Int32)).toInt64)) + (1 : Int64)) + (((p3.toUInt32 >>> ((16 : Int32) &&& 31).toUInt32).toInt32).toInt64)) + (1 : Int64)) + ((p4 &&& (65535 : Int32)).toInt64))), .second, .unset, .unset, .unset, .unset, .unset, .unset, .unset, .unset, .unset, .unset, .unset, .unset, .unset, .unset, .unset, .unset]
abbrev lo0_7 (p1 p2 p3 p4 p5 p6 : Int32) : Array Slot := #[.val (.int p1), .val (.int p2), .val (.int p3), .val (.int p4), .val (.int p5), .val (.int p6), .val (.long (2147483647 : Int64)), .second, .val (.long (-2147483648 : Int64)), .second, .val (.long (p2.toInt64)), .second, .val (.long (((p2.toInt64) + (1 : Int64)) + ((p3 &&& (65535 : Int32)).toInt64))), .second, .val (.long (((((p2.toInt64) + (1 : Int64)) + ((p3 &&& (65535 : Int32)).toInt64)) + (1 : Int64)) + (((p3.toUInt32 >>> ((16 : Int32) &&& 31).toUInt32).toInt32).toInt64))), .second, .val (.long (((((((p2.toInt64) + (1 : Int64)) + ((p3 &&& (65535 : Int32)).toInt64)) + (1 : Int64)) + (((p3.toUInt32 >>> ((16 : Int32) &&& 31).toUInt32).toInt32).toInt64)) + (1 : Int64)) + ((p4 &&& (65535 : Int32)).toInt64))), .second, .val (.long (((((((((p2.toInt64) + (1 : Int64)) + ((p3 &&& (65535 : Int32)).toInt64)) + (1 : Int64)) + (((p3.toUInt32 >>> ((16 : Int32) &&& 31).toUInt32).toInt32).toInt64)) + (1 : Int64)) + ((p4 &&& (65535 : Int32)).toInt64)) + (1 : Int64)) + (((p4.toUInt32 >>> ((16 : Int32) &&& 31).toUInt32).toInt32).toInt64))), .second, .unset, .unset, .unset, .unset, .unset, .unset, .unset, .unset, .unset, .unset, .unset, .unset, .unset, .unset]
abbrev lo0_8 (p1 p2 p3 p4 p5 p6 : Int32) : Array Slot := #[.val (.int p1), .val (.int p2), .val (.int p3), .val (.int p4), .val (.int p5), .val (.int p6), .val (.long (2147483647 : Int64)), .second, .val (.long (-2147483648 : Int64)), .second, .val (.long (p2.toInt64)), .second, .val (.long (((p2.toInt64) + (1 : Int64)) + ((p3 &&& (65535 : Int32)).toInt64))), .second, .val (.long (((((p2.toInt64) + (1 : Int64)) + ((p3 &&& (65535 : Int32)).toInt64)) + (1 : Int64)) + (((p3.toUInt32 >>> ((16 : Int32) &&& 31).toUInt32).toInt32).toInt64))), .second, .val (.long (((((((p2.toInt64) + (1 : Int64)) + ((p3 &&& (65535 : Int32)).toInt64)) + (1 : Int64)) + (((p3.toUInt32 >>> ((16 : Int32) &&& 31).toUInt32).toInt32).toInt64)) + (1 : Int64)) + ((p4 &&& (65535 : Int32)).toInt64))), .second, .val (.long (((((((((p2.toInt64) + (1 : Int64)) + ((p3 &&& (65535 : Int32)).toInt64)) + (1 : Int64)) + (((p3.toUInt32 >>> ((16 : Int32) &&& 31).toUInt32).toInt32).toInt64)) + (1 : Int64)) + ((p4 &&& (65535 : Int32)).toInt64)) + (1 : Int64)) + (((p4.toUInt32 >>> ((16 : Int32) &&& 31).toUInt32).toInt32).toInt64))), .second, .val (.long (((((((((((p2.toInt64) + (1 : Int64)) + ((p3 &&& (65535 : Int32)).toInt64)) + (1 : Int64)) + (((p3.toUInt32 >>> ((16 : Int32) &&& 31).toUInt32).toInt32).toInt64)) + (1 : Int64)) + ((p4 &&& (65535 : Int32)).toInt64)) + (1 : Int64)) + (((p4.toUInt32 >>> ((16 : Int32) &&& 31).toUInt32).toInt32).toInt64)) + (1 : Int64)) + ((p5 &&& (2147483647 : Int32)).toInt64))), .second, .unset, .unset, .unset, .unset, .unset, .unset, .unset, .unset, .unset, .unset, .unset, .unset]
abbrev lo0_9 (p1 p2 p3 p4 p5 p6 : Int32) (z0 z1 z2 z3 z4 z5 : Int64) : Array Slot := #[.val (.int p1), .val (.int p2), .val (.int p3), .val (.int p4), .val (.int p5), .val (.int p6), .val (.long (2147483647 : Int64)), .second, .val (.long (-2147483648 : Int64)), .second, .val (.long z0), .second, .val (.long z1), .second, .val (.long z2), .second, .val (.long z3), .second, .val (.long z4), .second, .val (.long z5), .second, .unset, .unset, .unset, .unset, .unset, .unset, .unset, .unset, .unset, .unset, .unset, .unset]
abbrev lo0_10 (p1 p2 p3 p4 p5 p6 : Int32) (z0 z1 z2 z3 z4 z5 : Int64) : Array Slot := #[.val (.int p1), .val (.int p2), .val (.int p3), .val (.int p4), .val (.int p5), .val (.int p6), .val (.long (2147483647 : Int64)), .second, .val (.long (-2147483648 : Int64)), .second, .val (.long z0), .second, .val (.long z1), .second, .val (.long z2), .second, .val (.long z3), .second, .val (.long z4), .second, .val (.long z5), .second, .val (.int (1 : Int32)), .unset, .unset, .unset, .unset, .unset, .unset, .unset, .unset, .unset, .unset, .unset]
abbrev lo0_11 (p1 p2 p3 p4 p5 p6 : Int32) (z0 z1 z2 z3 z4 z5 : Int64) : Array Slot := #[.val (.int p1), .val (.int p2), .val (.int p3), .val (.int p4), .val (.int p5), .val (.int p6), .val (.long (2147483647 : Int64)), .second, .val (.long (-2147483648 : Int64)), .second, .val (.long z0), .second, .val (.long z1), .second, .val (.long z2), .second, .val (.long z3), .second, .val (.long z4), .second, .val (.long z5), .second, .val (.int (2 : Int32)), .unset, .unset, .unset, .unset, .unset, .unset, .unset, .unset, .unset, .unset, .unset]
abbrev lo0_12 (p1 p2 p3 p4 p5 p6 : Int32) (z0 z1 z2 z3 z4 z5 : Int64) : Array Slot := #[.val (.int p1), .val (.int p2), .val (.int p3), .val (.int p4), .val (.int p5), .val (.int p6), .val (.long (2147483647 : Int64)), .second, .val (.long (-2147483648 : Int64)), .second, .val (.long z0), .second, .val (.long z1), .second, .val (.long z2), .second, .val (.long z3), .second, .val (.long z4), .second, .val (.long z5), .second, .val (.int (3 : Int32)), .unset, .unset, .unset, .unset, .unset, .unset, .unset, .unset, .unset, .unset, .unset]
abbrev lo0_13 (p1 p2 p3 p4 p5 p6 : Int32) (z0 z1 z2 z3 z4 z5 : Int64) : Array Slot := #[.val (.int p1), .val (.int p2), .val (.int p3), .val (.int p4), .val (.int p5), .val (.int p6), .val (.long (2147483647 : Int64)), .second, .val (.long (-2147483648 : Int64)), .second, .val (.long z0), .second, .val (.long z1), .second, .val (.long z2), .second, .val (.long z3), .second, .val (.long z4), .second, .val (.long z5), .second, .val (.int (4 : Int32)), .unset, .unset, .unset, .unset, .unset, .unset, .unset, .unset, .unset, .unset, .unset]
abbrev lo0_14 (p1 p2 p3 p4 p5 p6 : Int32) (z0 z1 z2 z3 z4 z5 : Int64) : Array Slot := #[.val (.int p1), .val (.int p2), .val (.int p3), .val (.int p4), .val (.int p5), .val (.int p6), .val (.long (2147483647 : Int64)), .second, .val (.long (-2147483648 : Int64)), .second, .val (.long z0), .second, .val (.long z1), .second, .val (.long z2), .second, .val (.long z3), .second, .val (.long z4), .second, .val (.long z5), .second, .val (.int (5 : Int32)), .unset, .unset, .unset, .unset, .unset, .unset, .unset, .unset, .unset, .unset, .unset]
abbrev lo0_15 (p1 p2 p3 p4 p5 p6 : Int32) (z0 z1 z2 z3 z4 z5 : Int64) : Array Slot := #[.val (.int p1), .val (.int p2), .val (.int p3), .val (.int p4), .val (.int p5), .val (.int p6), .val (.long (2147483647 : Int64)), .second, .val (.long (-2147483648 : Int64)), .second, .val (.long z0), .second, .val (.long z1), .second, .val (.long z2), .second, .val (.long z3), .second, .val (.long z4), .second, .val (.long z5), .second, .val (.int (6 : Int32)), .unset, .unset, .unset, .unset, .unset, .unset, .unset, .unset, .unset, .unset, .unset]
abbrev lo0_16 (p1 p2 p3 p4 p5 p6 : Int32) (z0 z1 z2 z3 z4 z5 : Int64) : Array Slot := #[.val (.int p1), .val (.int p2), .val (.int p3), .val (.int p4), .val (.int p5), .val (.int p6), .val (.long (2147483647 : Int64)), .second, .val (.long (-2147483648 : Int64)), .second, .val (.long z0), .second, .val (.long z1), .second, .val (.long z2), .second, .val (.long z3), .second, .val (.long z4), .second, .val (.long z5), .second, .val (.int (mg0_80a p1 p2 p3 p4 p5 p6 z1 z2 z3 z4 z5)), .unset, .unset, .unset, .unset, .unset, .unset, .unset, .unset, .unset, .unset, .unset]
abbrev lo0_17 (p1 p2 p3 p4 p5 p6 : Int32) (z0 z1 z2 z3 z4 z5 : Int64) : Array Slot := #[.val (.int p1), .val (.int p2), .val (.int p3), .val (.int p4), .val (.int p5), .val (.int p6), .val (.long (2147483647 : Int64)), .second, .val (.long (-2147483648 : Int64)), .second, .val (.long z0), .second, .val (.long z1), .second, .val (.long z2), .second, .val (.long z3), .second, .val (.long z4), .second, .val (.long z5), .second, .val (.int (mg0_80a p1 p2 p3 p4 p5 p6 z1 z2 z3 z4 z5)), .val (.int ((p1 &&& (2147483647 : Int32)) % (7 : Int32))), .unset, .unset, .unset, .unset, .unset, .unset, .unset, .unset, .unset, .unset]
abbrev lo0_18 (p1 p2 p3 p4 p5 p6 : Int32) (z0 z1 z2 z3 z4 z5 : Int64) : Array Slot := #[.val (.int p1), .val (.int p2), .val (.int p3), .val (.int p4), .val (.int p5), .val (.int p6), .val (.long (2147483647 : Int64)), .second, .val (.long (-2147483648 : Int64)), .second, .val (.long z0), .second, .val (.long z1), .second, .val (.long z2), .second, .val (.long z3), .second, .val (.long z4), .second, .val (.long z5), .second, .val (.int (mg0_80a p1 p2 p3 p4 p5 p6 z1 z2 z3 z4 z5)), .val (.int ((p1 &&& (2147483647 : Int32)) % (7 : Int32))), .val (.int (f1 ((p1 &&& (2147483647 : Int32)) % (7 : Int32)) (mg0_80a p1 p2 p3 p4 p5 p6 z1 z2 z3 z4 z5))), .unset, .unset, .unset, .unset, .unset, .unset, .unset, .unset, .unset]
abbrev lo0_19 (p1 p2 p3 p4 p5 p6 : Int32) (z0 z1 z2 z3 z4 z5 : Int64) (zc : Int32) : Array Slot := #[.val (.int p1), .val (.int p2), .val (.int p3), .val (.int p4), .val (.int p5), .val (.int p6), .val (.long (2147483647 : Int64)), .second, .val (.long (-2147483648 : Int64)), .second, .val (.long z0), .second, .val (.long z1), .second, .val (.long z2), .second, .val (.long z3), .second, .val (.long z4), .second, .val (.long z5), .second, .val (.int (mg0_80a p1 p2 p3 p4 p5 p6 z1 z2 z3 z4 z5)), .val (.int ((p1 &&& (2147483647 : Int32)) % (7 : Int32))), .val (.int zc), .unset, .unset, .unset, .unset, .unset, .unset, .unset, .unset, .unset]
abbrev lo0_20 (p1 p2 p3 p4 p5 p6 : Int32) (z0 z1 z2 z3 z4 z5 : Int64) (zc : Int32) (b360 : Addr) : Array Slot := #[.val (.int p1), .val (.int p2), .val (.int p3), .val (.int p4), .val (.int p5), .val (.int p6), .val (.long (2147483647 : Int64)), .second, .val (.long (-2147483648 : Int64)), .second, .val (.long z0), .second, .val (.long z1), .second, .val (.long z2), .second, .val (.long z3), .second, .val (.long z4), .second, .val (.long z5), .second, .val (.int (mg0_80a p1 p2 p3 p4 p5 p6 z1 z2 z3 z4 z5)), .val (.int ((p1 &&& (2147483647 : Int32)) % (7 : Int32))), .val (.int zc), .val (.ref b360), .unset, .unset, .unset, .unset, .unset, .unset, .unset, .unset]
abbrev lo0_21 (p1 p2 p3 p4 p5 p6 : Int32) (z0 z1 z2 z3 z4 z5 : Int64) (b360 : Addr) : Array Slot := #[.val (.int p1), .val (.int p2), .val (.int p3), .val (.int p4), .val (.int p5), .val (.int p6), .val (.long (2147483647 : Int64)), .second, .val (.long (-2147483648 : Int64)), .second, .val (.long z0), .second, .val (.long z1), .second, .val (.long z2), .second, .val (.long z3), .second, .val (.long z4), .second, .val (.long z5), .second, .val (.int (mg0_80a p1 p2 p3 p4 p5 p6 z1 z2 z3 z4 z5)), .val (.int ((p1 &&& (2147483647 : Int32)) % (7 : Int32))), .val (.int (6 : Int32)), .val (.ref b360), .unset, .unset, .unset, .unset, .unset, .unset, .unset, .unset]
abbrev lo0_22 (p1 p2 p3 p4 p5 p6 : Int32) (z0 z1 z2 z3 z4 z5 : Int64) (b360 b380 : Addr) : Array Slot := #[.val (.int p1), .val (.int p2), .val (.int p3), .val (.int p4), .val (.int p5), .val (.int p6), .val (.long (2147483647 : Int64)), .second, .val (.long (-2147483648 : Int64)), .second, .val (.long z0), .second, .val (.long z1), .second, .val (.long z2), .second, .val (.long z3), .second, .val (.long z4), .second, .val (.long z5), .second, .val (.int (mg0_80a p1 p2 p3 p4 p5 p6 z1 z2 z3 z4 z5)), .val (.int ((p1 &&& (2147483647 : Int32)) % (7 : Int32))), .val (.int (6 : Int32)), .val (.ref b360), .val (.ref b380), .unset, .unset, .unset, .unset, .unset, .unset, .unset]
abbrev lo0_23 (p1 p2 p3 p4 p5 p6 : Int32) (z0 z1 z2 z3 z4 z5 : Int64) (b360 b380 : Addr) : Array Slot := #[.val (.int p1), .val (.int p2), .val (.int p3), .val (.int p4), .val (.int p5), .val (.int p6), .val (.long (2147483647 : Int64)), .second, .val (.long (-2147483648 : Int64)), .second, .val (.long z0), .second, .val (.long z1), .second, .val (.long z2), .second, .val (.long z3), .second, .val (.long z4), .second, .val (.long z5), .second, .val (.int (mg0_80a p1 p2 p3 p4 p5 p6 z1 z2 z3 z4 z5)), .val (.int ((p1 &&& (2147483647 : Int32)) % (7 : Int32))), .val (.int (6 : Int32)), .val (.ref b360), .val (.ref b380), .val (.int (6 : Int32)), .unset, .unset, .unset, .unset, .unset, .unset]
abbrev lo0_24 (p1 p2 p3 p4 p5 p6 : Int32) (z0 z1 z2 z3 z4 z5 : Int64) (b360 b380 : Addr) : Array Slot := #[.val (.int p1), .val (.int p2), .val (.int p3), .val (.int p4), .val (.int p5), .val (.int p6), .val (.long (2147483647 : Int64)), .second, .val (.long (-2147483648 : Int64)), .second, .val (.long z0), .second, .val (.long z1), .second, .val (.long z2), .second, .val (.long z3), .second, .val (.long z4), .second, .val (.long z5), .second, .val (.int (mg0_80a p1 p2 p3 p4 p5 p6 z1 z2 z3 z4 z5)), .val (.int ((p1 &&& (2147483647 : Int32)) % (7 : Int32))), .val (.int (6 : Int32)), .val (.ref b360), .val (.ref b380), .val (.int (6 : Int32)), .val (.int ((((p1.toUInt32 >>> ((8 : Int32) &&& 31).toUInt32).toInt32) &&& (255 : Int32)) % (6 : Int32))), .unset, .unset, .unset, .unset, .unset]
abbrev lo0_25 (p1 p2 p3 p4 p5 p6 : Int32) (z0 z1 z2 z3 z4 z5 : Int64) (b360 b380 : Addr) : Array Slot := #[.val (.int p1), .val (.int p2), .val (.int p3), .val (.int p4), .val (.int p5), .val (.int p6), .val (.long (2147483647 : Int64)), .second, .val (.long (-2147483648 : Int64)), .second, .val (.long z0), .second, .val (.long z1), .second, .val (.long z2), .second, .val (.long z3), .second, .val (.long z4), .second, .val (.long z5), .second, .val (.int (mg0_80a p1 p2 p3 p4 p5 p6 z1 z2 z3 z4 z5)), .val (.int ((p1 &&& (2147483647 : Int32)) % (7 : Int32))), .val (.int (6 : Int32)), .val (.ref b360), .val (.ref b380), .val (.int (6 : Int32)), .val (.int ((((p1.toUInt32 >>> ((8 : Int32) &&& 31).toUInt32).toInt32) &&& (255 : Int32)) % (6 : Int32))), .val (.long (f9 ((((p1.toUInt32 >>> ((8 : Int32) &&& 31).toUInt32).toInt32) &&& (255 : Int32)) % (6 : Int32)) z0 z1 z2 z3 z4 z5)), .second, .unset, .unset, .unset]
abbrev lo0_26 (p1 p2 p3 p4 p5 p6 : Int32) (z0 z1 z2 z3 z4 z5 : Int64) (b360 b380 : Addr) : Array Slot := #[.val (.int p1), .val (.int p2), .val (.int p3), .val (.int p4), .val (.int p5), .val (.int p6), .val (.long (2147483647 : Int64)), .second, .val (.long (-2147483648 : Int64)), .second, .val (.long z0), .second, .val (.long z1), .second, .val (.long z2), .second, .val (.long z3), .second, .val (.long z4), .second, .val (.long z5), .second, .val (.int (mg0_80a p1 p2 p3 p4 p5 p6 z1 z2 z3 z4 z5)), .val (.int ((p1 &&& (2147483647 : Int32)) % (7 : Int32))), .val (.int (6 : Int32)), .val (.ref b360), .val (.ref b380), .val (.int (6 : Int32)), .val (.int ((((p1.toUInt32 >>> ((8 : Int32) &&& 31).toUInt32).toInt32) &&& (255 : Int32)) % (6 : Int32))), .val (.long (f9 ((((p1.toUInt32 >>> ((8 : Int32) &&& 31).toUInt32).toInt32) &&& (255 : Int32)) % (6 : Int32)) z0 z1 z2 z3 z4 z5)), .second, .val (.int ((((p6.toUInt32 >>> ((3 : Int32) &&& 31).toUInt32).toInt32) &&& (255 : Int32)) % (6 : Int32))), .unset, .unset]
abbrev lo0_27 (p1 p2 p3 p4 p5 p6 : Int32) (z0 z1 z2 z3 z4 z5 : Int64) (b360 b380 : Addr) : Array Slot := #[.val (.int p1), .val (.int p2), .val (.int p3), .val (.int p4), .val (.int p5), .val (.int p6), .val (.long (2147483647 : Int64)), .second, .val (.long (-2147483648 : Int64)), .second, .val (.long z0), .second, .val (.long z1), .second, .val (.long z2), .second, .val (.long z3), .second, .val (.long z4), .second, .val (.long z5), .second, .val (.int (mg0_80a p1 p2 p3 p4 p5 p6 z1 z2 z3 z4 z5)), .val (.int ((p1 &&& (2147483647 : Int32)) % (7 : Int32))), .val (.int (6 : Int32)), .val (.ref b360), .val (.ref b380), .val (.int (6 : Int32)), .val (.int ((((p1.toUInt32 >>> ((8 : Int32) &&& 31).toUInt32).toInt32) &&& (255 : Int32)) % (6 : Int32))), .val (.long (f9 ((((p1.toUInt32 >>> ((8 : Int32) &&& 31).toUInt32).toInt32) &&& (255 : Int32)) % (6 : Int32)) z0 z1 z2 z3 z4 z5)), .second, .val (.int ((((p6.toUInt32 >>> ((3 : Int32) &&& 31).toUInt32).toInt32) &&& (255 : Int32)) % (6 : Int32))), .val (.long (f9 ((((p6.toUInt32 >>> ((3 : Int32) &&& 31).toUInt32).toInt32) &&& (255 : Int32)) % (6 : Int32)) z0 z1 z2 z3 z4 z5)), .second]
abbrev lo0_28 (p1 p2 p3 p4 p5 p6 : Int32) (z0 z1 z2 z3 z4 z5 : Int64) (b360 b380 : Addr) : Array Slot := #[.val (.int p1), .val (.int p2), .val (.int p3), .val (.int p4), .val (.int p5), .val (.int p6), .val (.long (2147483647 : Int64)), .second, .val (.long (-2147483648 : Int64)), .second, .val (.long z0), .second, .val (.long z1), .second, .val (.long z2), .second, .val (.long z3), .second, .val (.long z4), .second, .val (.long z5), .second, .val (.int (mg0_80a p1 p2 p3 p4 p5 p6 z1 z2 z3 z4 z5)), .val (.int ((p1 &&& (2147483647 : Int32)) % (7 : Int32))), .val (.int (6 : Int32)), .val (.ref b360), .val (.ref b380), .val (.int (6 : Int32)), .val (.int ((((p1.toUInt32 >>> ((8 : Int32) &&& 31).toUInt32).toInt32) &&& (255 : Int32)) % (6 : Int32))), .val (.long (((f9 ((((p6.toUInt32 >>> ((3 : Int32) &&& 31).toUInt32).toInt32) &&& (255 : Int32)) % (6 : Int32)) z0 z1 z2 z3 z4 z5) + (((p6 &&& (3 : Int32)) % (3 : Int32)).toInt64)) - (1 : Int64))), .second, .val (.int ((((p6.toUInt32 >>> ((3 : Int32) &&& 31).toUInt32).toInt32) &&& (255 : Int32)) % (6 : Int32))), .val (.long (f9 ((((p6.toUInt32 >>> ((3 : Int32) &&& 31).toUInt32).toInt32) &&& (255 : Int32)) % (6 : Int32)) z0 z1 z2 z3 z4 z5)), .second]
abbrev lo0_29 (p1 p2 p3 p4 p5 p6 : Int32) (z0 z1 z2 z3 z4 z5 : Int64) (b360 b380 : Addr) : Array Slot := #[.val (.int p1), .val (.int p2), .val (.int p3), .val (.int p4), .val (.int p5), .val (.int p6), .val (.long (2147483647 : Int64)), .second, .val (.long (-2147483648 : Int64)), .second, .val (.long z0), .second, .val (.long z1), .second, .val (.long z2), .second, .val (.long z3), .second, .val (.long z4), .second, .val (.long z5), .second, .val (.int (mg0_80a p1 p2 p3 p4 p5 p6 z1 z2 z3 z4 z5)), .val (.int ((p1 &&& (2147483647 : Int32)) % (7 : Int32))), .val (.int (6 : Int32)), .val (.ref b360), .val (.ref b380), .val (.int (6 : Int32)), .val (.int ((((p1.toUInt32 >>> ((8 : Int32) &&& 31).toUInt32).toInt32) &&& (255 : Int32)) % (6 : Int32))), .val (.long (f9 ((((p6.toUInt32 >>> ((3 : Int32) &&& 31).toUInt32).toInt32) &&& (255 : Int32)) % (6 : Int32)) z0 z1 z2 z3 z4 z5)), .second, .val (.int ((((p6.toUInt32 >>> ((3 : Int32) &&& 31).toUInt32).toInt32) &&& (255 : Int32)) % (6 : Int32))), .val (.long (f9 ((((p6.toUInt32 >>> ((3 : Int32) &&& 31).toUInt32).toInt32) &&& (255 : Int32)) % (6 : Int32)) z0 z1 z2 z3 z4 z5)), .second]
abbrev lo0_30 (p1 p2 p3 p4 p5 p6 : Int32) (z0 z1 z2 z3 z4 z5 : Int64) (b360 b380 : Addr) : Array Slot := #[.val (.int p1), .val (.int p2), .val (.int p3), .val (.int p4), .val (.int p5), .val (.int p6), .val (.long (2147483647 : Int64)), .second, .val (.long (-2147483648 : Int64)), .second, .val (.long z0), .second, .val (.long z1), .second, .val (.long z2), .second, .val (.long z3), .second, .val (.long z4), .second, .val (.long z5), .second, .val (.int (mg0_80a p1 p2 p3 p4 p5 p6 z1 z2 z3 z4 z5)), .val (.int ((p1 &&& (2147483647 : Int32)) % (7 : Int32))), .val (.int (6 : Int32)), .val (.ref b360), .val (.ref b380), .val (.int (6 : Int32)), .val (.int ((((p1.toUInt32 >>> ((8 : Int32) &&& 31).toUInt32).toInt32) &&& (255 : Int32)) % (6 : Int32))), .val (.long (mg0_410a p1 p2 p3 p4 p5 p6 z0 z1 z2 z3 z4 z5)), .second, .val (.int ((((p6.toUInt32 >>> ((3 : Int32) &&& 31).toUInt32).toInt32) &&& (255 : Int32)) % (6 : Int32))), .val (.long (f9 ((((p6.toUInt32 >>> ((3 : Int32) &&& 31).toUInt32).toInt32) &&& (255 : Int32)) % (6 : Int32)) z0 z1 z2 z3 z4 z5)), .second]
abbrev lo0_31 (p1 p2 p3 p4 p5 p6 : Int32) (z0 z1 z2 z3 z4 z5 : Int64) (b360 b380 : Addr) : Array Slot := #[.val (.int p1), .val (.int p2), .val (.int p3), .val (.int p4), .val (.int p5), .val (.int p6), .val (.long (2147483647 : Int64)), .second, .val (.long (-2147483648 : Int64)), .second, .val (.long z0), .second, .val (.long z1), .second, .val (.long z2), .second, .val (.long z3), .second, .val (.long z4), .second, .val (.long z5), .second, .val (.int (mg0_80a p1 p2 p3 p4 p5 p6 z1 z2 z3 z4 z5)), .val (.int ((p1 &&& (2147483647 : Int32)) % (7 : Int32))), .val (.int (6 : Int32)), .val (.ref b360), .val (.ref b380), .val (.int (6 : Int32)), .val (.int ((((p1.toUInt32 >>> ((8 : Int32) &&& 31).toUInt32).toInt32) &&& (255 : Int32)) % (6 : Int32))), .val (.long (mg0_410a p1 p2 p3 p4 p5 p6 z0 z1 z2 z3 z4 z5)), .second, .val (.int (ex0 (6 : Int32) (mg0_410a p1 p2 p3 p4 p5 p6 z0 z1 z2 z3 z4 z5) z0 z1 z2 z3 z4 z5)), .val (.long (f9 ((((p6.toUInt32 >>> ((3 : Int32) &&& 31).toUInt32).toInt32) &&& (255 : Int32)) % (6 : Int32)) z0 z1 z2 z3 z4 z5)), .second]
abbrev lo0_32 (p1 p2 p3 p4 p5 p6 : Int32) (z0 z1 z2 z3 z4 z5 : Int64) (b360 b380 : Addr) : Array Slot := #[.val (.int p1), .val (.int p2), .val (.int p3), .val (.int p4), .val (.int p5), .val (.int p6), .val (.long (2147483647 : Int64)), .second, .val (.long (-2147483648 : Int64)), .second, .val (.long z0), .second, .val (.long z1), .second, .val (.long z2), .second, .val (.long z3), .second, .val (.long z4), .second, .val (.long z5), .second, .val (.int (mg0_80a p1 p2 p3 p4 p5 p6 z1 z2 z3 z4 z5)), .val (.int ((p1 &&& (2147483647 : Int32)) % (7 : Int32))), .val (.int (6 : Int32)), .val (.ref b360), .val (.ref b380), .val (.int (6 : Int32)), .val (.int ((((p1.toUInt32 >>> ((8 : Int32) &&& 31).toUInt32).toInt32) &&& (255 : Int32)) % (6 : Int32))), .val (.long (p6.toInt64)), .second, .unset, .unset, .unset]
abbrev lo0_33 (p1 p2 p3 p4 p5 p6 : Int32) (z0 z1 z2 z3 z4 z5 : Int64) (b360 b380 : Addr) : Array Slot := #[.val (.int p1), .val (.int p2), .val (.int p3), .val (.int p4), .val (.int p5), .val (.int p6), .val (.long (2147483647 : Int64)), .second, .val (.long (-2147483648 : Int64)), .second, .val (.long z0), .second, .val (.long z1), .second, .val (.long z2), .second, .val (.long z3), .second, .val (.long z4), .second, .val (.long z5), .second, .val (.int (mg0_80a p1 p2 p3 p4 p5 p6 z1 z2 z3 z4 z5)), .val (.int ((p1 &&& (2147483647 : Int32)) % (7 : Int32))), .val (.int (6 : Int32)), .val (.ref b360), .val (.ref b380), .val (.int (6 : Int32)), .val (.int ((((p1.toUInt32 >>> ((8 : Int32) &&& 31).toUInt32).toInt32) &&& (255 : Int32)) % (6 : Int32))), .val (.long (p6.toInt64)), .second, .val (.int (ex0 (6 : Int32) (p6.toInt64) z0 z1 z2 z3 z4 z5)), .unset, .unset]
abbrev lo0_34 (p1 p2 p3 p4 p5 p6 : Int32) (z0 z1 z2 z3 z4 z5 : Int64) (b360 : Addr) : Array Slot := #[.val (.int p1), .val (.int p2), .val (.int p3), .val (.int p4), .val (.int p5), .val (.int p6), .val (.long (2147483647 : Int64)), .second, .val (.long (-2147483648 : Int64)), .second, .val (.long z0), .second, .val (.long z1), .second, .val (.long z2), .second, .val (.long z3), .second, .val (.long z4), .second, .val (.long z5), .second, .val (.int (mg0_80a p1 p2 p3 p4 p5 p6 z1 z2 z3 z4 z5)), .val (.int ((p1 &&& (2147483647 : Int32)) % (7 : Int32))), .val (.int (5 : Int32)), .val (.ref b360), .unset, .unset, .unset, .unset, .unset, .unset, .unset, .unset]
abbrev lo0_35 (p1 p2 p3 p4 p5 p6 : Int32) (z0 z1 z2 z3 z4 z5 : Int64) (b360 b399 : Addr) : Array Slot := #[.val (.int p1), .val (.int p2), .val (.int p3), .val (.int p4), .val (.int p5), .val (.int p6), .val (.long (2147483647 : Int64)), .second, .val (.long (-2147483648 : Int64)), .second, .val (.long z0), .second, .val (.long z1), .second, .val (.long z2), .second, .val (.long z3), .second, .val (.long z4), .second, .val (.long z5), .second, .val (.int (mg0_80a p1 p2 p3 p4 p5 p6 z1 z2 z3 z4 z5)), .val (.int ((p1 &&& (2147483647 : Int32)) % (7 : Int32))), .val (.int (5 : Int32)), .val (.ref b360), .val (.ref b399), .unset, .unset, .unset, .unset, .unset, .unset, .unset]
abbrev lo0_36 (p1 p2 p3 p4 p5 p6 : Int32) (z0 z1 z2 z3 z4 z5 : Int64) (b360 b399 : Addr) : Array Slot := #[.val (.int p1), .val (.int p2), .val (.int p3), .val (.int p4), .val (.int p5), .val (.int p6), .val (.long (2147483647 : Int64)), .second, .val (.long (-2147483648 : Int64)), .second, .val (.long z0), .second, .val (.long z1), .second, .val (.long z2), .second, .val (.long z3), .second, .val (.long z4), .second, .val (.long z5), .second, .val (.int (mg0_80a p1 p2 p3 p4 p5 p6 z1 z2 z3 z4 z5)), .val (.int ((p1 &&& (2147483647 : Int32)) % (7 : Int32))), .val (.int (5 : Int32)), .val (.ref b360), .val (.ref b399), .val (.int (5 : Int32)), .unset, .unset, .unset, .unset, .unset, .unset]
abbrev lo0_37 (p1 p2 p3 p4 p5 p6 : Int32) (z0 z1 z2 z3 z4 z5 : Int64) (b360 b399 : Addr) : Array Slot := #[.val (.int p1), .val (.int p2), .val (.int p3), .val (.int p4), .val (.int p5), .val (.int p6), .val (.long (2147483647 : Int64)), .second, .val (.long (-2147483648 : Int64)), .second, .val (.long z0), .second, .val (.long z1), .second, .val (.long z2), .second, .val (.long z3), .second, .val (.long z4), .second, .val (.long z5), .second, .val (.int (mg0_80a p1 p2 p3 p4 p5 p6 z1 z2 z3 z4 z5)), .val (.int ((p1 &&& (2147483647 : Int32)) % (7 : Int32))), .val (.int (5 : Int32)), .val (.ref b360), .val (.ref b399), .val (.int (5 : Int32)), .val (.int ((((p1.toUInt32 >>> ((8 : Int32) &&& 31).toUInt32).toInt32) &&& (255 : Int32)) % (5 : Int32))), .unset, .unset, .unset, .unset, .unset]
abbrev lo0_38 (p1 p2 p3 p4 p5 p6 : Int32) (z0 z1 z2 z3 z4 z5 : Int64) (b360 b399 : Addr) : Array Slot := #[.val (.int p1), .val (.int p2), .val (.int p3), .val (.int p4), .val (.int p5), .val (.int p6), .val (.long (2147483647 : Int64)), .second, .val (.long (-2147483648 : Int64)), .second, .val (.long z0), .second, .val (.long z1), .second, .val (.long z2), .second, .val (.long z3), .second, .val (.long z4), .second, .val (.long z5), .second, .val (.int (mg0_80a p1 p2 p3 p4 p5 p6 z1 z2 z3 z4 z5)), .val (.int ((p1 &&& (2147483647 : Int32)) % (7 : Int32))), .val (.int (5 : Int32)), .val (.ref b360), .val (.ref b399), .val (.int (5 : Int32)), .val (.int ((((p1.toUInt32 >>> ((8 : Int32) &&& 31).toUInt32).toInt32) &&& (255 : Int32)) % (5 : Int32))), .val (.long (f9 ((((p1.toUInt32 >>> ((8 : Int32) &&& 31).toUInt32).toInt32) &&& (255 : Int32)) % (5 : Int32)) z0 z1 z2 z3 z4 z5)), .second, .unset, .unset, .unset]
abbrev lo0_39 (p1 p2 p3 p4 p5 p6 : Int32) (z0 z1 z2 z3 z4 z5 : Int64) (b360 b399 : Addr) : Array Slot := #[.val (.int p1), .val (.int p2), .val (.int p3), .val (.int p4), .val (.int p5), .val (.int p6), .val (.long (2147483647 : Int64)), .second, .val (.long (-2147483648 : Int64)), .second, .val (.long z0), .second, .val (.long z1), .second, .val (.long z2), .second, .val (.long z3), .second, .val (.long z4), .second, .val (.long z5), .second, .val (.int (mg0_80a p1 p2 p3 p4 p5 p6 z1 z2 z3 z4 z5)), .val (.int ((p1 &&& (2147483647 : Int32)) % (7 : Int32))), .val (.int (5 : Int32)), .val (.ref b360), .val (.ref b399), .val (.int (5 : Int32)), .val (.int ((((p1.toUInt32 >>> ((8 : Int32) &&& 31).toUInt32).toInt32) &&& (255 : Int32)) % (5 : Int32))), .val (.long (f9 ((((p1.toUInt32 >>> ((8 : Int32) &&& 31).toUInt32).toInt32) &&& (255 : Int32)) % (5 : Int32)) z0 z1 z2 z3 z4 z5)), .second, .val (.int ((((p6.toUInt32 >>> ((3 : Int32) &&& 31).toUInt32).toInt32) &&& (255 : Int32)) % (5 : Int32))), .unset, .unset]
abbrev lo0_40 (p1 p2 p3 p4 p5 p6 : Int32) (z0 z1 z2 z3 z4 z5 : Int64) (b360 b399 : Addr) : Array Slot := #[.val (.int p1), .val (.int p2), .val (.int p3), .val (.int p4), .val (.int p5), .val (.int p6), .val (.long (2147483647 : Int64)), .second, .val (.long (-2147483648 : Int64)), .second, .val (.long z0), .second, .val (.long z1), .second, .val (.long z2), .second, .val (.long z3), .second, .val (.long z4), .second, .val (.long z5), .second, .val (.int (mg0_80a p1 p2 p3 p4 p5 p6 z1 z2 z3 z4 z5)), .val (.int ((p1 &&& (2147483647 : Int32)) % (7 : Int32))), .val (.int (5 : Int32)), .val (.ref b360), .val (.ref b399), .val (.int (5 : Int32)), .val (.int ((((p1.toUInt32 >>> ((8 : Int32) &&& 31).toUInt32).toInt32) &&& (255 : Int32)) % (5 : Int32))), .val (.long (f9 ((((p1.toUInt32 >>> ((8 : Int32) &&& 31).toUInt32).toInt32) &&& (255 : Int32)) % (5 : Int32)) z0 z1 z2 z3 z4 z5)), .second, .val (.int ((((p6.toUInt32 >>> ((3 : Int32) &&& 31).toUInt32).toInt32) &&& (255 : Int32)) % (5 : Int32))), .val (.long (f9 ((((p6.toUInt32 >>> ((3 : Int32) &&& 31).toUInt32).toInt32) &&& (255 : Int32)) % (5 : Int32)) z0 z1 z2 z3 z4 z5)), .second]
abbrev lo0_41 (p1 p2 p3 p4 p5 p6 : Int32) (z0 z1 z2 z3 z4 z5 : Int64) (b360 b399 : Addr) : Array Slot := #[.val (.int p1), .val (.int p2), .val (.int p3), .val (.int p4), .val (.int p5), .val (.int p6), .val (.long (2147483647 : Int64)), .second, .val (.long (-2147483648 : Int64)), .second, .val (.long z0), .second, .val (.long z1), .second, .val (.long z2), .second, .val (.long z3), .second, .val (.long z4), .second, .val (.long z5), .second, .val (.int (mg0_80a p1 p2 p3 p4 p5 p6 z1 z2 z3 z4 z5)), .val (.int ((p1 &&& (2147483647 : Int32)) % (7 : Int32))), .val (.int (5 : Int32)), .val (.ref b360), .val (.ref b399), .val (.int (5 : Int32)), .val (.int ((((p1.toUInt32 >>> ((8 : Int32) &&& 31).toUInt32).toInt32) &&& (255 : Int32)) % (5 : Int32))), .val (.long (((f9 ((((p6.toUInt32 >>> ((3 : Int32) &&& 31).toUInt32).toInt32) &&& (255 : Int32)) % (5 : Int32)) z0 z1 z2 z3 z4 z5) + (((p6 &&& (3 : Int32)) % (3 : Int32)).toInt64)) - (1 : Int64))), .second, .val (.int ((((p6.toUInt32 >>> ((3 : Int32) &&& 31).toUInt32).toInt32) &&& (255 : Int32)) % (5 : Int32))), .val (.long (f9 ((((p6.toUInt32 >>> ((3 : Int32) &&& 31).toUInt32).toInt32) &&& (255 : Int32)) % (5 : Int32)) z0 z1 z2 z3 z4 z5)), .second]
abbrev lo0_42 (p1 p2 p3 p4 p5 p6 : Int32) (z0 z1 z2 z3 z4 z5 : Int64) (b360 b399 : Addr) : Array Slot := #[.val (.int p1), .val (.int p2), .val (.int p3), .val (.int p4), .val (.int p5), .val (.int p6), .val (.long (2147483647 : Int64)), .second, .val (.long (-2147483648 : Int64)), .second, .val (.long z0), .second, .val (.long z1), .second, .val (.long z2), .second, .val (.long z3), .second, .val (.long z4), .second, .val (.long z5), .second, .val (.int (mg0_80a p1 p2 p3 p4 p5 p6 z1 z2 z3 z4 z5)), .val (.int ((p1 &&& (2147483647 : Int32)) % (7 : Int32))), .val (.int (5 : Int32)), .val (.ref b360), .val (.ref b399), .val (.int (5 : Int32)), .val (.int ((((p1.toUInt32 >>> ((8 : Int32) &&& 31).toUInt32).toInt32) &&& (255 : Int32)) % (5 : Int32))), .val (.long (f9 ((((p6.toUInt32 >>> ((3 : Int32) &&& 31).toUInt32).toInt32) &&& (255 : Int32)) % (5 : Int32)) z0 z1 z2 z3 z4 z5)), .second, .val (.int ((((p6.toUInt32 >>> ((3 : Int32) &&& 31).toUInt32).toInt32) &&& (255 : Int32)) % (5 : Int32))), .val (.long (f9 ((((p6.toUInt32 >>> ((3 : Int32) &&& 31).toUInt32).toInt32) &&& (255 : Int32)) % (5 : Int32)) z0 z1 z2 z3 z4 z5)), .second]
abbrev lo0_43 (p1 p2 p3 p4 p5 p6 : Int32) (z0 z1 z2 z3 z4 z5 : Int64) (b360 b399 : Addr) : Array Slot := #[.val (.int p1), .val (.int p2), .val (.int p3), .val (.int p4), .val (.int p5), .val (.int p6), .val (.long (2147483647 : Int64)), .second, .val (.long (-2147483648 : Int64)), .second, .val (.long z0), .second, .val (.long z1), .second, .val (.long z2), .second, .val (.long z3), .second, .val (.long z4), .second, .val (.long z5), .second, .val (.int (mg0_80a p1 p2 p3 p4 p5 p6 z1 z2 z3 z4 z5)), .val (.int ((p1 &&& (2147483647 : Int32)) % (7 : Int32))), .val (.int (5 : Int32)), .val (.ref b360), .val (.ref b399), .val (.int (5 : Int32)), .val (.int ((((p1.toUInt32 >>> ((8 : Int32) &&& 31).toUInt32).toInt32) &&& (255 : Int32)) % (5 : Int32))), .val (.long (mg0_410b p1 p2 p3 p4 p5 p6 z0 z1 z2 z3 z4 z5)), .second, .val (.int ((((p6.toUInt32 >>> ((3 : Int32) &&& 31).toUInt32).toInt32) &&& (255 : Int32)) % (5 : Int32))), .val (.long (f9 ((((p6.toUInt32 >>> ((3 : Int32) &&& 31).toUInt32).toInt32) &&& (255 : Int32)) % (5 : Int32)) z0 z1 z2 z3 z4 z5)), .second]
abbrev lo0_44 (p1 p2 p3 p4 p5 p6 : Int32) (z0 z1 z2 z3 z4 z5 : Int64) (b360 b399 : Addr) : Array Slot := #[.val (.int p1), .val (.int p2), .val (.int p3), .val (.int p4), .val (.int p5), .val (.int p6), .val (.long (2147483647 : Int64)), .second, .val (.long (-2147483648 : Int64)), .second, .val (.long z0), .second, .val (.long z1), .second, .val (.long z2), .second, .val (.long z3), .second, .val (.long z4), .second, .val (.long z5), .second, .val (.int (mg0_80a p1 p2 p3 p4 p5 p6 z1 z2 z3 z4 z5)), .val (.int ((p1 &&& (2147483647 : Int32)) % (7 : Int32))), .val (.int (5 : Int32)), .val (.ref b360), .val (.ref b399), .val (.int (5 : Int32)), .val (.int ((((p1.toUInt32 >>> ((8 : Int32) &&& 31).toUInt32).toInt32) &&& (255 : Int32)) % (5 : Int32))), .val (.long (mg0_410b p1 p2 p3 p4 p5 p6 z0 z1 z2 z3 z4 z5)), .second, .val (.int (ex0 (5 : Int32) (mg0_410b p1 p2 p3 p4 p5 p6 z0 z1 z2 z3 z4 z5) z0 z1 z2 z3 z4 z5)), .val (.long (f9 ((((p6.toUInt32 >>> ((3 : Int32) &&& 31).toUInt32).toInt32) &&& (255 : Int32)) % (5 : Int32)) z0 z1 z2 z3 z4 z5)), .second]
abbrev lo0_45 (p1 p2 p3 p4 p5 p6 : Int32) (z0 z1 z2 z3 z4 z5 : Int64) (b360 b399 : Addr) : Array Slot := #[.val (.int p1), .val (.int p2), .val (.int p3), .val (.int p4), .val (.int p5), .val (.int p6), .val (.long (2147483647 : Int64)), .second, .val (.long (-2147483648 : Int64)), .second, .val (.long z0), .second, .val (.long z1), .second, .val (.long z2), .second, .val (.long z3), .second, .val (.long z4), .second, .val (.long z5), .second, .val (.int (mg0_80a p1 p2 p3 p4 p5 p6 z1 z2 z3 z4 z5)), .val (.int ((p1 &&& (2147483647 : Int32)) % (7 : Int32))), .val (.int (5 : Int32)), .val (.ref b360), .val (.ref b399), .val (.int (5 : Int32)), .val (.int ((((p1.toUInt32 >>> ((8 : Int32) &&& 31).toUInt32).toInt32) &&& (255 : Int32)) % (5 : Int32))), .val (.long (p6.toInt64)), .second, .unset, .unset, .unset]
abbrev lo0_46 (p1 p2 p3 p4 p5 p6 : Int32) (z0 z1 z2 z3 z4 z5 : Int64) (b360 b399 : Addr) : Array Slot := #[.val (.int p1), .val (.int p2), .val (.int p3), .val (.int p4), .val (.int p5), .val (.int p6), .val (.long (2147483647 : Int64)), .second, .val (.long (-2147483648 : Int64)), .second, .val (.long z0), .second, .val (.long z1), .second, .val (.long z2), .second, .val (.long z3), .second, .val (.long z4), .second, .val (.long z5), .second, .val (.int (mg0_80a p1 p2 p3 p4 p5 p6 z1 z2 z3 z4 z5)), .val (.int ((p1 &&& (2147483647 : Int32)) % (7 : Int32))), .val (.int (5 : Int32)), .val (.ref b360), .val (.ref b399), .val (.int (5 : Int32)), .val (.int ((((p1.toUInt32 >>> ((8 : Int32) &&& 31).toUInt32).toInt32) &&& (255 : Int32)) % (5 : Int32))), .val (.long (p6.toInt64)), .second, .val (.int (ex0 (5 : Int32) (p6.toInt64) z0 z1 z2 z3 z4 z5)), .unset, .unset]
abbrev lo0_47 (p1 p2 p3 p4 p5 p6 : Int32) (z0 z1 z2 z3 z4 z5 : Int64) (b360 : Addr) : Array Slot := #[.val (.int p1), .val (.int p2), .val (.int p3), .val (.int p4), .val (.int p5), .val (.int p6), .val (.long (2147483647 : Int64)), .second, .val (.long (-2147483648 : Int64)), .second, .val (.long z0), .second, .val (.long z1), .second, .val (.long z2), .second, .val (.long z3), .second, .val (.long z4), .second, .val (.long z5), .second, .val (.int (mg0_80a p1 p2 p3 p4 p5 p6 z1 z2 z3 z4 z5)), .val (.int ((p1 &&& (2147483647 : Int32)) % (7 : Int32))), .val (.int (4 : Int32)), .val (.ref b360), .unset, .unset, .unset, .unset, .unset, .unset, .unset, .unset]
abbrev lo0_48 (p1 p2 p3 p4 p5 p6 : Int32) (z0 z1 z2 z3 z4 z5 : Int64) (b360 b418 : Addr) : Array Slot := #[.val (.int p1), .val (.int p2), .val (.int p3), .val (.int p4), .val (.int p5), .val (.int p6), .val (.long (2147483647 : Int64)), .second, .val (.long (-2147483648 : Int64)), .second, .val (.long z0), .second, .val (.long z1), .second, .val (.long z2), .second, .val (.long z3), .second, .val (.long z4), .second, .val (.long z5), .second, .val (.int (mg0_80a p1 p2 p3 p4 p5 p6 z1 z2 z3 z4 z5)), .val (.int ((p1 &&& (2147483647 : Int32)) % (7 : Int32))), .val (.int (4 : Int32)), .val (.ref b360), .val (.ref b418), .unset, .unset, .unset, .unset, .unset, .unset, .unset]
abbrev lo0_49 (p1 p2 p3 p4 p5 p6 : Int32) (z0 z1 z2 z3 z4 z5 : Int64) (b360 b418 : Addr) : Array Slot := #[.val (.int p1), .val (.int p2), .val (.int p3), .val (.int p4), .val (.int p5), .val (.int p6), .val (.long (2147483647 : Int64)), .second, .val (.long (-2147483648 : Int64)), .second, .val (.long z0), .second, .val (.long z1), .second, .val (.long z2), .second, .val (.long z3), .second, .val (.long z4), .second, .val (.long z5), .second, .val (.int (mg0_80a p1 p2 p3 p4 p5 p6 z1 z2 z3 z4 z5)), .val (.int ((p1 &&& (2147483647 : Int32)) % (7 : Int32))), .val (.int (4 : Int32)), .val (.ref b360), .val (.ref b418), .val (.int (4 : Int32)), .unset, .unset, .unset, .unset, .unset, .unset]
abbrev lo0_50 (p1 p2 p3 p4 p5 p6 : Int32) (z0 z1 z2 z3 z4 z5 : Int64) (b360 b418 : Addr) : Array Slot := #[.val (.int p1), .val (.int p2), .val (.int p3), .val (.int p4), .val (.int p5), .val (.int p6), .val (.long (2147483647 : Int64)), .second, .val (.long (-2147483648 : Int64)), .second, .val (.long z0), .second, .val (.long z1), .second, .val (.long z2), .second, .val (.long z3), .second, .val (.long z4), .second, .val (.long z5), .second, .val (.int (mg0_80a p1 p2 p3 p4 p5 p6 z1 z2 z3 z4 z5)), .val (.int ((p1 &&& (2147483647 : Int32)) % (7 : Int32))), .val (.int (4 : Int32)), .val (.ref b360), .val (.ref b418), .val (.int (4 : Int32)), .val (.int ((((p1.toUInt32 >>> ((8 : Int32) &&& 31).toUInt32).toInt32) &&& (255 : Int32)) % (4 : Int32))), .unset, .unset, .unset, .unset, .unset]
abbrev lo0_51 (p1 p2 p3 p4 p5 p6 : Int32) (z0 z1 z2 z3 z4 z5 : Int64) (b360 b418 : Addr) : Array Slot := #[.val (.int p1), .val (.int p2), .val (.int p3), .val (.int p4), .val (.int p5), .val (.int p6), .val (.long (2147483647 : Int64)), .second, .val (.long (-2147483648 : Int64)), .second, .val (.long z0), .second, .val (.long z1), .second, .val (.long z2), .second, .val (.long z3), .second, .val (.long z4), .second, .val (.long z5), .second, .val (.int (mg0_80a p1 p2 p3 p4 p5 p6 z1 z2 z3 z4 z5)), .val (.int ((p1 &&& (2147483647 : Int32)) % (7 : Int32))), .val (.int (4 : Int32)), .val (.ref b360), .val (.ref b418), .val (.int (4 : Int32)), .val (.int ((((p1.toUInt32 >>> ((8 : Int32) &&& 31).toUInt32).toInt32) &&& (255 : Int32)) % (4 : Int32))), .val (.long (f9 ((((p1.toUInt32 >>> ((8 : Int32) &&& 31).toUInt32).toInt32) &&& (255 : Int32)) % (4 : Int32)) z0 z1 z2 z3 z4 z5)), .second, .unset, .unset, .unset]
abbrev lo0_52 (p1 p2 p3 p4 p5 p6 : Int32) (z0 z1 z2 z3 z4 z5 : Int64) (b360 b418 : Addr) : Array Slot := #[.val (.int p1), .val (.int p2), .val (.int p3), .val (.int p4), .val (.int p5), .val (.int p6), .val (.long (2147483647 : Int64)), .second, .val (.long (-2147483648 : Int64)), .second, .val (.long z0), .second, .val (.long z1), .second, .val (.long z2), .second, .val (.long z3), .second, .val (.long z4), .second, .val (.long z5), .second, .val (.int (mg0_80a p1 p2 p3 p4 p5 p6 z1 z2 z3 z4 z5)), .val (.int ((p1 &&& (2147483647 : Int32)) % (7 : Int32))), .val (.int (4 : Int32)), .val (.ref b360), .val (.ref b418), .val (.int (4 : Int32)), .val (.int ((((p1.toUInt32 >>> ((8 : Int32) &&& 31).toUInt32).toInt32) &&& (255 : Int32)) % (4 : Int32))), .val (.long (f9 ((((p1.toUInt32 >>> ((8 : Int32) &&& 31).toUInt32).toInt32) &&& (255 : Int32)) % (4 : Int32)) z0 z1 z2 z3 z4 z5)), .second, .val (.int ((((p6.toUInt32 >>> ((3 : Int32) &&& 31).toUInt32).toInt32) &&& (255 : Int32)) % (4 : Int32))), .unset, .unset]
abbrev lo0_53 (p1 p2 p3 p4 p5 p6 : Int32) (z0 z1 z2 z3 z4 z5 : Int64) (b360 b418 : Addr) : Array Slot := #[.val (.int p1), .val (.int p2), .val (.int p3), .val (.int p4), .val (.int p5), .val (.int p6), .val (.long (2147483647 : Int64)), .second, .val (.long (-2147483648 : Int64)), .second, .val (.long z0), .second, .val (.long z1), .second, .val (.long z2), .second, .val (.long z3), .second, .val (.long z4), .second, .val (.long z5), .second, .val (.int (mg0_80a p1 p2 p3 p4 p5 p6 z1 z2 z3 z4 z5)), .val (.int ((p1 &&& (2147483647 : Int32)) % (7 : Int32))), .val (.int (4 : Int32)), .val (.ref b360), .val (.ref b418), .val (.int (4 : Int32)), .val (.int ((((p1.toUInt32 >>> ((8 : Int32) &&& 31).toUInt32).toInt32) &&& (255 : Int32)) % (4 : Int32))), .val (.long (f9 ((((p1.toUInt32 >>> ((8 : Int32) &&& 31).toUInt32).toInt32) &&& (255 : Int32)) % (4 : Int32)) z0 z1 z2 z3 z4 z5)), .second, .val (.int ((((p6.toUInt32 >>> ((3 : Int32) &&& 31).toUInt32).toInt32) &&& (255 : Int32)) % (4 : Int32))), .val (.long (f9 ((((p6.toUInt32 >>> ((3 : Int32) &&& 31).toUInt32).toInt32) &&& (255 : Int32)) % (4 : Int32)) z0 z1 z2 z3 z4 z5)), .second]
abbrev lo0_54 (p1 p2 p3 p4 p5 p6 : Int32) (z0 z1 z2 z3 z4 z5 : Int64) (b360 b418 : Addr) : Array Slot := #[.val (.int p1), .val (.int p2), .val (.int p3), .val (.int p4), .val (.int p5), .val (.int p6), .val (.long (2147483647 : Int64)), .second, .val (.long (-2147483648 : Int64)), .second, .val (.long z0), .second, .val (.long z1), .second, .val (.long z2), .second, .val (.long z3), .second, .val (.long z4), .second, .val (.long z5), .second, .val (.int (mg0_80a p1 p2 p3 p4 p5 p6 z1 z2 z3 z4 z5)), .val (.int ((p1 &&& (2147483647 : Int32)) % (7 : Int32))), .val (.int (4 : Int32)), .val (.ref b360), .val (.ref b418), .val (.int (4 : Int32)), .val (.int ((((p1.toUInt32 >>> ((8 : Int32) &&& 31).toUInt32).toInt32) &&& (255 : Int32)) % (4 : Int32))), .val (.long (((f9 ((((p6.toUInt32 >>> ((3 : Int32) &&& 31).toUInt32).toInt32) &&& (255 : Int32)) % (4 : Int32)) z0 z1 z2 z3 z4 z5) + (((p6 &&& (3 : Int32)) % (3 : Int32)).toInt64)) - (1 : Int64))), .second, .val (.int ((((p6.toUInt32 >>> ((3 : Int32) &&& 31).toUInt32).toInt32) &&& (255 : Int32)) % (4 : Int32))), .val (.long (f9 ((((p6.toUInt32 >>> ((3 : Int32) &&& 31).toUInt32).toInt32) &&& (255 : Int32)) % (4 : Int32)) z0 z1 z2 z3 z4 z5)), .second]
abbrev lo0_55 (p1 p2 p3 p4 p5 p6 : Int32) (z0 z1 z2 z3 z4 z5 : Int64) (b360 b418 : Addr) : Array Slot := #[.val (.int p1), .val (.int p2), .val (.int p3), .val (.int p4), .val (.int p5), .val (.int p6), .val (.long (2147483647 : Int64)), .second, .val (.long (-2147483648 : Int64)), .second, .val (.long z0), .second, .val (.long z1), .second, .val (.long z2), .second, .val (.long z3), .second, .val (.long z4), .second, .val (.long z5), .second, .val (.int (mg0_80a p1 p2 p3 p4 p5 p6 z1 z2 z3 z4 z5)), .val (.int ((p1 &&& (2147483647 : Int32)) % (7 : Int32))), .val (.int (4 : Int32)), .val (.ref b360), .val (.ref b418), .val (.int (4 : Int32)), .val (.int ((((p1.toUInt32 >>> ((8 : Int32) &&& 31).toUInt32).toInt32) &&& (255 : Int32)) % (4 : Int32))), .val (.long (f9 ((((p6.toUInt32 >>> ((3 : Int32) &&& 31).toUInt32).toInt32) &&& (255 : Int32)) % (4 : Int32)) z0 z1 z2 z3 z4 z5)), .second, .val (.int ((((p6.toUInt32 >>> ((3 : Int32) &&& 31).toUInt32).toInt32) &&& (255 : Int32)) % (4 : Int32))), .val (.long (f9 ((((p6.toUInt32 >>> ((3 : Int32) &&& 31).toUInt32).toInt32) &&& (255 : Int32)) % (4 : Int32)) z0 z1 z2 z3 z4 z5)), .second]
abbrev lo0_56 (p1 p2 p3 p4 p5 p6 : Int32) (z0 z1 z2 z3 z4 z5 : Int64) (b360 b418 : Addr) : Array Slot := #[.val (.int p1), .val (.int p2), .val (.int p3), .val (.int p4), .val (.int p5), .val (.int p6), .val (.long (2147483647 : Int64)), .second, .val (.long (-2147483648 : Int64)), .second, .val (.long z0), .second, .val (.long z1), .second, .val (.long z2), .second, .val (.long z3), .second, .val (.long z4), .second, .val (.long z5), .second, .val (.int (mg0_80a p1 p2 p3 p4 p5 p6 z1 z2 z3 z4 z5)), .val (.int ((p1 &&& (2147483647 : Int32)) % (7 : Int32))), .val (.int (4 : Int32)), .val (.ref b360), .val (.ref b418), .val (.int (4 : Int32)), .val (.int ((((p1.toUInt32 >>> ((8 : Int32) &&& 31).toUInt32).toInt32) &&& (255 : Int32)) % (4 : Int32))), .val (.long (mg0_410c p1 p2 p3 p4 p5 p6 z0 z1 z2 z3 z4 z5)), .second, .val (.int ((((p6.toUInt32 >>> ((3 : Int32) &&& 31).toUInt32).toInt32) &&& (255 : Int32)) % (4 : Int32))), .val (.long (f9 ((((p6.toUInt32 >>> ((3 : Int32) &&& 31).toUInt32).toInt32) &&& (255 : Int32)) % (4 : Int32)) z0 z1 z2 z3 z4 z5)), .second]
abbrev lo0_57 (p1 p2 p3 p4 p5 p6 : Int32) (z0 z1 z2 z3 z4 z5 : Int64) (b360 b418 : Addr) : Array Slot := #[.val (.int p1), .val (.int p2), .val (.int p3), .val (.int p4), .val (.int p5), .val (.int p6), .val (.long (2147483647 : Int64)), .second, .val (.long (-2147483648 : Int64)), .second, .val (.long z0), .second, .val (.long z1), .second, .val (.long z2), .second, .val (.long z3), .second, .val (.long z4), .second, .val (.long z5), .second, .val (.int (mg0_80a p1 p2 p3 p4 p5 p6 z1 z2 z3 z4 z5)), .val (.int ((p1 &&& (2147483647 : Int32)) % (7 : Int32))), .val (.int (4 : Int32)), .val (.ref b360), .val (.ref b418), .val (.int (4 : Int32)), .val (.int ((((p1.toUInt32 >>> ((8 : Int32) &&& 31).toUInt32).toInt32) &&& (255 : Int32)) % (4 : Int32))), .val (.long (mg0_410c p1 p2 p3 p4 p5 p6 z0 z1 z2 z3 z4 z5)), .second, .val (.int (ex0 (4 : Int32) (mg0_410c p1 p2 p3 p4 p5 p6 z0 z1 z2 z3 z4 z5) z0 z1 z2 z3 z4 z5)), .val (.long (f9 ((((p6.toUInt32 >>> ((3 : Int32) &&& 31).toUInt32).toInt32) &&& (255 : Int32)) % (4 : Int32)) z0 z1 z2 z3 z4 z5)), .second]
abbrev lo0_58 (p1 p2 p3 p4 p5 p6 : Int32) (z0 z1 z2 z3 z4 z5 : Int64) (b360 b418 : Addr) : Array Slot := #[.val (.int p1), .val (.int p2), .val (.int p3), .val (.int p4), .val (.int p5), .val (.int p6), .val (.long (2147483647 : Int64)), .second, .val (.long (-2147483648 : Int64)), .second, .val (.long z0), .second, .val (.long z1), .second, .val (.long z2), .second, .val (.long z3), .second, .val (.long z4), .second, .val (.long z5), .second, .val (.int (mg0_80a p1 p2 p3 p4 p5 p6 z1 z2 z3 z4 z5)), .val (.int ((p1 &&& (2147483647 : Int32)) % (7 : Int32))), .val (.int (4 : Int32)), .val (.ref b360), .val (.ref b418), .val (.int (4 : Int32)), .val (.int ((((p1.toUInt32 >>> ((8 : Int32) &&& 31).toUInt32).toInt32) &&& (255 : Int32)) % (4 : Int32))), .val (.long (p6.toInt64)), .second, .unset, .unset, .unset]
abbrev lo0_59 (p1 p2 p3 p4 p5 p6 : Int32) (z0 z1 z2 z3 z4 z5 : Int64) (b360 b418 : Addr) : Array Slot := #[.val (.int p1), .val (.int p2), .val (.int p3), .val (.int p4), .val (.int p5), .val (.int p6), .val (.long (2147483647 : Int64)), .second, .val (.long (-2147483648 : Int64)), .second, .val (.long z0), .second, .val (.long z1), .second, .val (.long z2), .second, .val (.long z3), .second, .val (.long z4), .second, .val (.long z5), .second, .val (.int (mg0_80a p1 p2 p3 p4 p5 p6 z1 z2 z3 z4 z5)), .val (.int ((p1 &&& (2147483647 : Int32)) % (7 : Int32))), .val (.int (4 : Int32)), .val (.ref b360), .val (.ref b418), .val (.int (4 : Int32)), .val (.int ((((p1.toUInt32 >>> ((8 : Int32) &&& 31).toUInt32).toInt32) &&& (255 : Int32)) % (4 : Int32))), .val (.long (p6.toInt64)), .second, .val (.int (ex0 (4 : Int32) (p6.toInt64) z0 z1 z2 z3 z4 z5)), .unset, .unset]
abbrev lo0_60 (p1 p2 p3 p4 p5 p6 : Int32) (z0 z1 z2 z3 z4 z5 : Int64) (b360 : Addr) : Array Slot := #[.val (.int p1), .val (.int p2), .val (.int p3), .val (.int p4), .val (.int p5), .val (.int p6), .val (.long (2147483647 : Int64)), .second, .val (.long (-2147483648 : Int64)), .second, .val (.long z0), .second, .val (.long z1), .second, .val (.long z2), .second, .val (.long z3), .second, .val (.long z4), .second, .val (.long z5), .second, .val (.int (mg0_80a p1 p2 p3 p4 p5 p6 z1 z2 z3 z4 z5)), .val (.int ((p1 &&& (2147483647 : Int32)) % (7 : Int32))), .val (.int (3 : Int32)), .val (.ref b360), .unset, .unset, .unset, .unset, .unset, .unset, .unset, .unset]
abbrev lo0_61 (p1 p2 p3 p4 p5 p6 : Int32) (z0 z1 z2 z3 z4 z5 : Int64) (b360 b437 : Addr) : Array Slot := #[.val (.int p1), .val (.int p2), .val (.int p3), .val (.int p4), .val (.int p5), .val (.int p6), .val (.long (2147483647 : Int64)), .second, .val (.long (-2147483648 : Int64)), .second, .val (.long z0), .second, .val (.long z1), .second, .val (.long z2), .second, .val (.long z3), .second, .val (.long z4), .second, .val (.long z5), .second, .val (.int (mg0_80a p1 p2 p3 p4 p5 p6 z1 z2 z3 z4 z5)), .val (.int ((p1 &&& (2147483647 : Int32)) % (7 : Int32))), .val (.int (3 : Int32)), .val (.ref b360), .val (.ref b437), .unset, .unset, .unset, .unset, .unset, .unset, .unset]
abbrev lo0_62 (p1 p2 p3 p4 p5 p6 : Int32) (z0 z1 z2 z3 z4 z5 : Int64) (b360 b437 : Addr) : Array Slot := #[.val (.int p1), .val (.int p2), .val (.int p3), .val (.int p4), .val (.int p5), .val (.int p6), .val (.long (2147483647 : Int64)), .second, .val (.long (-2147483648 : Int64)), .second, .val (.long z0), .second, .val (.long z1), .second, .val (.long z2), .second, .val (.long z3), .second, .val (.long z4), .second, .val (.long z5), .second, .val (.int (mg0_80a p1 p2 p3 p4 p5 p6 z1 z2 z3 z4 z5)), .val (.int ((p1 &&& (2147483647 : Int32)) % (7 : Int32))), .val (.int (3 : Int32)), .val (.ref b360), .val (.ref b437), .val (.int (3 : Int32)), .unset, .unset, .unset, .unset, .unset, .unset]
abbrev lo0_63 (p1 p2 p3 p4 p5 p6 : Int32) (z0 z1 z2 z3 z4 z5 : Int64) (b360 b437 : Addr) : Array Slot := #[.val (.int p1), .val (.int p2), .val (.int p3), .val (.int p4), .val (.int p5), .val (.int p6), .val (.long (2147483647 : Int64)), .second, .val (.long (-2147483648 : Int64)), .second, .val (.long z0), .second, .val (.long z1), .second, .val (.long z2), .second, .val (.long z3), .second, .val (.long z4), .second, .val (.long z5), .second, .val (.int (mg0_80a p1 p2 p3 p4 p5 p6 z1 z2 z3 z4 z5)), .val (.int ((p1 &&& (2147483647 : Int32)) % (7 : Int32))), .val (.int (3 : Int32)), .val (.ref b360), .val (.ref b437), .val (.int (3 : Int32)), .val (.int ((((p1.toUInt32 >>> ((8 : Int32) &&& 31).toUInt32).toInt32) &&& (255 : Int32)) % (3 : Int32))), .unset, .unset, .unset, .unset, .unset]
abbrev lo0_64 (p1 p2 p3 p4 p5 p6 : Int32) (z0 z1 z2 z3 z4 z5 : Int64) (b360 b437 : Addr) : Array Slot := #[.val (.int p1), .val (.int p2), .val (.int p3), .val (.int p4), .val (.int p5), .val (.int p6), .val (.long (2147483647 : Int64)), .second, .val (.long (-2147483648 : Int64)), .second, .val (.long z0), .second, .val (.long z1), .second, .val (.long z2), .second, .val (.long z3), .second, .val (.long z4), .second, .val (.long z5), .second, .val (.int (mg0_80a p1 p2 p3 p4 p5 p6 z1 z2 z3 z4 z5)), .val (.int ((p1 &&& (2147483647 : Int32)) % (7 : Int32))), .val (.int (3 : Int32)), .val (.ref b360), .val (.ref b437), .val (.int (3 : Int32)), .val (.int ((((p1.toUInt32 >>> ((8 : Int32) &&& 31).toUInt32).toInt32) &&& (255 : Int32)) % (3 : Int32))), .val (.long (f9 ((((p1.toUInt32 >>> ((8 : Int32) &&& 31).toUInt32).toInt32) &&& (255 : Int32)) % (3 : Int32)) z0 z1 z2 z3 z4 z5)), .second, .unset, .unset, .unset]
abbrev lo0_65 (p1 p2 p3 p4 p5 p6 : Int32) (z0 z1 z2 z3 z4 z5 : Int64) (b360 b437 : Addr) : Array Slot := #[.val (.int p1), .val (.int p2), .val (.int p3), .val (.int p4), .val (.int p5), .val (.int p6), .val (.long (2147483647 : Int64)), .second, .val (.long (-2147483648 : Int64)), .second, .val (.long z0), .second, .val (.long z1), .second, .val (.long z2), .second, .val (.long z3), .second, .val (.long z4), .second, .val (.long z5), .second, .val (.int (mg0_80a p1 p2 p3 p4 p5 p6 z1 z2 z3 z4 z5)), .val (.int ((p1 &&& (2147483647 : Int32)) % (7 : Int32))), .val (.int (3 : Int32)), .val (.ref b360), .val (.ref b437), .val (.int (3 : Int32)), .val (.int ((((p1.toUInt32 >>> ((8 : Int32) &&& 31).toUInt32).toInt32) &&& (255 : Int32)) % (3 : Int32))), .val (.long (f9 ((((p1.toUInt32 >>> ((8 : Int32) &&& 31).toUInt32).toInt32) &&& (255 : Int32)) % (3 : Int32)) z0 z1 z2 z3 z4 z5)), .second, .val (.int ((((p6.toUInt32 >>> ((3 : Int32) &&& 31).toUInt32).toInt32) &&& (255 : Int32)) % (3 : Int32))), .unset, .unset]
abbrev lo0_66 (p1 p2 p3 p4 p5 p6 : Int32) (z0 z1 z2 z3 z4 z5 : Int64) (b360 b437 : Addr) : Array Slot := #[.val (.int p1), .val (.int p2), .val (.int p3), .val (.int p4), .val (.int p5), .val (.int p6), .val (.long (2147483647 : Int64)), .second, .val (.long (-2147483648 : Int64)), .second, .val (.long z0), .second, .val (.long z1), .second, .val (.long z2), .second, .val (.long z3), .second, .val (.long z4), .second, .val (.long z5), .second, .val (.int (mg0_80a p1 p2 p3 p4 p5 p6 z1 z2 z3 z4 z5)), .val (.int ((p1 &&& (2147483647 : Int32)) % (7 : Int32))), .val (.int (3 : Int32)), .val (.ref b360), .val (.ref b437), .val (.int (3 : Int32)), .val (.int ((((p1.toUInt32 >>> ((8 : Int32) &&& 31).toUInt32).toInt32) &&& (255 : Int32)) % (3 : Int32))), .val (.long (f9 ((((p1.toUInt32 >>> ((8 : Int32) &&& 31).toUInt32).toInt32) &&& (255 : Int32)) % (3 : Int32)) z0 z1 z2 z3 z4 z5)), .second, .val (.int ((((p6.toUInt32 >>> ((3 : Int32) &&& 31).toUInt32).toInt32) &&& (255 : Int32)) % (3 : Int32))), .val (.long (f9 ((((p6.toUInt32 >>> ((3 : Int32) &&& 31).toUInt32).toInt32) &&& (255 : Int32)) % (3 : Int32)) z0 z1 z2 z3 z4 z5)), .second]
abbrev lo0_67 (p1 p2 p3 p4 p5 p6 : Int32) (z0 z1 z2 z3 z4 z5 : Int64) (b360 b437 : Addr) : Array Slot := #[.val (.int p1), .val (.int p2), .val (.int p3), .val (.int p4), .val (.int p5), .val (.int p6), .val (.long (2147483647 : Int64)), .second, .val (.long (-2147483648 : Int64)), .second, .val (.long z0), .second, .val (.long z1), .second, .val (.long z2), .second, .val (.long z3), .second, .val (.long z4), .second, .val (.long z5), .second, .val (.int (mg0_80a p1 p2 p3 p4 p5 p6 z1 z2 z3 z4 z5)), .val (.int ((p1 &&& (2147483647 : Int32)) % (7 : Int32))), .val (.int (3 : Int32)), .val (.ref b360), .val (.ref b437), .val (.int (3 : Int32)), .val (.int ((((p1.toUInt32 >>> ((8 : Int32) &&& 31).toUInt32).toInt32) &&& (255 : Int32)) % (3 : Int32))), .val (.long (((f9 ((((p6.toUInt32 >>> ((3 : Int32) &&& 31).toUInt32).toInt32) &&& (255 : Int32)) % (3 : Int32)) z0 z1 z2 z3 z4 z5) + (((p6 &&& (3 : Int32)) % (3 : Int32)).toInt64)) - (1 : Int64))), .second, .val (.int ((((p6.toUInt32 >>> ((3 : Int32) &&& 31).toUInt32).toInt32) &&& (255 : Int32)) % (3 : Int32))), .val (.long (f9 ((((p6.toUInt32 >>> ((3 : Int32) &&& 31).toUInt32).toInt32) &&& (255 : Int32)) % (3 : Int32)) z0 z1 z2 z3 z4 z5)), .second]
abbrev lo0_68 (p1 p2 p3 p4 p5 p6 : Int32) (z0 z1 z2 z3 z4 z5 : Int64) (b360 b437 : Addr) : Array Slot := #[.val (.int p1), .val (.int p2), .val (.int p3), .val (.int p4), .val (.int p5), .val (.int p6), .val (.long (2147483647 : Int64)), .second, .val (.long (-2147483648 : Int64)), .second, .val (.long z0), .second, .val (.long z1), .second, .val (.long z2), .second, .val (.long z3), .second, .val (.long z4), .second, .val (.long z5), .second, .val (.int (mg0_80a p1 p2 p3 p4 p5 p6 z1 z2 z3 z4 z5)), .val (.int ((p1 &&& (2147483647 : Int32)) % (7 : Int32))), .val (.int (3 : Int32)), .val (.ref b360), .val (.ref b437), .val (.int (3 : Int32)), .val (.int ((((p1.toUInt32 >>> ((8 : Int32) &&& 31).toUInt32).toInt32) &&& (255 : Int32)) % (3 : Int32))), .val (.long (f9 ((((p6.toUInt32 >>> ((3 : Int32) &&& 31).toUInt32).toInt32) &&& (255 : Int32)) % (3 : Int32)) z0 z1 z2 z3 z4 z5)), .second, .val (.int ((((p6.toUInt32 >>> ((3 : Int32) &&& 31).toUInt32).toInt32) &&& (255 : Int32)) % (3 : Int32))), .val (.long (f9 ((((p6.toUInt32 >>> ((3 : Int32) &&& 31).toUInt32).toInt32) &&& (255 : Int32)) % (3 : Int32)) z0 z1 z2 z3 z4 z5)), .second]
abbrev lo0_69 (p1 p2 p3 p4 p5 p6 : Int32) (z0 z1 z2 z3 z4 z5 : Int64) (b360 b437 : Addr) : Array Slot := #[.val (.int p1), .val (.int p2), .val (.int p3), .val (.int p4), .val (.int p5), .val (.int p6), .val (.long (2147483647 : Int64)), .second, .val (.long (-2147483648 : Int64)), .second, .val (.long z0), .second, .val (.long z1), .second, .val (.long z2), .second, .val (.long z3), .second, .val (.long z4), .second, .val (.long z5), .second, .val (.int (mg0_80a p1 p2 p3 p4 p5 p6 z1 z2 z3 z4 z5)), .val (.int ((p1 &&& (2147483647 : Int32)) % (7 : Int32))), .val (.int (3 : Int32)), .val (.ref b360), .val (.ref b437), .val (.int (3 : Int32)), .val (.int ((((p1.toUInt32 >>> ((8 : Int32) &&& 31).toUInt32).toInt32) &&& (255 : Int32)) % (3 : Int32))), .val (.long (mg0_410d p1 p2 p3 p4 p5 p6 z0 z1 z2 z3 z4 z5)), .second, .val (.int ((((p6.toUInt32 >>> ((3 : Int32) &&& 31).toUInt32).toInt32) &&& (255 : Int32)) % (3 : Int32))), .val (.long (f9 ((((p6.toUInt32 >>> ((3 : Int32) &&& 31).toUInt32).toInt32) &&& (255 : Int32)) % (3 : Int32)) z0 z1 z2 z3 z4 z5)), .second]
abbrev lo0_70 (p1 p2 p3 p4 p5 p6 : Int32) (z0 z1 z2 z3 z4 z5 : Int64) (b360 b437 : Addr) : Array Slot := #[.val (.int p1), .val (.int p2), .val (.int p3), .val (.int p4), .val (.int p5), .val (.int p6), .val (.long (2147483647 : Int64)), .second, .val (.long (-2147483648 : Int64)), .second, .val (.long z0), .second, .val (.long z1), .second, .val (.long z2), .second, .val (.long z3), .second, .val (.long z4), .second, .val (.long z5), .second, .val (.int (mg0_80a p1 p2 p3 p4 p5 p6 z1 z2 z3 z4 z5)), .val (.int ((p1 &&& (2147483647 : Int32)) % (7 : Int32))), .val (.int (3 : Int32)), .val (.ref b360), .val (.ref b437), .val (.int (3 : Int32)), .val (.int ((((p1.toUInt32 >>> ((8 : Int32) &&& 31).toUInt32).toInt32) &&& (255 : Int32)) % (3 : Int32))), .val (.long (mg0_410d p1 p2 p3 p4 p5 p6 z0 z1 z2 z3 z4 z5)), .second, .val (.int (ex0 (3 : Int32) (mg0_410d p1 p2 p3 p4 p5 p6 z0 z1 z2 z3 z4 z5) z0 z1 z2 z3 z4 z5)), .val (.long (f9 ((((p6.toUInt32 >>> ((3 : Int32) &&& 31).toUInt32).toInt32) &&& (255 : Int32)) % (3 : Int32)) z0 z1 z2 z3 z4 z5)), .second]
abbrev lo0_71 (p1 p2 p3 p4 p5 p6 : Int32) (z0 z1 z2 z3 z4 z5 : Int64) (b360 b437 : Addr) : Array Slot := #[.val (.int p1), .val (.int p2), .val (.int p3), .val (.int p4), .val (.int p5), .val (.int p6), .val (.long (2147483647 : Int64)), .second, .val (.long (-2147483648 : Int64)), .second, .val (.long z0), .second, .val (.long z1), .second, .val (.long z2), .second, .val (.long z3), .second, .val (.long z4), .second, .val (.long z5), .second, .val (.int (mg0_80a p1 p2 p3 p4 p5 p6 z1 z2 z3 z4 z5)), .val (.int ((p1 &&& (2147483647 : Int32)) % (7 : Int32))), .val (.int (3 : Int32)), .val (.ref b360), .val (.ref b437), .val (.int (3 : Int32)), .val (.int ((((p1.toUInt32 >>> ((8 : Int32) &&& 31).toUInt32).toInt32) &&& (255 : Int32)) % (3 : Int32))), .val (.long (p6.toInt64)), .second, .unset, .unset, .unset]
abbrev lo0_72 (p1 p2 p3 p4 p5 p6 : Int32) (z0 z1 z2 z3 z4 z5 : Int64) (b360 b437 : Addr) : Array Slot := #[.val (.int p1), .val (.int p2), .val (.int p3), .val (.int p4), .val (.int p5), .val (.int p6), .val (.long (2147483647 : Int64)), .second, .val (.long (-2147483648 : Int64)), .second, .val (.long z0), .second, .val (.long z1), .second, .val (.long z2), .second, .val (.long z3), .second, .val (.long z4), .second, .val (.long z5), .second, .val (.int (mg0_80a p1 p2 p3 p4 p5 p6 z1 z2 z3 z4 z5)), .val (.int ((p1 &&& (2147483647 : Int32)) % (7 : Int32))), .val (.int (3 : Int32)), .val (.ref b360), .val (.ref b437), .val (.int (3 : Int32)), .val (.int ((((p1.toUInt32 >>> ((8 : Int32) &&& 31).toUInt32).toInt32) &&& (255 : Int32)) % (3 : Int32))), .val (.long (p6.toInt64)), .second, .val (.int (ex0 (3 : Int32) (p6.toInt64) z0 z1 z2 z3 z4 z5)), .unset, .unset]
abbrev lo0_73 (p1 p2 p3 p4 p5 p6 : Int32) (z0 z1 z2 z3 z4 z5 : Int64) (b360 : Addr) : Array Slot := #[.val (.int p1), .val (.int p2), .val (.int p3), .val (.int p4), .val (.int p5), .val (.int p6), .val (.long (2147483647 : Int64)), .second, .val (.long (-2147483648 : Int64)), .second, .val (.long z0), .second, .val (.long z1), .second, .val (.long z2), .second, .val (.long z3), .second, .val (.long z4), .second, .val (.long z5), .second, .val (.int (mg0_80a p1 p2 p3 p4 p5 p6 z1 z2 z3 z4 z5)), .val (.int ((p1 &&& (2147483647 : Int32)) % (7 : Int32))), .val (.int (2 : Int32)), .val (.ref b360), .unset, .unset, .unset, .unset, .unset, .unset, .unset, .unset]
abbrev lo0_74 (p1 p2 p3 p4 p5 p6 : Int32) (z0 z1 z2 z3 z4 z5 : Int64) (b360 b456 : Addr) : Array Slot := #[.val (.int p1), .val (.int p2), .val (.int p3), .val (.int p4), .val (.int p5), .val (.int p6), .val (.long (2147483647 : Int64)), .second, .val (.long (-2147483648 : Int64)), .second, .val (.long z0), .second, .val (.long z1), .second, .val (.long z2), .second, .val (.long z3), .second, .val (.long z4), .second, .val (.long z5), .second, .val (.int (mg0_80a p1 p2 p3 p4 p5 p6 z1 z2 z3 z4 z5)), .val (.int ((p1 &&& (2147483647 : Int32)) % (7 : Int32))), .val (.int (2 : Int32)), .val (.ref b360), .val (.ref b456), .unset, .unset, .unset, .unset, .unset, .unset, .unset]
abbrev lo0_75 (p1 p2 p3 p4 p5 p6 : Int32) (z0 z1 z2 z3 z4 z5 : Int64) (b360 b456 : Addr) : Array Slot := #[.val (.int p1), .val (.int p2), .val (.int p3), .val (.int p4), .val (.int p5), .val (.int p6), .val (.long (2147483647 : Int64)), .second, .val (.long (-2147483648 : Int64)), .second, .val (.long z0), .second, .val (.long z1), .second, .val (.long z2), .second, .val (.long z3), .second, .val (.long z4), .second, .val (.long z5), .second, .val (.int (mg0_80a p1 p2 p3 p4 p5 p6 z1 z2 z3 z4 z5)), .val (.int ((p1 &&& (2147483647 : Int32)) % (7 : Int32))), .val (.int (2 : Int32)), .val (.ref b360), .val (.ref b456), .val (.int (2 : Int32)), .unset, .unset, .unset, .unset, .unset, .unset]
abbrev lo0_76 (p1 p2 p3 p4 p5 p6 : Int32) (z0 z1 z2 z3 z4 z5 : Int64) (b360 b456 : Addr) : Array Slot := #[.val (.int p1), .val (.int p2), .val (.int p3), .val (.int p4), .val (.int p5), .val (.int p6), .val (.long (2147483647 : Int64)), .second, .val (.long (-2147483648 : Int64)), .second, .val (.long z0), .second, .val (.long z1), .second, .val (.long z2), .second, .val (.long z3), .second, .val (.long z4), .second, .val (.long z5), .second, .val (.int (mg0_80a p1 p2 p3 p4 p5 p6 z1 z2 z3 z4 z5)), .val (.int ((p1 &&& (2147483647 : Int32)) % (7 : Int32))), .val (.int (2 : Int32)), .val (.ref b360), .val (.ref b456), .val (.int (2 : Int32)), .val (.int ((((p1.toUInt32 >>> ((8 : Int32) &&& 31).toUInt32).toInt32) &&& (255 : Int32)) % (2 : Int32))), .unset, .unset, .unset, .unset, .unset]
abbrev lo0_77 (p1 p2 p3 p4 p5 p6 : Int32) (z0 z1 z2 z3 z4 z5 : Int64) (b360 b456 : Addr) : Array Slot := #[.val (.int p1), .val (.int p2), .val (.int p3), .val (.int p4), .val (.int p5), .val (.int p6), .val (.long (2147483647 : Int64)), .second, .val (.long (-2147483648 : Int64)), .second, .val (.long z0), .second, .val (.long z1), .second, .val (.long z2), .second, .val (.long z3), .second, .val (.long z4), .second, .val (.long z5), .second, .val (.int (mg0_80a p1 p2 p3 p4 p5 p6 z1 z2 z3 z4 z5)), .val (.int ((p1 &&& (2147483647 : Int32)) % (7 : Int32))), .val (.int (2 : Int32)), .val (.ref b360), .val (.ref b456), .val (.int (2 : Int32)), .val (.int ((((p1.toUInt32 >>> ((8 : Int32) &&& 31).toUInt32).toInt32) &&& (255 : Int32)) % (2 : Int32))), .val (.long (f9 ((((p1.toUInt32 >>> ((8 : Int32) &&& 31).toUInt32).toInt32) &&& (255 : Int32)) % (2 : Int32)) z0 z1 z2 z3 z4 z5)), .second, .unset, .unset, .unset]
abbrev lo0_78 (p1 p2 p3 p4 p5 p6 : Int32) (z0 z1 z2 z3 z4 z5 : Int64) (b360 b456 : Addr) : Array Slot := #[.val (.int p1), .val (.int p2), .val (.int p3), .val (.int p4), .val (.int p5), .val (.int p6), .val (.long (2147483647 : Int64)), .second, .val (.long (-2147483648 : Int64)), .second, .val (.long z0), .second, .val (.long z1), .second, .val (.long z2), .second, .val (.long z3), .second, .val (.long z4), .second, .val (.long z5), .second, .val (.int (mg0_80a p1 p2 p3 p4 p5 p6 z1 z2 z3 z4 z5)), .val (.int ((p1 &&& (2147483647 : Int32)) % (7 : Int32))), .val (.int (2 : Int32)), .val (.ref b360), .val (.ref b456), .val (.int (2 : Int32)), .val (.int ((((p1.toUInt32 >>> ((8 : Int32) &&& 31).toUInt32).toInt32) &&& (255 : Int32)) % (2 : Int32))), .val (.long (f9 ((((p1.toUInt32 >>> ((8 : Int32) &&& 31).toUInt32).toInt32) &&& (255 : Int32)) % (2 : Int32)) z0 z1 z2 z3 z4 z5)), .second, .val (.int ((((p6.toUInt32 >>> ((3 : Int32) &&& 31).toUInt32).toInt32) &&& (255 : Int32)) % (2 : Int32))), .unset, .unset]
abbrev lo0_79 (p1 p2 p3 p4 p5 p6 : Int32) (z0 z1 z2 z3 z4 z5 : Int64) (b360 b456 : Addr) : Array Slot := #[.val (.int p1), .val (.int p2), .val (.int p3), .val (.int p4), .val (.int p5), .val (.int p6), .val (.long (2147483647 : Int64)), .second, .val (.long (-2147483648 : Int64)), .second, .val (.long z0), .second, .val (.long z1), .second, .val (.long z2), .second, .val (.long z3), .second, .val (.long z4), .second, .val (.long z5), .second, .val (.int (mg0_80a p1 p2 p3 p4 p5 p6 z1 z2 z3 z4 z5)), .val (.int ((p1 &&& (2147483647 : Int32)) % (7 : Int32))), .val (.int (2 : Int32)), .val (.ref b360), .val (.ref b456), .val (.int (2 : Int32)), .val (.int ((((p1.toUInt32 >>> ((8 : Int32) &&& 31).toUInt32).toInt32) &&& (255 : Int32)) % (2 : Int32))), .val (.long (f9 ((((p1.toUInt32 >>> ((8 : Int32) &&& 31).toUInt32).toInt32) &&& (255 : Int32)) % (2 : Int32)) z0 z1 z2 z3 z4 z5)), .second, .val (.int ((((p6.toUInt32 >>> ((3 : Int32) &&& 31).toUInt32).toInt32) &&& (255 : Int32)) % (2 : Int32))), .val (.long (f9 ((((p6.toUInt32 >>> ((3 : Int32) &&& 31).toUInt32).toInt32) &&& (255 : Int32)) % (2 : Int32)) z0 z1 z2 z3 z4 z5)), .second]
abbrev lo0_80 (p1 p2 p3 p4 p5 p6 : Int32) (z0 z1 z2 z3 z4 z5 : Int64) (b360 b456 : Addr) : Array Slot := #[.val (.int p1), .val (.int p2), .val (.int p3), .val (.int p4), .val (.int p5), .val (.int p6), .val (.long (2147483647 : Int64)), .second, .val (.long (-2147483648 : Int64)), .second, .val (.long z0), .second, .val (.long z1), .second, .val (.long z2), .second, .val (.long z3), .second, .val (.long z4), .second, .val (.long z5), .second, .val (.int (mg0_80a p1 p2 p3 p4 p5 p6 z1 z2 z3 z4 z5)), .val (.int ((p1 &&& (2147483647 : Int32)) % (7 : Int32))), .val (.int (2 : Int32)), .val (.ref b360), .val (.ref b456), .val (.int (2 : Int32)), .val (.int ((((p1.toUInt32 >>> ((8 : Int32) &&& 31).toUInt32).toInt32) &&& (255 : Int32)) % (2 : Int32))), .val (.long (((f9 ((((p6.toUInt32 >>> ((3 : Int32) &&& 31).toUInt32).toInt32) &&& (255 : Int32)) % (2 : Int32)) z0 z1 z2 z3 z4 z5) + (((p6 &&& (3 : Int32)) % (3 : Int32)).toInt64)) - (1 : Int64))), .second, .val (.int ((((p6.toUInt32 >>> ((3 : Int32) &&& 31).toUInt32).toInt32) &&& (255 : Int32)) % (2 : Int32))), .val (.long (f9 ((((p6.toUInt32 >>> ((3 : Int32) &&& 31).toUInt32).toInt32) &&& (255 : Int32)) % (2 : Int32)) z0 z1 z2 z3 z4 z5)), .second]
abbrev lo0_81 (p1 p2 p3 p4 p5 p6 : Int32) (z0 z1 z2 z3 z4 z5 : Int64) (b360 b456 : Addr) : Array Slot := #[.val (.int p1), .val (.int p2), .val (.int p3), .val (.int p4), .val (.int p5), .val (.int p6), .val (.long (2147483647 : Int64)), .second, .val (.long (-2147483648 : Int64)), .second, .val (.long z0), .second, .val (.long z1), .second, .val (.long z2), .second, .val (.long z3), .second, .val (.long z4), .second, .val (.long z5), .second, .val (.int (mg0_80a p1 p2 p3 p4 p5 p6 z1 z2 z3 z4 z5)), .val (.int ((p1 &&& (2147483647 : Int32)) % (7 : Int32))), .val (.int (2 : Int32)), .val (.ref b360), .val (.ref b456), .val (.int (2 : Int32)), .val (.int ((((p1.toUInt32 >>> ((8 : Int32) &&& 31).toUInt32).toInt32) &&& (255 : Int32)) % (2 : Int32))), .val (.long (f9 ((((p6.toUInt32 >>> ((3 : Int32) &&& 31).toUInt32).toInt32) &&& (255 : Int32)) % (2 : Int32)) z0 z1 z2 z3 z4 z5)), .second, .val (.int ((((p6.toUInt32 >>> ((3 : Int32) &&& 31).toUInt32).toInt32) &&& (255 : Int32)) % (2 : Int32))), .val (.long (f9 ((((p6.toUInt32 >>> ((3 : Int32) &&& 31).toUInt32).toInt32) &&& (255 : Int32)) % (2 : Int32)) z0 z1 z2 z3 z4 z5)), .second]
abbrev lo0_82 (p1 p2 p3 p4 p5 p6 : Int32) (z0 z1 z2 z3 z4 z5 : Int64) (b360 b456 : Addr) : Array Slot := #[.val (.int p1), .val (.int p2), .val (.int p3), .val (.int p4), .val (.int p5), .val (.int p6), .val (.long (2147483647 : Int64)), .second, .val (.long (-2147483648 : Int64)), .second, .val (.long z0), .second, .val (.long z1), .second, .val (.long z2), .second, .val (.long z3), .second, .val (.long z4), .second, .val (.long z5), .second, .val (.int (mg0_80a p1 p2 p3 p4 p5 p6 z1 z2 z3 z4 z5)), .val (.int ((p1 &&& (2147483647 : Int32)) % (7 : Int32))), .val (.int (2 : Int32)), .val (.ref b360), .val (.ref b456), .val (.int (2 : Int32)), .val (.int ((((p1.toUInt32 >>> ((8 : Int32) &&& 31).toUInt32).toInt32) &&& (255 : Int32)) % (2 : Int32))), .val (.long (mg0_410e p1 p2 p3 p4 p5 p6 z0 z1 z2 z3 z4 z5)), .second, .val (.int ((((p6.toUInt32 >>> ((3 : Int32) &&& 31).toUInt32).toInt32) &&& (255 : Int32)) % (2 : Int32))), .val (.long (f9 ((((p6.toUInt32 >>> ((3 : Int32) &&& 31).toUInt32).toInt32) &&& (255 : Int32)) % (2 : Int32)) z0 z1 z2 z3 z4 z5)), .second]
abbrev lo0_83 (p1 p2 p3 p4 p5 p6 : Int32) (z0 z1 z2 z3 z4 z5 : Int64) (b360 b456 : Addr) : Array Slot := #[.val (.int p1), .val (.int p2), .val (.int p3), .val (.int p4), .val (.int p5), .val (.int p6), .val (.long (2147483647 : Int64)), .second, .val (.long (-2147483648 : Int64)), .second, .val (.long z0), .second, .val (.long z1), .second, .val (.long z2), .second, .val (.long z3), .second, .val (.long z4), .second, .val (.long z5), .second, .val (.int (mg0_80a p1 p2 p3 p4 p5 p6 z1 z2 z3 z4 z5)), .val (.int ((p1 &&& (2147483647 : Int32)) % (7 : Int32))), .val (.int (2 : Int32)), .val (.ref b360), .val (.ref b456), .val (.int (2 : Int32)), .val (.int ((((p1.toUInt32 >>> ((8 : Int32) &&& 31).toUInt32).toInt32) &&& (255 : Int32)) % (2 : Int32))), .val (.long (mg0_410e p1 p2 p3 p4 p5 p6 z0 z1 z2 z3 z4 z5)), .second, .val (.int (ex0 (2 : Int32) (mg0_410e p1 p2 p3 p4 p5 p6 z0 z1 z2 z3 z4 z5) z0 z1 z2 z3 z4 z5)), .val (.long (f9 ((((p6.toUInt32 >>> ((3 : Int32) &&& 31).toUInt32).toInt32) &&& (255 : Int32)) % (2 : Int32)) z0 z1 z2 z3 z4 z5)), .second]
abbrev lo0_84 (p1 p2 p3 p4 p5 p6 : Int32) (z0 z1 z2 z3 z4 z5 : Int64) (b360 b456 : Addr) : Array Slot := #[.val (.int p1), .val (.int p2), .val (.int p3), .val (.int p4), .val (.int p5), .val (.int p6), .val (.long (2147483647 : Int64)), .second, .val (.long (-2147483648 : Int64)), .second, .val (.long z0), .second, .val (.long z1), .second, .val (.long z2), .second, .val (.long z3), .second, .val (.long z4), .second, .val (.long z5), .second, .val (.int (mg0_80a p1 p2 p3 p4 p5 p6 z1 z2 z3 z4 z5)), .val (.int ((p1 &&& (2147483647 : Int32)) % (7 : Int32))), .val (.int (2 : Int32)), .val (.ref b360), .val (.ref b456), .val (.int (2 : Int32)), .val (.int ((((p1.toUInt32 >>> ((8 : Int32) &&& 31).toUInt32).toInt32) &&& (255 : Int32)) % (2 : Int32))), .val (.long (p6.toInt64)), .second, .unset, .unset, .unset]
abbrev lo0_85 (p1 p2 p3 p4 p5 p6 : Int32) (z0 z1 z2 z3 z4 z5 : Int64) (b360 b456 : Addr) : Array Slot := #[.val (.int p1), .val (.int p2), .val (.int p3), .val (.int p4), .val (.int p5), .val (.int p6), .val (.long (2147483647 : Int64)), .second, .val (.long (-2147483648 : Int64)), .second, .val (.long z0), .second, .val (.long z1), .second, .val (.long z2), .second, .val (.long z3), .second, .val (.long z4), .second, .val (.long z5), .second, .val (.int (mg0_80a p1 p2 p3 p4 p5 p6 z1 z2 z3 z4 z5)), .val (.int ((p1 &&& (2147483647 : Int32)) % (7 : Int32))), .val (.int (2 : Int32)), .val (.ref b360), .val (.ref b456), .val (.int (2 : Int32)), .val (.int ((((p1.toUInt32 >>> ((8 : Int32) &&& 31).toUInt32).toInt32) &&& (255 : Int32)) % (2 : Int32))), .val (.long (p6.toInt64)), .second, .val (.int (ex0 (2 : Int32) (p6.toInt64) z0 z1 z2 z3 z4 z5)), .unset, .unset]
abbrev lo0_86 (p1 p2 p3 p4 p5 p6 : Int32) (z0 z1 z2 z3 z4 z5 : Int64) (b360 : Addr) : Array Slot := #[.val (.int p1), .val (.int p2), .val (.int p3), .val (.int p4), .val (.int p5), .val (.int p6), .val (.long (2147483647 : Int64)), .second, .val (.long (-2147483648 : Int64)), .second, .val (.long z0), .second, .val (.long z1), .second, .val (.long z2), .second, .val (.long z3), .second, .val (.long z4), .second, .val (.long z5), .second, .val (.int (mg0_80a p1 p2 p3 p4 p5 p6 z1 z2 z3 z4 z5)), .val (.int ((p1 &&& (2147483647 : Int32)) % (7 : Int32))), .val (.int (1 : Int32)), .val (.ref b360), .unset, .unset, .unset, .unset, .unset, .unset, .unset, .unset]
abbrev lo0_87 (p1 p2 p3 p4 p5 p6 : Int32) (z0 z1 z2 z3 z4 z5 : Int64) (b360 b475 : Addr) : Array Slot := #[.val (.int p1), .val (.int p2), .val (.int p3), .val (.int p4), .val (.int p5), .val (.int p6), .val (.long (2147483647 : Int64)), .second, .val (.long (-2147483648 : Int64)), .second, .val (.long z0), .second, .val (.long z1), .second, .val (.long z2), .second, .val (.long z3), .second, .val (.long z4), .second, .val (.long z5), .second, .val (.int (mg0_80a p1 p2 p3 p4 p5 p6 z1 z2 z3 z4 z5)), .val (.int ((p1 &&& (2147483647 : Int32)) % (7 : Int32))), .val (.int (1 : Int32)), .val (.ref b360), .val (.ref b475), .unset, .unset, .unset, .unset, .unset, .unset, .unset]
abbrev lo0_88 (p1 p2 p3 p4 p5 p6 : Int32) (z0 z1 z2 z3 z4 z5 : Int64) (b360 b475 : Addr) : Array Slot := #[.val (.int p1), .val (.int p2), .val (.int p3), .val (.int p4), .val (.int p5), .val (.int p6), .val (.long (2147483647 : Int64)), .second, .val (.long (-2147483648 : Int64)), .second, .val (.long z0), .second, .val (.long z1), .second, .val (.long z2), .second, .val (.long z3), .second, .val (.long z4), .second, .val (.long z5), .second, .val (.int (mg0_80a p1 p2 p3 p4 p5 p6 z1 z2 z3 z4 z5)), .val (.int ((p1 &&& (2147483647 : Int32)) % (7 : Int32))), .val (.int (1 : Int32)), .val (.ref b360), .val (.ref b475), .val (.int (1 : Int32)), .unset, .unset, .unset, .unset, .unset, .unset]
abbrev lo0_89 (p1 p2 p3 p4 p5 p6 : Int32) (z0 z1 z2 z3 z4 z5 : Int64) (b360 b475 : Addr) : Array Slot := #[.val (.int p1), .val (.int p2), .val (.int p3), .val (.int p4), .val (.int p5), .val (.int p6), .val (.long (2147483647 : Int64)), .second, .val (.long (-2147483648 : Int64)), .second, .val (.long z0), .second, .val (.long z1), .second, .val (.long z2), .second, .val (.long z3), .second, .val (.long z4), .second, .val (.long z5), .second, .val (.int (mg0_80a p1 p2 p3 p4 p5 p6 z1 z2 z3 z4 z5)), .val (.int ((p1 &&& (2147483647 : Int32)) % (7 : Int32))), .val (.int (1 : Int32)), .val (.ref b360), .val (.ref b475), .val (.int (1 : Int32)), .val (.int ((((p1.toUInt32 >>> ((8 : Int32) &&& 31).toUInt32).toInt32) &&& (255 : Int32)) % (1 : Int32))), .unset, .unset, .unset, .unset, .unset]
abbrev lo0_90 (p1 p2 p3 p4 p5 p6 : Int32) (z0 z1 z2 z3 z4 z5 : Int64) (b360 b475 : Addr) : Array Slot := #[.val (.int p1), .val (.int p2), .val (.int p3), .val (.int p4), .val (.int p5), .val (.int p6), .val (.long (2147483647 : Int64)), .second, .val (.long (-2147483648 : Int64)), .second, .val (.long z0), .second, .val (.long z1), .second, .val (.long z2), .second, .val (.long z3), .second, .val (.long z4), .second, .val (.long z5), .second, .val (.int (mg0_80a p1 p2 p3 p4 p5 p6 z1 z2 z3 z4 z5)), .val (.int ((p1 &&& (2147483647 : Int32)) % (7 : Int32))), .val (.int (1 : Int32)), .val (.ref b360), .val (.ref b475), .val (.int (1 : Int32)), .val (.int ((((p1.toUInt32 >>> ((8 : Int32) &&& 31).toUInt32).toInt32) &&& (255 : Int32)) % (1 : Int32))), .val (.long (f9 ((((p1.toUInt32 >>> ((8 : Int32) &&& 31).toUInt32).toInt32) &&& (255 : Int32)) % (1 : Int32)) z0 z1 z2 z3 z4 z5)), .second, .unset, .unset, .unset]
abbrev lo0_91 (p1 p2 p3 p4 p5 p6 : Int32) (z0 z1 z2 z3 z4 z5 : Int64) (b360 b475 : Addr) : Array Slot := #[.val (.int p1), .val (.int p2), .val (.int p3), .val (.int p4), .val (.int p5), .val (.int p6), .val (.long (2147483647 : Int64)), .second, .val (.long (-2147483648 : Int64)), .second, .val (.long z0), .second, .val (.long z1), .second, .val (.long z2), .second, .val (.long z3), .second, .val (.long z4), .second, .val (.long z5), .second, .val (.int (mg0_80a p1 p2 p3 p4 p5 p6 z1 z2 z3 z4 z5)), .val (.int ((p1 &&& (2147483647 : Int32)) % (7 : Int32))), .val (.int (1 : Int32)), .val (.ref b360), .val (.ref b475), .val (.int (1 : Int32)), .val (.int ((((p1.toUInt32 >>> ((8 : Int32) &&& 31).toUInt32).toInt32) &&& (255 : Int32)) % (1 : Int32))), .val (.long (f9 ((((p1.toUInt32 >>> ((8 : Int32) &&& 31).toUInt32).toInt32) &&& (255 : Int32)) % (1 : Int32)) z0 z1 z2 z3 z4 z5)), .second, .val (.int ((((p6.toUInt32 >>> ((3 : Int32) &&& 31).toUInt32).toInt32) &&& (255 : Int32)) % (1 : Int32))), .unset, .unset]
abbrev lo0_92 (p1 p2 p3 p4 p5 p6 : Int32) (z0 z1 z2 z3 z4 z5 : Int64) (b360 b475 : Addr) : Array Slot := #[.val (.int p1), .val (.int p2), .val (.int p3), .val (.int p4), .val (.int p5), .val (.int p6), .val (.long (2147483647 : Int64)), .second, .val (.long (-2147483648 : Int64)), .second, .val (.long z0), .second, .val (.long z1), .second, .val (.long z2), .second, .val (.long z3), .second, .val (.long z4), .second, .val (.long z5), .second, .val (.int (mg0_80a p1 p2 p3 p4 p5 p6 z1 z2 z3 z4 z5)), .val (.int ((p1 &&& (2147483647 : Int32)) % (7 : Int32))), .val (.int (1 : Int32)), .val (.ref b360), .val (.ref b475), .val (.int (1 : Int32)), .val (.int ((((p1.toUInt32 >>> ((8 : Int32) &&& 31).toUInt32).toInt32) &&& (255 : Int32)) % (1 : Int32))), .val (.long (f9 ((((p1.toUInt32 >>> ((8 : Int32) &&& 31).toUInt32).toInt32) &&& (255 : Int32)) % (1 : Int32)) z0 z1 z2 z3 z4 z5)), .second, .val (.int ((((p6.toUInt32 >>> ((3 : Int32) &&& 31).toUInt32).toInt32) &&& (255 : Int32)) % (1 : Int32))), .val (.long (f9 ((((p6.toUInt32 >>> ((3 : Int32) &&& 31).toUInt32).toInt32) &&& (255 : Int32)) % (1 : Int32)) z0 z1 z2 z3 z4 z5)), .second]
abbrev lo0_93 (p1 p2 p3 p4 p5 p6 : Int32) (z0 z1 z2 z3 z4 z5 : Int64) (b360 b475 : Addr) : Array Slot := #[.val (.int p1), .val (.int p2), .val (.int p3), .val (.int p4), .val (.int p5), .val (.int p6), .val (.long (2147483647 : Int64)), .second, .val (.long (-2147483648 : Int64)), .second, .val (.long z0), .second, .val (.long z1), .second, .val (.long z2), .second, .val (.long z3), .second, .val (.long z4), .second, .val (.long z5), .second, .val (.int (mg0_80a p1 p2 p3 p4 p5 p6 z1 z2 z3 z4 z5)), .val (.int ((p1 &&& (2147483647 : Int32)) % (7 : Int32))), .val (.int (1 : Int32)), .val (.ref b360), .val (.ref b475), .val (.int (1 : Int32)), .val (.int ((((p1.toUInt32 >>> ((8 : Int32) &&& 31).toUInt32).toInt32) &&& (255 : Int32)) % (1 : Int32))), .val (.long (((f9 ((((p6.toUInt32 >>> ((3 : Int32) &&& 31).toUInt32).toInt32) &&& (255 : Int32)) % (1 : Int32)) z0 z1 z2 z3 z4 z5) + (((p6 &&& (3 : Int32)) % (3 : Int32)).toInt64)) - (1 : Int64))), .second, .val (.int ((((p6.toUInt32 >>> ((3 : Int32) &&& 31).toUInt32).toInt32) &&& (255 : Int32)) % (1 : Int32))), .val (.long (f9 ((((p6.toUInt32 >>> ((3 : Int32) &&& 31).toUInt32).toInt32) &&& (255 : Int32)) % (1 : Int32)) z0 z1 z2 z3 z4 z5)), .second]
abbrev lo0_94 (p1 p2 p3 p4 p5 p6 : Int32) (z0 z1 z2 z3 z4 z5 : Int64) (b360 b475 : Addr) : Array Slot := #[.val (.int p1), .val (.int p2), .val (.int p3), .val (.int p4), .val (.int p5), .val (.int p6), .val (.long (2147483647 : Int64)), .second, .val (.long (-2147483648 : Int64)), .second, .val (.long z0), .second, .val (.long z1), .second, .val (.long z2), .second, .val (.long z3), .second, .val (.long z4), .second, .val (.long z5), .second, .val (.int (mg0_80a p1 p2 p3 p4 p5 p6 z1 z2 z3 z4 z5)), .val (.int ((p1 &&& (2147483647 : Int32)) % (7 : Int32))), .val (.int (1 : Int32)), .val (.ref b360), .val (.ref b475), .val (.int (1 : Int32)), .val (.int ((((p1.toUInt32 >>> ((8 : Int32) &&& 31).toUInt32).toInt32) &&& (255 : Int32)) % (1 : Int32))), .val (.long (f9 ((((p6.toUInt32 >>> ((3 : Int32) &&& 31).toUInt32).toInt32) &&& (255 : Int32)) % (1 : Int32)) z0 z1 z2 z3 z4 z5)), .second, .val (.int ((((p6.toUInt32 >>> ((3 : Int32) &&& 31).toUInt32).toInt32) &&& (255 : Int32)) % (1 : Int32))), .val (.long (f9 ((((p6.toUInt32 >>> ((3 : Int32) &&& 31).toUInt32).toInt32) &&& (255 : Int32)) % (1 : Int32)) z0 z1 z2 z3 z4 z5)), .second]
abbrev lo0_95 (p1 p2 p3 p4 p5 p6 : Int32) (z0 z1 z2 z3 z4 z5 : Int64) (b360 b475 : Addr) : Array Slot := #[.val (.int p1), .val (.int p2), .val (.int p3), .val (.int p4), .val (.int p5), .val (.int p6), .val (.long (2147483647 : Int64)), .second, .val (.long (-2147483648 : Int64)), .second, .val (.long z0), .second, .val (.long z1), .second, .val (.long z2), .second, .val (.long z3), .second, .val (.long z4), .second, .val (.long z5), .second, .val (.int (mg0_80a p1 p2 p3 p4 p5 p6 z1 z2 z3 z4 z5)), .val (.int ((p1 &&& (2147483647 : Int32)) % (7 : Int32))), .val (.int (1 : Int32)), .val (.ref b360), .val (.ref b475), .val (.int (1 : Int32)), .val (.int ((((p1.toUInt32 >>> ((8 : Int32) &&& 31).toUInt32).toInt32) &&& (255 : Int32)) % (1 : Int32))), .val (.long (mg0_410f p1 p2 p3 p4 p5 p6 z0 z1 z2 z3 z4 z5)), .second, .val (.int ((((p6.toUInt32 >>> ((3 : Int32) &&& 31).toUInt32).toInt32) &&& (255 : Int32)) % (1 : Int32))), .val (.long (f9 ((((p6.toUInt32 >>> ((3 : Int32) &&& 31).toUInt32).toInt32) &&& (255 : Int32)) % (1 : Int32)) z0 z1 z2 z3 z4 z5)), .second]
abbrev lo0_96 (p1 p2 p3 p4 p5 p6 : Int32) (z0 z1 z2 z3 z4 z5 : Int64) (b360 b475 : Addr) : Array Slot := #[.val (.int p1), .val (.int p2), .val (.int p3), .val (.int p4), .val (.int p5), .val (.int p6), .val (.long (2147483647 : Int64)), .second, .val (.long (-2147483648 : Int64)), .second, .val (.long z0), .second, .val (.long z1), .second, .val (.long z2), .second, .val (.long z3), .second, .val (.long z4), .second, .val (.long z5), .second, .val (.int (mg0_80a p1 p2 p3 p4 p5 p6 z1 z2 z3 z4 z5)), .val (.int ((p1 &&& (2147483647 : Int32)) % (7 : Int32))), .val (.int (1 : Int32)), .val (.ref b360), .val (.ref b475), .val (.int (1 : Int32)), .val (.int ((((p1.toUInt32 >>> ((8 : Int32) &&& 31).toUInt32).toInt32) &&& (255 : Int32)) % (1 : Int32))), .val (.long (mg0_410f p1 p2 p3 p4 p5 p6 z0 z1 z2 z3 z4 z5)), .second, .val (.int (ex0 (1 : Int32) (mg0_410f p1 p2 p3 p4 p5 p6 z0 z1 z2 z3 z4 z5) z0 z1 z2 z3 z4 z5)), .val (.long (f9 ((((p6.toUInt32 >>> ((3 : Int32) &&& 31).toUInt32).toInt32) &&& (255 : Int32)) % (1 : Int32)) z0 z1 z2 z3 z4 z5)), .second]
abbrev lo0_97 (p1 p2 p3 p4 p5 p6 : Int32) (z0 z1 z2 z3 z4 z5 : Int64) (b360 b475 : Addr) : Array Slot := #[.val (.int p1), .val (.int p2), .val (.int p3), .val (.int p4), .val (.int p5), .val (.int p6), .val (.long (2147483647 : Int64)), .second, .val (.long (-2147483648 : Int64)), .second, .val (.long z0), .second, .val (.long z1), .second, .val (.long z2), .second, .val (.long z3), .second, .val (.long z4), .second, .val (.long z5), .second, .val (.int (mg0_80a p1 p2 p3 p4 p5 p6 z1 z2 z3 z4 z5)), .val (.int ((p1 &&& (2147483647 : Int32)) % (7 : Int32))), .val (.int (1 : Int32)), .val (.ref b360), .val (.ref b475), .val (.int (1 : Int32)), .val (.int ((((p1.toUInt32 >>> ((8 : Int32) &&& 31).toUInt32).toInt32) &&& (255 : Int32)) % (1 : Int32))), .val (.long (p6.toInt64)), .second, .unset, .unset, .unset]
abbrev lo0_98 (p1 p2 p3 p4 p5 p6 : Int32) (z0 z1 z2 z3 z4 z5 : Int64) (b360 b475 : Addr) : Array Slot := #[.val (.int p1), .val (.int p2), .val (.int p3), .val (.int p4), .val (.int p5), .val (.int p6), .val (.long (2147483647 : Int64)), .second, .val (.long (-2147483648 : Int64)), .second, .val (.long z0), .second, .val (.long z1), .second, .val (.long z2), .second, .val (.long z3), .second, .val (.long z4), .second, .val (.long z5), .second, .val (.int (mg0_80a p1 p2 p3 p4 p5 p6 z1 z2 z3 z4 z5)), .val (.int ((p1 &&& (2147483647 : Int32)) % (7 : Int32))), .val (.int (1 : Int32)), .val (.ref b360), .val (.ref b475), .val (.int (1 : Int32)), .val (.int ((((p1.toUInt32 >>> ((8 : Int32) &&& 31).toUInt32).toInt32) &&& (255 : Int32)) % (1 : Int32))), .val (.long (p6.toInt64)), .second, .val (.int (ex0 (1 : Int32) (p6.toInt64) z0 z1 z2 z3 z4 z5)), .unset, .unset]
abbrev lo0_99 (p1 p2 p3 p4 p5 p6 : Int32) (z0 z1 z2 z3 z4 z5 : Int64) (b360 : Addr) : Array Slot := #[.val (.int p1), .val (.int p2), .val (.int p3), .val (.int p4), .val (.int p5), .val (.int p6), .val (.long (2147483647 : Int64)), .second, .val (.long (-2147483648 : Int64)), .second, .val (.long z0), .second, .val (.long z1), .second, .val (.long z2), .second, .val (.long z3), .second, .val (.long z4), .second, .val (.long z5), .second, .val (.int (mg0_80a p1 p2 p3 p4 p5 p6 z1 z2 z3 z4 z5)), .val (.int ((p1 &&& (2147483647 : Int32)) % (7 : Int32))), .val (.int (0 : Int32)), .val (.ref b360), .unset, .unset, .unset, .unset, .unset, .unset, .unset, .unset]
abbrev lo0_100 (p1 p2 p3 p4 p5 p6 : Int32) (z0 z1 z2 z3 z4 z5 : Int64) (b360 b494 : Addr) : Array Slot := #[.val (.int p1), .val (.int p2), .val (.int p3), .val (.int p4), .val (.int p5), .val (.int p6), .val (.long (2147483647 : Int64)), .second, .val (.long (-2147483648 : Int64)), .second, .val (.long z0), .second, .val (.long z1), .second, .val (.long z2), .second, .val (.long z3), .second, .val (.long z4), .second, .val (.long z5), .second, .val (.int (mg0_80a p1 p2 p3 p4 p5 p6 z1 z2 z3 z4 z5)), .val (.int ((p1 &&& (2147483647 : Int32)) % (7 : Int32))), .val (.int (0 : Int32)), .val (.ref b360), .val (.ref b494), .unset, .unset, .unset, .unset, .unset, .unset, .unset]
abbrev lo0_101 (p1 p2 p3 p4 p5 p6 : Int32) (z0 z1 z2 z3 z4 z5 : Int64) (b360 b494 : Addr) : Array Slot := #[.val (.int p1), .val (.int p2), .val (.int p3), .val (.int p4), .val (.int p5), .val (.int p6), .val (.long (2147483647 : Int64)), .second, .val (.long (-2147483648 : Int64)), .second, .val (.long z0), .second, .val (.long z1), .second, .val (.long z2), .second, .val (.long z3), .second, .val (.long z4), .second, .val (.long z5), .second, .val (.int (mg0_80a p1 p2 p3 p4 p5 p6 z1 z2 z3 z4 z5)), .val (.int ((p1 &&& (2147483647 : Int32)) % (7 : Int32))), .val (.int (0 : Int32)), .val (.ref b360), .val (.ref b494), .val (.int (1 : Int32)), .unset, .unset, .unset, .unset, .unset, .unset]
abbrev lo0_102 (p1 p2 p3 p4 p5 p6 : Int32) (z0 z1 z2 z3 z4 z5 : Int64) (b360 b494 : Addr) : Array Slot := #[.val (.int p1), .val (.int p2), .val (.int p3), .val (.int p4), .val (.int p5), .val (.int p6), .val (.long (2147483647 : Int64)), .second, .val (.long (-2147483648 : Int64)), .second, .val (.long z0), .second, .val (.long z1), .second, .val (.long z2), .second, .val (.long z3), .second, .val (.long z4), .second, .val (.long z5), .second, .val (.int (mg0_80a p1 p2 p3 p4 p5 p6 z1 z2 z3 z4 z5)), .val (.int ((p1 &&& (2147483647 : Int32)) % (7 : Int32))), .val (.int (0 : Int32)), .val (.ref b360), .val (.ref b494), .val (.int (1 : Int32)), .val (.int ((((p1.toUInt32 >>> ((8 : Int32) &&& 31).toUInt32).toInt32) &&& (255 : Int32)) % (1 : Int32))), .unset, .unset, .unset, .unset, .unset]
abbrev lo0_103 (p1 p2 p3 p4 p5 p6 : Int32) (z0 z1 z2 z3 z4 z5 : Int64) (b360 b494 : Addr) : Array Slot := #[.val (.int p1), .val (.int p2), .val (.int p3), .val (.int p4), .val (.int p5), .val (.int p6), .val (.long (2147483647 : Int64)), .second, .val (.long (-2147483648 : Int64)), .second, .val (.long z0), .second, .val (.long z1), .second, .val (.long z2), .second, .val (.long z3), .second, .val (.long z4), .second, .val (.long z5), .second, .val (.int (mg0_80a p1 p2 p3 p4 p5 p6 z1 z2 z3 z4 z5)), .val (.int ((p1 &&& (2147483647 : Int32)) % (7 : Int32))), .val (.int (0 : Int32)), .val (.ref b360), .val (.ref b494), .val (.int (1 : Int32)), .val (.int ((((p1.toUInt32 >>> ((8 : Int32) &&& 31).toUInt32).toInt32) &&& (255 : Int32)) % (1 : Int32))), .unset, .unset, .val (.int ((((p6.toUInt32 >>> ((3 : Int32) &&& 31).toUInt32).toInt32) &&& (255 : Int32)) % (1 : Int32))), .unset, .unset]
abbrev lo0_104 (p1 p2 p3 p4 p5 p6 : Int32) (z0 z1 z2 z3 z4 z5 : Int64) (b360 b494 : Addr) : Array Slot := #[.val (.int p1), .val (.int p2), .val (.int p3), .val (.int p4), .val (.int p5), .val (.int p6), .val (.long (2147483647 : Int64)), .second, .val (.long (-2147483648 : Int64)), .second, .val (.long z0), .second, .val (.long z1), .second, .val (.long z2), .second, .val (.long z3), .second, .val (.long z4), .second, .val (.long z5), .second, .val (.int (mg0_80a p1 p2 p3 p4 p5 p6 z1 z2 z3 z4 z5)), .val (.int ((p1 &&& (2147483647 : Int32)) % (7 : Int32))), .val (.int (0 : Int32)), .val (.ref b360), .val (.ref b494), .val (.int (1 : Int32)), .val (.int ((((p1.toUInt32 >>> ((8 : Int32) &&& 31).toUInt32).toInt32) &&& (255 : Int32)) % (1 : Int32))), .unset, .unset, .val (.int ((((p6.toUInt32 >>> ((3 : Int32) &&& 31).toUInt32).toInt32) &&& (255 : Int32)) % (1 : Int32))), .val (.long (f9 ((((p6.toUInt32 >>> ((3 : Int32) &&& 31).toUInt32).toInt32) &&& (255 : Int32)) % (1 : Int32)) z0 z1 z2 z3 z4 z5)), .second]
abbrev lo0_105 (p1 p2 p3 p4 p5 p6 : Int32) (z0 z1 z2 z3 z4 z5 : Int64) (b360 b494 : Addr) : Array Slot := #[.val (.int p1), .val (.int p2), .val (.int p3), .val (.int p4), .val (.int p5), .val (.int p6), .val (.long (2147483647 : Int64)), .second, .val (.long (-2147483648 : Int64)), .second, .val (.long z0), .second, .val (.long z1), .second, .val (.long z2), .second, .val (.long z3), .second, .val (.long z4), .second, .val (.long z5), .second, .val (.int (mg0_80a p1 p2 p3 p4 p5 p6 z1 z2 z3 z4 z5)), .val (.int ((p1 &&& (2147483647 : Int32)) % (7 : Int32))), .val (.int (0 : Int32)), .val (.ref b360), .val (.ref b494), .val (.int (1 : Int32)), .val (.int ((((p1.toUInt32 >>> ((8 : Int32) &&& 31).toUInt32).toInt32) &&& (255 : Int32)) % (1 : Int32))), .val (.long (((f9 ((((p6.toUInt32 >>> ((3 : Int32) &&& 31).toUInt32).toInt32) &&& (255 : Int32)) % (1 : Int32)) z0 z1 z2 z3 z4 z5) + (((p6 &&& (3 : Int32)) % (3 : Int32)).toInt64)) - (1 : Int64))), .second, .val (.int ((((p6.toUInt32 >>> ((3 : Int32) &&& 31).toUInt32).toInt32) &&& (255 : Int32)) % (1 : Int32))), .val (.long (f9 ((((p6.toUInt32 >>> ((3 : Int32) &&& 31).toUInt32).toInt32) &&& (255 : Int32)) % (1 : Int32)) z0 z1 z2 z3 z4 z5)), .second]
abbrev lo0_106 (p1 p2 p3 p4 p5 p6 : Int32) (z0 z1 z2 z3 z4 z5 : Int64) (b360 b494 : Addr) : Array Slot := #[.val (.int p1), .val (.int p2), .val (.int p3), .val (.int p4), .val (.int p5), .val (.int p6), .val (.long (2147483647 : Int64)), .second, .val (.long (-2147483648 : Int64)), .second, .val (.long z0), .second, .val (.long z1), .second, .val (.long z2), .second, .val (.long z3), .second, .val (.long z4), .second, .val (.long z5), .second, .val (.int (mg0_80a p1 p2 p3 p4 p5 p6 z1 z2 z3 z4 z5)), .val (.int ((p1 &&& (2147483647 : Int32)) % (7 : Int32))), .val (.int (0 : Int32)), .val (.ref b360), .val (.ref b494), .val (.int (1 : Int32)), .val (.int ((((p1.toUInt32 >>> ((8 : Int32) &&& 31).toUInt32).toInt32) &&& (255 : Int32)) % (1 : Int32))), .val (.long (f9 ((((p6.toUInt32 >>> ((3 : Int32) &&& 31).toUInt32).toInt32) &&& (255 : Int32)) % (1 : Int32)) z0 z1 z2 z3 z4 z5)), .second, .val (.int ((((p6.toUInt32 >>> ((3 : Int32) &&& 31).toUInt32).toInt32) &&& (255 : Int32)) % (1 : Int32))), .val (.long (f9 ((((p6.toUInt32 >>> ((3 : Int32) &&& 31).toUInt32).toInt32) &&& (255 : Int32)) % (1 : Int32)) z0 z1 z2 z3 z4 z5)), .second]
abbrev lo0_107 (p1 p2 p3 p4 p5 p6 : Int32) (z0 z1 z2 z3 z4 z5 : Int64) (b360 b494 : Addr) : Array Slot := #[.val (.int p1), .val (.int p2), .val (.int p3), .val (.int p4), .val (.int p5), .val (.int p6), .val (.long (2147483647 : Int64)), .second, .val (.long (-2147483648 : Int64)), .second, .val (.long z0), .second, .val (.long z1), .second, .val (.long z2), .second, .val (.long z3), .second, .val (.long z4), .second, .val (.long z5), .second, .val (.int (mg0_80a p1 p2 p3 p4 p5 p6 z1 z2 z3 z4 z5)), .val (.int ((p1 &&& (2147483647 : Int32)) % (7 : Int32))), .val (.int (0 : Int32)), .val (.ref b360), .val (.ref b494), .val (.int (1 : Int32)), .val (.int ((((p1.toUInt32 >>> ((8 : Int32) &&& 31).toUInt32).toInt32) &&& (255 : Int32)) % (1 : Int32))), .val (.long (mg0_410g p1 p2 p3 p4 p5 p6 z0 z1 z2 z3 z4 z5)), .second, .val (.int ((((p6.toUInt32 >>> ((3 : Int32) &&& 31).toUInt32).toInt32) &&& (255 : Int32)) % (1 : Int32))), .val (.long (f9 ((((p6.toUInt32 >>> ((3 : Int32) &&& 31).toUInt32).toInt32) &&& (255 : Int32)) % (1 : Int32)) z0 z1 z2 z3 z4 z5)), .second]
abbrev lo0_108 (p1 p2 p3 p4 p5 p6 : Int32) (z0 z1 z2 z3 z4 z5 : Int64) (b360 b494 : Addr) : Array Slot := #[.val (.int p1), .val (.int p2), .val (.int p3), .val (.int p4), .val (.int p5), .val (.int p6), .val (.long (2147483647 : Int64)), .second, .val (.long (-2147483648 : Int64)), .second, .val (.long z0), .second, .val (.long z1), .second, .val (.long z2), .second, .val (.long z3), .second, .val (.long z4), .second, .val (.long z5), .second, .val (.int (mg0_80a p1 p2 p3 p4 p5 p6 z1 z2 z3 z4 z5)), .val (.int ((p1 &&& (2147483647 : Int32)) % (7 : Int32))), .val (.int (0 : Int32)), .val (.ref b360), .val (.ref b494), .val (.int (1 : Int32)), .val (.int ((((p1.toUInt32 >>> ((8 : Int32) &&& 31).toUInt32).toInt32) &&& (255 : Int32)) % (1 : Int32))), .val (.long (mg0_410g p1 p2 p3 p4 p5 p6 z0 z1 z2 z3 z4 z5)), .second, .val (.int (ex0 (0 : Int32) (mg0_410g p1 p2 p3 p4 p5 p6 z0 z1 z2 z3 z4 z5) z0 z1 z2 z3 z4 z5)), .val (.long (f9 ((((p6.toUInt32 >>> ((3 : Int32) &&& 31).toUInt32).toInt32) &&& (255 : Int32)) % (1 : Int32)) z0 z1 z2 z3 z4 z5)), .second]
abbrev lo0_109 (p1 p2 p3 p4 p5 p6 : Int32) (z0 z1 z2 z3 z4 z5 : Int64) (b360 b494 : Addr) : Array Slot := #[.val (.int p1), .val (.int p2), .val (.int p3), .val (.int p4), .val (.int p5), .val (.int p6), .val (.long (2147483647 : Int64)), .second, .val (.long (-2147483648 : Int64)), .second, .val (.long z0), .second, .val (.long z1), .second, .val (.long z2), .second, .val (.long z3), .second, .val (.long z4), .second, .val (.long z5), .second, .val (.int (mg0_80a p1 p2 p3 p4 p5 p6 z1 z2 z3 z4 z5)), .val (.int ((p1 &&& (2147483647 : Int32)) % (7 : Int32))), .val (.int (0 : Int32)), .val (.ref b360), .val (.ref b494), .val (.int (1 : Int32)), .val (.int ((((p1.toUInt32 >>> ((8 : Int32) &&& 31).toUInt32).toInt32) &&& (255 : Int32)) % (1 : Int32))), .val (.long (p6.toInt64)), .second, .unset, .unset, .unset]
abbrev lo0_110 (p1 p2 p3 p4 p5 p6 : Int32) (z0 z1 z2 z3 z4 z5 : Int64) (b360 b494 : Addr) : Array Slot := #[.val (.int p1), .val (.int p2), .val (.int p3), .val (.int p4), .val (.int p5), .val (.int p6), .val (.long (2147483647 : Int64)), .second, .val (.long (-2147483648 : Int64)), .second, .val (.long z0), .second, .val (.long z1), .second, .val (.long z2), .second, .val (.long z3), .second, .val (.long z4), .second, .val (.long z5), .second, .val (.int (mg0_80a p1 p2 p3 p4 p5 p6 z1 z2 z3 z4 z5)), .val (.int ((p1 &&& (2147483647 : Int32)) % (7 : Int32))), .val (.int (0 : Int32)), .val (.ref b360), .val (.ref b494), .val (.int (1 : Int32)), .val (.int ((((p1.toUInt32 >>> ((8 : Int32) &&& 31).toUInt32).toInt32) &&& (255 : Int32)) % (1 : Int32))), .val (.long (p6.toInt64)), .second, .val (.int (ex0 (0 : Int32) (p6.toInt64) z0 z1 z2 z3 z4 z5)), .unset, .unset]
set_option maxRecDepth 65536 in
set_option maxHeartbeats 40000000 in
theorem rm0 (l : Launch) (Z : State) (a0 : Array Value) (hw : HW a0 Z) (ws : List Jvm.Cond) (p1 p2 p3 p4 p5 p6 : Int32) (h0 : Heap) (n0 : Nat) (Z0 : n0 ≤ h0.size) :
    MF l x code maxLocals ret ws room_1 #[(.int p1), (.int p2), (.int p3), (.int p4), (.int p5), (.int p6)] Z h0 (QL (some (.int (1 : Int32))) n0) := by
  refine MetFree.of_bodySF (plainFor_of_name pn_9) hisR ?_
  intro p e s m args below meth c s₁ Bd hml0 hP hK
  obtain ⟨rfl, hZ, hh⟩ := hP
  have hx := Bd.exec
  have hby := Bd.bytes
  have hml : c.maxLocals = 34 := hml0
  have hown : s.vm.findClass "com/example/hard_delay_bounds/harddelaybounds/analysis/FlowSetBuildPinLaw" = some m.cls := findClass_of_methodNamed Bd.named
  have hnm := (name_of_methodNamed Bd.named Bd.method).1
  have X0 : Stand p l e room_1 s m #[(.int p1), (.int p2), (.int p3), (.int p4), (.int p5), (.int p6)] below meth c s₁ [] 0 0 := Stand.of_body Bd
  have e0 : s₁.heap = h0 := by rw [← hh, Bd.state]; rfl
  have N0 := Fr.nil n0
  have pre0 : GO p e below (s₁.setTop (mkF m 0 #[.val (.int p1), .val (.int p2), .val (.int p3), .val (.int p4), .val (.int p5), .val (.int p6), .unset, .unset, .unset, .unset, .unset, .unset, .unset, .unset, .unset, .unset, .unset, .unset, .unset, .unset, .unset, .unset, .unset, .unset, .unset, .unset, .unset, .unset, .unset, .unset, .unset, .unset, .unset, .unset] [])) (s₁.setTop (entryFrame m #[(.int p1), (.int p2), (.int p3), (.int p4), (.int p5), (.int p6)] maxLocals)) := fun t k => castTop (ef_0 m p1 p2 p3 p4 p5 p6) k
  have pre342 : GO p e below (s₁.setTop (mkF m 75 #[.val (.int p1), .val (.int p2), .val (.int p3), .val (.int p4), .val (.int p5), .val (.int p6), .val (.long (2147483647 : Int64)), .second, .val (.long (-2147483648 : Int64)), .second, .val (.long (p2.toInt64)), .second, .val (.long (((p2.toInt64) + (1 : Int64)) + ((p3 &&& (65535 : Int32)).toInt64))), .second, .val (.long (((((p2.toInt64) + (1 : Int64)) + ((p3 &&& (65535 : Int32)).toInt64)) + (1 : Int64)) + (((p3.toUInt32 >>> ((16 : Int32) &&& 31).toUInt32).toInt32).toInt64))), .second, .val (.long (((((((p2.toInt64) + (1 : Int64)) + ((p3 &&& (65535 : Int32)).toInt64)) + (1 : Int64)) + (((p3.toUInt32 >>> ((16 : Int32) &&& 31).toUInt32).toInt32).toInt64)) + (1 : Int64)) + ((p4 &&& (65535 : Int32)).toInt64))), .second, .val (.long (((((((((p2.toInt64) + (1 : Int64)) + ((p3 &&& (65535 : Int32)).toInt64)) + (1 : Int64)) + (((p3.toUInt32 >>> ((16 : Int32) &&& 31).toUInt32).toInt32).toInt64)) + (1 : Int64)) + ((p4 &&& (65535 : Int32)).toInt64)) + (1 : Int64)) + (((p4.toUInt32 >>> ((16 : Int32) &&& 31).toUInt32).toInt32).toInt64))), .second, .val (.long (((((((((((p2.toInt64) + (1 : Int64)) + ((p3 &&& (65535 : Int32)).toInt64)) + (1 : Int64)) + (((p3.toUInt32 >>> ((16 : Int32) &&& 31).toUInt32).toInt32).toInt64)) + (1 : Int64)) + ((p4 &&& (65535 : Int32)).toInt64)) + (1 : Int64)) + (((p4.toUInt32 >>> ((16 : Int32) &&& 31).toUInt32).toInt32).toInt64)) + (1 : Int64)) + ((p5 &&& (2147483647 : Int32)).toInt64))), .second, .unset, .unset, .unset, .unset, .unset, .unset, .unset, .unset, .unset, .unset, .unset, .unset] [])) (s₁.setTop (entryFrame m #[(.int p1), (.int p2), (.int p3), (.int p4), (.int p5), (.int p6)] maxLocals)) := fun t k => by
    refine pre0 _ ?_
    refine X0.ldc2Long hx hown (mvT hZ (ww hw 0 rfl)) (g := (mkF m 0 (lo0_0 p1 p2 p3 p4 p5 p6) [])) rfl (hb hby at_0) _ ?_
    show Steps p.tables e below (s₁.setTop (mkF m 3 (lo0_0 p1 p2 p3 p4 p5 p6) [(.long (2147483647 : Int64))])) _
    refine y_lstore X0 hx hby at_3 (l' := (lo0_1 p1 p2 p3 p4 p5 p6)) rfl ?_
    refine X0.ldc2Long hx hown (mvT hZ (ww hw 1 rfl)) (g := (mkF m 5 (lo0_1 p1 p2 p3 p4 p5 p6) [])) rfl (hb hby at_5) _ ?_
    show Steps p.tables e below (s₁.setTop (mkF m 8 (lo0_1 p1 p2 p3 p4 p5 p6) [(.long (-2147483648 : Int64))])) _
    refine y_lstore X0 hx hby at_8 (l' := (lo0_2 p1 p2 p3 p4 p5 p6)) rfl ?_
    refine y_iloadN X0 hx hby at_10 rfl ?_
    refine y_i2l X0 hx hby at_11 ?_
    refine y_lstore X0 hx hby at_12 (l' := (lo0_3 p1 p2 p3 p4 p5 p6)) rfl ?_
    refine y_lload X0 hx hby at_14 rfl ?_
    refine y_lconst X0 hx hby (v := (1 : Int64)) at_16 rfl ?_
    refine y_ladd X0 hx hby at_17 ?_
    refine y_iloadN X0 hx hby at_18 rfl ?_
    refine X0.ldcInt hx hown (mvT hZ (ww hw 2 rfl)) (g := (mkF m 19 (lo0_3 p1 p2 p3 p4 p5 p6) [(.int p3), (.long ((p2.toInt64) + (1 : Int64)))])) rfl (hb hby at_19) _ ?_
    show Steps p.tables e below (s₁.setTop (mkF m 21 (lo0_3 p1 p2 p3 p4 p5 p6) [(.int (65535 : Int32)), (.int p3), (.long ((p2.toInt64) + (1 : Int64)))])) _
    refine y_iand X0 hx hby at_21 ?_
    refine y_i2l X0 hx hby at_22 ?_
    refine y_ladd X0 hx hby at_23 ?_
    refine y_lstore X0 hx hby at_24 (l' := (lo0_4 p1 p2 p3 p4 p5 p6)) rfl ?_
    refine y_lload X0 hx hby at_26 rfl ?_
    refine y_lconst X0 hx hby (v := (1 : Int64)) at_28 rfl ?_
    refine y_ladd X0 hx hby at_29 ?_
    refine y_iloadN X0 hx hby at_30 rfl ?_
    refine y_bipush X0 hx hby (v := (16 : Int32)) at_31 rfl ?_
    refine y_iushr X0 hx hby at_33 ?_
    refine y_i2l X0 hx hby at_34 ?_
    refine y_ladd X0 hx hby at_35 ?_
    refine y_lstore X0 hx hby at_36 (l' := (lo0_5 p1 p2 p3 p4 p5 p6)) rfl ?_
    refine y_lload X0 hx hby at_38 rfl ?_
    refine y_lconst X0 hx hby (v := (1 : Int64)) at_40 rfl ?_
    refine y_ladd X0 hx hby at_41 ?_
    refine y_iloadN X0 hx hby at_42 rfl ?_
    refine X0.ldcInt hx hown (mvT hZ (ww hw 2 rfl)) (g := (mkF m 43 (lo0_5 p1 p2 p3 p4 p5 p6) [(.int p4), (.long ((((((p2.toInt64) + (1 : Int64)) + ((p3 &&& (65535 : Int32)).toInt64)) + (1 : Int64)) + (((p3.toUInt32 >>> ((16 : Int32) &&& 31).toUInt32).toInt32).toInt64)) + (1 : Int64)))])) rfl (hb hby at_43) _ ?_
    show Steps p.tables e below (s₁.setTop (mkF m 45 (lo0_5 p1 p2 p3 p4 p5 p6) [(.int (65535 : Int32)), (.int p4), (.long ((((((p2.toInt64) + (1 : Int64)) + ((p3 &&& (65535 : Int32)).toInt64)) + (1 : Int64)) + (((p3.toUInt32 >>> ((16 : Int32) &&& 31).toUInt32).toInt32).toInt64)) + (1 : Int64)))])) _
    refine y_iand X0 hx hby at_45 ?_
    refine y_i2l X0 hx hby at_46 ?_
    refine y_ladd X0 hx hby at_47 ?_
    refine y_lstore X0 hx hby at_48 (l' := (lo0_6 p1 p2 p3 p4 p5 p6)) rfl ?_
    refine y_lload X0 hx hby at_50 rfl ?_
    refine y_lconst X0 hx hby (v := (1 : Int64)) at_52 rfl ?_
    refine y_ladd X0 hx hby at_53 ?_
    refine y_iloadN X0 hx hby at_54 rfl ?_
    refine y_bipush X0 hx hby (v := (16 : Int32)) at_55 rfl ?_
    refine y_iushr X0 hx hby at_57 ?_
    refine y_i2l X0 hx hby at_58 ?_
    refine y_ladd X0 hx hby at_59 ?_
    refine y_lstore X0 hx hby at_60 (l' := (lo0_7 p1 p2 p3 p4 p5 p6)) rfl ?_
    refine y_lload X0 hx hby at_62 rfl ?_
    refine y_lconst X0 hx hby (v := (1 : Int64)) at_64 rfl ?_
    refine y_ladd X0 hx hby at_65 ?_
    refine y_iload X0 hx hby at_66 rfl ?_
    refine X0.ldcInt hx hown (mvT hZ (ww hw 3 rfl)) (g := (mkF m 68 (lo0_7 p1 p2 p3 p4 p5 p6) [(.int p5), (.long ((((((((((p2.toInt64) + (1 : Int64)) + ((p3 &&& (65535 : Int32)).toInt64)) + (1 : Int64)) + (((p3.toUInt32 >>> ((16 : Int32) &&& 31).toUInt32).toInt32).toInt64)) + (1 : Int64)) + ((p4 &&& (65535 : Int32)).toInt64)) + (1 : Int64)) + (((p4.toUInt32 >>> ((16 : Int32) &&& 31).toUInt32).toInt32).toInt64)) + (1 : Int64)))])) rfl (hb hby at_68) _ ?_
    show Steps p.tables e below (s₁.setTop (mkF m 70 (lo0_7 p1 p2 p3 p4 p5 p6) [(.int (2147483647 : Int32)), (.int p5), (.long ((((((((((p2.toInt64) + (1 : Int64)) + ((p3 &&& (65535 : Int32)).toInt64)) + (1 : Int64)) + (((p3.toUInt32 >>> ((16 : Int32) &&& 31).toUInt32).toInt32).toInt64)) + (1 : Int64)) + ((p4 &&& (65535 : Int32)).toInt64)) + (1 : Int64)) + (((p4.toUInt32 >>> ((16 : Int32) &&& 31).toUInt32).toInt32).toInt64)) + (1 : Int64)))])) _
    refine y_iand X0 hx hby at_70 ?_
    refine y_i2l X0 hx hby at_71 ?_
    refine y_ladd X0 hx hby at_72 ?_
    refine y_lstore X0 hx hby at_73 (l' := (lo0_8 p1 p2 p3 p4 p5 p6)) rfl ?_
    exact k
  have lo : -2147483648 ≤ (p2.toInt64).toInt ∧ (p2.toInt64).toInt ≤ 2147483647 := by rw [c_i2l]; have := rng32 p2; omega
  have o1 := own_next (K := 2147483647) (J := 65535) lo.1 lo.2 (own_m16 p3).1 (own_m16 p3).2 (by decide)
  have o2 := own_next (K := 2147549183) (J := 65535) (by omega) o1.2 (own_u16 p3).1 (own_u16 p3).2 (by decide)
  have o3 := own_next (K := 2147614719) (J := 65535) (by omega) o2.2 (own_m16 p4).1 (own_m16 p4).2 (by decide)
  have o4 := own_next (K := 2147680255) (J := 65535) (by omega) o3.2 (own_u16 p4).1 (own_u16 p4).2 (by decide)
  have o5 := own_next (K := 2147745791) (J := 2147483647) (by omega) o4.2 (own_m31 p5).1 (own_m31 p5).2 (by decide)
  replace o1 := o1.1
  replace o2 := o2.1
  replace o3 := o3.1
  replace o4 := o4.1
  replace o5 := o5.1
  generalize (((((((((((p2.toInt64) + (1 : Int64)) + ((p3 &&& (65535 : Int32)).toInt64)) + (1 : Int64)) + (((p3.toUInt32 >>> ((16 : Int32) &&& 31).toUInt32).toInt32).toInt64)) + (1 : Int64)) + ((p4 &&& (65535 : Int32)).toInt64)) + (1 : Int64)) + (((p4.toUInt32 >>> ((16 : Int32) &&& 31).toUInt32).toInt32).toInt64)) + (1 : Int64)) + ((p5 &&& (2147483647 : Int32)).toInt64)) = z5 at pre342 o5
  generalize (((((((((p2.toInt64) + (1 : Int64)) + ((p3 &&& (65535 : Int32)).toInt64)) + (1 : Int64)) + (((p3.toUInt32 >>> ((16 : Int32) &&& 31).toUInt32).toInt32).toInt64)) + (1 : Int64)) + ((p4 &&& (65535 : Int32)).toInt64)) + (1 : Int64)) + (((p4.toUInt32 >>> ((16 : Int32) &&& 31).toUInt32).toInt32).toInt64)) = z4 at pre342 o4 o5
  generalize (((((((p2.toInt64) + (1 : Int64)) + ((p3 &&& (65535 : Int32)).toInt64)) + (1 : Int64)) + (((p3.toUInt32 >>> ((16 : Int32) &&& 31).toUInt32).toInt32).toInt64)) + (1 : Int64)) + ((p4 &&& (65535 : Int32)).toInt64)) = z3 at pre342 o3 o4
  generalize (((((p2.toInt64) + (1 : Int64)) + ((p3 &&& (65535 : Int32)).toInt64)) + (1 : Int64)) + (((p3.toUInt32 >>> ((16 : Int32) &&& 31).toUInt32).toInt32).toInt64)) = z2 at pre342 o2 o3
  generalize (((p2.toInt64) + (1 : Int64)) + ((p3 &&& (65535 : Int32)).toInt64)) = z1 at pre342 o1 o2
  generalize (p2.toInt64) = z0 at pre342 lo o1
  have pre344 : GO p e below (s₁.setTop (mkF m 80 (lo0_9 p1 p2 p3 p4 p5 p6 z0 z1 z2 z3 z4 z5) [(.int (lcmpW z5 (2147483647 : Int64)))])) (s₁.setTop (entryFrame m #[(.int p1), (.int p2), (.int p3), (.int p4), (.int p5), (.int p6)] maxLocals)) := fun t k => by
    refine pre342 _ ?_
    refine y_lload X0 hx hby at_75 rfl ?_
    refine y_lload X0 hx hby at_77 rfl ?_
    refine y_lcmp X0 hx hby at_79 ?_
    exact k
  obtain ⟨T357, L357, X357, N357, e357, pre357⟩ : ∃ T' L', Stand p l e room_1 s m #[(.int p1), (.int p2), (.int p3), (.int p4), (.int p5), (.int p6)] below meth c T' L' 0 0 ∧ Fr n0 L' ∧ T'.heap = h0 ∧ ∀ t, Steps p.tables e below (T'.setTop (mkF m 149 #[.val (.int p1), .val (.int p2), .val (.int p3), .val (.int p4), .val (.int p5), .val (.int p6), .val (.long (2147483647 : Int64)), .second, .val (.long (-2147483648 : Int64)), .second, .val (.long z0), .second, .val (.long z1), .second, .val (.long z2), .second, .val (.long z3), .second, .val (.long z4), .second, .val (.long z5), .second, .val (.int (mg0_80a p1 p2 p3 p4 p5 p6 z1 z2 z3 z4 z5)), .unset, .unset, .unset, .unset, .unset, .unset, .unset, .unset, .unset, .unset, .unset] [])) t → Steps p.tables e below (s₁.setTop (entryFrame m #[(.int p1), (.int p2), (.int p3), (.int p4), (.int p5), (.int p6)] maxLocals)) t := by
    by_cases hc343 : (2147483647 : Int64) < z5
    · rw [show mg0_80a p1 p2 p3 p4 p5 p6 z1 z2 z3 z4 z5 = (mg0_95a p1 p2 p3 p4 p5 p6 z1 z2 z3 z4) from if_pos hc343]
      have pre346 : GO p e below (s₁.setTop (mkF m 95 (lo0_9 p1 p2 p3 p4 p5 p6 z0 z1 z2 z3 z4 z5) [(.int (lcmpW z4 (2147483647 : Int64)))])) (s₁.setTop (entryFrame m #[(.int p1), (.int p2), (.int p3), (.int p4), (.int p5), (.int p6)] maxLocals)) := fun t k => by
        refine pre344 _ ?_
        refine y_ifYes X0 hx hby (pc' := 90) at_80 ((if0 _ _).trans (tlt ((lw_gt z5 (2147483647 : Int64)).mpr hc343)).2.2.1) (by decide) (by decide) ?_
        refine y_lload X0 hx hby at_90 rfl ?_
        refine y_lload X0 hx hby at_92 rfl ?_
        refine y_lcmp X0 hx hby at_94 ?_
        exact k
      obtain ⟨T356, L356, X356, N356, e356, pre356⟩ : ∃ T' L', Stand p l e room_1 s m #[(.int p1), (.int p2), (.int p3), (.int p4), (.int p5), (.int p6)] below meth c T' L' 0 0 ∧ Fr n0 L' ∧ T'.heap = h0 ∧ ∀ t, Steps p.tables e below (T'.setTop (mkF m 149 #[.val (.int p1), .val (.int p2), .val (.int p3), .val (.int p4), .val (.int p5), .val (.int p6), .val (.long (2147483647 : Int64)), .second, .val (.long (-2147483648 : Int64)), .second, .val (.long z0), .second, .val (.long z1), .second, .val (.long z2), .second, .val (.long z3), .second, .val (.long z4), .second, .val (.long z5), .second, .val (.int (mg0_95a p1 p2 p3 p4 p5 p6 z1 z2 z3 z4)), .unset, .unset, .unset, .unset, .unset, .unset, .unset, .unset, .unset, .unset, .unset] [])) t → Steps p.tables e below (s₁.setTop (entryFrame m #[(.int p1), (.int p2), (.int p3), (.int p4), (.int p5), (.int p6)] maxLocals)) t := by
        by_cases hc345 : (2147483647 : Int64) < z4
        · rw [show mg0_95a p1 p2 p3 p4 p5 p6 z1 z2 z3 z4 = (mg0_109a p1 p2 p3 p4 p5 p6 z1 z2 z3) from if_pos hc345]
          have pre348 : GO p e below (s₁.setTop (mkF m 109 (lo0_9 p1 p2 p3 p4 p5 p6 z0 z1 z2 z3 z4 z5) [(.int (lcmpW z3 (2147483647 : Int64)))])) (s₁.setTop (entryFrame m #[(.int p1), (.int p2), (.int p3), (.int p4), (.int p5), (.int p6)] maxLocals)) := fun t k => by
            refine pre346 _ ?_
            refine y_ifYes X0 hx hby (pc' := 104) at_95 ((if0 _ _).trans (tlt ((lw_gt z4 (2147483647 : Int64)).mpr hc345)).2.2.1) (by decide) (by decide) ?_
            refine y_lload X0 hx hby at_104 rfl ?_
            refine y_lload X0 hx hby at_106 rfl ?_
            refine y_lcmp X0 hx hby at_108 ?_
            exact k
          obtain ⟨T355, L355, X355, N355, e355, pre355⟩ : ∃ T' L', Stand p l e room_1 s m #[(.int p1), (.int p2), (.int p3), (.int p4), (.int p5), (.int p6)] below meth c T' L' 0 0 ∧ Fr n0 L' ∧ T'.heap = h0 ∧ ∀ t, Steps p.tables e below (T'.setTop (mkF m 149 #[.val (.int p1), .val (.int p2), .val (.int p3), .val (.int p4), .val (.int p5), .val (.int p6), .val (.long (2147483647 : Int64)), .second, .val (.long (-2147483648 : Int64)), .second, .val (.long z0), .second, .val (.long z1), .second, .val (.long z2), .second, .val (.long z3), .second, .val (.long z4), .second, .val (.long z5), .second, .val (.int (mg0_109a p1 p2 p3 p4 p5 p6 z1 z2 z3)), .unset, .unset, .unset, .unset, .unset, .unset, .unset, .unset, .unset, .unset, .unset] [])) t → Steps p.tables e below (s₁.setTop (entryFrame m #[(.int p1), (.int p2), (.int p3), (.int p4), (.int p5), (.int p6)] maxLocals)) t := by
            by_cases hc347 : (2147483647 : Int64) < z3
            · rw [show mg0_109a p1 p2 p3 p4 p5 p6 z1 z2 z3 = (mg0_123a p1 p2 p3 p4 p5 p6 z1 z2) from if_pos hc347]
              have pre350 : GO p e below (s₁.setTop (mkF m 123 (lo0_9 p1 p2 p3 p4 p5 p6 z0 z1 z2 z3 z4 z5) [(.int (lcmpW z2 (2147483647 : Int64)))])) (s₁.setTop (entryFrame m #[(.int p1), (.int p2), (.int p3), (.int p4), (.int p5), (.int p6)] maxLocals)) := fun t k => by
                refine pre348 _ ?_
                refine y_ifYes X0 hx hby (pc' := 118) at_109 ((if0 _ _).trans (tlt ((lw_gt z3 (2147483647 : Int64)).mpr hc347)).2.2.1) (by decide) (by decide) ?_
                refine y_lload X0 hx hby at_118 rfl ?_
                refine y_lload X0 hx hby at_120 rfl ?_
                refine y_lcmp X0 hx hby at_122 ?_
                exact k
              obtain ⟨T354, L354, X354, N354, e354, pre354⟩ : ∃ T' L', Stand p l e room_1 s m #[(.int p1), (.int p2), (.int p3), (.int p4), (.int p5), (.int p6)] below meth c T' L' 0 0 ∧ Fr n0 L' ∧ T'.heap = h0 ∧ ∀ t, Steps p.tables e below (T'.setTop (mkF m 149 #[.val (.int p1), .val (.int p2), .val (.int p3), .val (.int p4), .val (.int p5), .val (.int p6), .val (.long (2147483647 : Int64)), .second, .val (.long (-2147483648 : Int64)), .second, .val (.long z0), .second, .val (.long z1), .second, .val (.long z2), .second, .val (.long z3), .second, .val (.long z4), .second, .val (.long z5), .second, .val (.int (mg0_123a p1 p2 p3 p4 p5 p6 z1 z2)), .unset, .unset, .unset, .unset, .unset, .unset, .unset, .unset, .unset, .unset, .unset] [])) t → Steps p.tables e below (s₁.setTop (entryFrame m #[(.int p1), (.int p2), (.int p3), (.int p4), (.int p5), (.int p6)] maxLocals)) t := by
                by_cases hc349 : (2147483647 : Int64) < z2
                · rw [show mg0_123a p1 p2 p3 p4 p5 p6 z1 z2 = (mg0_137a p1 p2 p3 p4 p5 p6 z1) from if_pos hc349]
                  have pre352 : GO p e below (s₁.setTop (mkF m 137 (lo0_9 p1 p2 p3 p4 p5 p6 z0 z1 z2 z3 z4 z5) [(.int (lcmpW z1 (2147483647 : Int64)))])) (s₁.setTop (entryFrame m #[(.int p1), (.int p2), (.int p3), (.int p4), (.int p5), (.int p6)] maxLocals)) := fun t k => by
                    refine pre350 _ ?_
                    refine y_ifYes X0 hx hby (pc' := 132) at_123 ((if0 _ _).trans (tlt ((lw_gt z2 (2147483647 : Int64)).mpr hc349)).2.2.1) (by decide) (by decide) ?_
                    refine y_lload X0 hx hby at_132 rfl ?_
                    refine y_lload X0 hx hby at_134 rfl ?_
                    refine y_lcmp X0 hx hby at_136 ?_
                    exact k
                  obtain ⟨T353, L353, X353, N353, e353, pre353⟩ : ∃ T' L', Stand p l e room_1 s m #[(.int p1), (.int p2), (.int p3), (.int p4), (.int p5), (.int p6)] below meth c T' L' 0 0 ∧ Fr n0 L' ∧ T'.heap = h0 ∧ ∀ t, Steps p.tables e below (T'.setTop (mkF m 149 #[.val (.int p1), .val (.int p2), .val (.int p3), .val (.int p4), .val (.int p5), .val (.int p6), .val (.long (2147483647 : Int64)), .second, .val (.long (-2147483648 : Int64)), .second, .val (.long z0), .second, .val (.long z1), .second, .val (.long z2), .second, .val (.long z3), .second, .val (.long z4), .second, .val (.long z5), .second, .val (.int (mg0_137a p1 p2 p3 p4 p5 p6 z1)), .unset, .unset, .unset, .unset, .unset, .unset, .unset, .unset, .unset, .unset, .unset] [])) t → Steps p.tables e below (s₁.setTop (entryFrame m #[(.int p1), (.int p2), (.int p3), (.int p4), (.int p5), (.int p6)] maxLocals)) t := by
                    by_cases hc351 : (2147483647 : Int64) < z1
                    · rw [show mg0_137a p1 p2 p3 p4 p5 p6 z1 = (1 : Int32) from if_pos hc351]
                      refine ⟨s₁, _, X0, N0, e0, fun t k => ?_⟩
                      refine pre352 _ ?_
                      refine y_ifYes X0 hx hby (pc' := 146) at_137 ((if0 _ _).trans (tlt ((lw_gt z1 (2147483647 : Int64)).mpr hc351)).2.2.1) (by decide) (by decide) ?_
                      refine y_iconst X0 hx hby (v := (1 : Int32)) at_146 rfl ?_
                      refine y_istore X0 hx hby at_147 (l' := (lo0_10 p1 p2 p3 p4 p5 p6 z0 z1 z2 z3 z4 z5)) rfl ?_
                      exact k
                    · rw [show mg0_137a p1 p2 p3 p4 p5 p6 z1 = (2 : Int32) from if_neg hc351]
                      refine ⟨s₁, _, X0, N0, e0, fun t k => ?_⟩
                      refine pre352 _ ?_
                      refine y_ifNo X0 hx hby at_137 ((if0 _ _).trans (flt (fun q => hc351 ((lw_gt z1 (2147483647 : Int64)).mp q))).2.2.1) ?_
                      refine y_iconst X0 hx hby (v := (2 : Int32)) at_140 rfl ?_
                      refine y_istore X0 hx hby at_141 (l' := (lo0_11 p1 p2 p3 p4 p5 p6 z0 z1 z2 z3 z4 z5)) rfl ?_
                      refine y_goto X0 hx hby (pc' := 149) at_143 (by decide) (by decide) ?_
                      exact k
                  refine ⟨T353, _, X353, N353, e353, fun t k => ?_⟩
                  refine pre353 _ ?_
                  exact k
                · rw [show mg0_123a p1 p2 p3 p4 p5 p6 z1 z2 = (3 : Int32) from if_neg hc349]
                  refine ⟨s₁, _, X0, N0, e0, fun t k => ?_⟩
                  refine pre350 _ ?_
                  refine y_ifNo X0 hx hby at_123 ((if0 _ _).trans (flt (fun q => hc349 ((lw_gt z2 (2147483647 : Int64)).mp q))).2.2.1) ?_
                  refine y_iconst X0 hx hby (v := (3 : Int32)) at_126 rfl ?_
                  refine y_istore X0 hx hby at_127 (l' := (lo0_12 p1 p2 p3 p4 p5 p6 z0 z1 z2 z3 z4 z5)) rfl ?_
                  refine y_goto X0 hx hby (pc' := 149) at_129 (by decide) (by decide) ?_
                  exact k
              refine ⟨T354, _, X354, N354, e354, fun t k => ?_⟩
              refine pre354 _ ?_
              exact k
            · rw [show mg0_109a p1 p2 p3 p4 p5 p6 z1 z2 z3 = (4 : Int32) from if_neg hc347]
              refine ⟨s₁, _, X0, N0, e0, fun t k => ?_⟩
              refine pre348 _ ?_
              refine y_ifNo X0 hx hby at_109 ((if0 _ _).trans (flt (fun q => hc347 ((lw_gt z3 (2147483647 : Int64)).mp q))).2.2.1) ?_
              refine y_iconst X0 hx hby (v := (4 : Int32)) at_112 rfl ?_
              refine y_istore X0 hx hby at_113 (l' := (lo0_13 p1 p2 p3 p4 p5 p6 z0 z1 z2 z3 z4 z5)) rfl ?_
              refine y_goto X0 hx hby (pc' := 149) at_115 (by decide) (by decide) ?_
              exact k
          refine ⟨T355, _, X355, N355, e355, fun t k => ?_⟩
          refine pre355 _ ?_
          exact k
        · rw [show mg0_95a p1 p2 p3 p4 p5 p6 z1 z2 z3 z4 = (5 : Int32) from if_neg hc345]
          refine ⟨s₁, _, X0, N0, e0, fun t k => ?_⟩
          refine pre346 _ ?_
          refine y_ifNo X0 hx hby at_95 ((if0 _ _).trans (flt (fun q => hc345 ((lw_gt z4 (2147483647 : Int64)).mp q))).2.2.1) ?_
          refine y_iconst X0 hx hby (v := (5 : Int32)) at_98 rfl ?_
          refine y_istore X0 hx hby at_99 (l' := (lo0_14 p1 p2 p3 p4 p5 p6 z0 z1 z2 z3 z4 z5)) rfl ?_
          refine y_goto X0 hx hby (pc' := 149) at_101 (by decide) (by decide) ?_
          exact k
      refine ⟨T356, _, X356, N356, e356, fun t k => ?_⟩
      refine pre356 _ ?_
      exact k
    · rw [show mg0_80a p1 p2 p3 p4 p5 p6 z1 z2 z3 z4 z5 = (6 : Int32) from if_neg hc343]
      refine ⟨s₁, _, X0, N0, e0, fun t k => ?_⟩
      refine pre344 _ ?_
      refine y_ifNo X0 hx hby at_80 ((if0 _ _).trans (flt (fun q => hc343 ((lw_gt z5 (2147483647 : Int64)).mp q))).2.2.1) ?_
      refine y_bipush X0 hx hby (v := (6 : Int32)) at_83 rfl ?_
      refine y_istore X0 hx hby at_85 (l' := (lo0_15 p1 p2 p3 p4 p5 p6 z0 z1 z2 z3 z4 z5)) rfl ?_
      refine y_goto X0 hx hby (pc' := 149) at_87 (by decide) (by decide) ?_
      exact k
  obtain ⟨_, _, ⟨T358, L358, k358, n358⟩, -, X358, ⟨Lc358, hQ358, l358, y358, z358⟩, st358⟩ := Jvm.LawKit.callS X357 hx (y := mn0) hown (mvT hZ (ww hw 4 rfl)) (mvT hZ (ww hw 5 rfl)) (mvT hZ (ww hw 6 rfl)) (mvT hZ (ww hw 7 rfl)) (by decide) (backOf (W := 0) (rm1 l Z a0 hw [] ((p1 &&& (2147483647 : Int32)) % (7 : Int32)) (mg0_80a p1 p2 p3 p4 p5 p6 z1 z2 z3 z4 z5) h0 n0 Z0) hZ (ww hw 7 rfl) (ww hw 6 rfl) (by decide) (by decide)) (g := (mkF m 162 (lo0_17 p1 p2 p3 p4 p5 p6 z0 z1 z2 z3 z4 z5) [(.int (mg0_80a p1 p2 p3 p4 p5 p6 z1 z2 z3 z4 z5)), (.int ((p1 &&& (2147483647 : Int32)) % (7 : Int32)))])) rfl (by rw [hml]; rfl) (argsL := [(.int ((p1 &&& (2147483647 : Int32)) % (7 : Int32))), (.int (mg0_80a p1 p2 p3 p4 p5 p6 z1 z2 z3 z4 z5))]) (rest := []) (lenOf pd_0 rfl) rfl (by show 2 * 0 + _ ≤ _; exact Nat.le_of_eq rfl) (hb hby at_162) (fun _ _ => ⟨rfl, e357, (by decide : 0 + 0 ≤ _), (by decide : 0 + 0 ≤ _)⟩)
  dsimp only [Pt.U, Pt.locs, Pt.cells, Pt.slots] at X358 l358 y358 z358 st358 hQ358
  subst l358 y358 z358
  obtain ⟨rfl, N358q, e358⟩ := hQ358
  have N358 := Fr.app N357 N358q
  have pre359 : GO p e below (T358.setTop (mkF m 167 #[.val (.int p1), .val (.int p2), .val (.int p3), .val (.int p4), .val (.int p5), .val (.int p6), .val (.long (2147483647 : Int64)), .second, .val (.long (-2147483648 : Int64)), .second, .val (.long z0), .second, .val (.long z1), .second, .val (.long z2), .second, .val (.long z3), .second, .val (.long z4), .second, .val (.long z5), .second, .val (.int (mg0_80a p1 p2 p3 p4 p5 p6 z1 z2 z3 z4 z5)), .val (.int ((p1 &&& (2147483647 : Int32)) % (7 : Int32))), .val (.int (f1 ((p1 &&& (2147483647 : Int32)) % (7 : Int32)) (mg0_80a p1 p2 p3 p4 p5 p6 z1 z2 z3 z4 z5))), .unset, .unset, .unset, .unset, .unset, .unset, .unset, .unset, .unset] [])) (s₁.setTop (entryFrame m #[(.int p1), (.int p2), (.int p3), (.int p4), (.int p5), (.int p6)] maxLocals)) := fun t k => by
    refine pre357 _ ?_
    refine y_iloadN X357 hx hby at_149 rfl ?_
    refine X357.ldcInt hx hown (mvT hZ (ww hw 3 rfl)) (g := (mkF m 150 (lo0_16 p1 p2 p3 p4 p5 p6 z0 z1 z2 z3 z4 z5) [(.int p1)])) rfl (hb hby at_150) _ ?_
    show Steps p.tables e below (T357.setTop (mkF m 152 (lo0_16 p1 p2 p3 p4 p5 p6 z0 z1 z2 z3 z4 z5) [(.int (2147483647 : Int32)), (.int p1)])) _
    refine y_iand X357 hx hby at_152 ?_
    refine y_bipush X357 hx hby (v := (7 : Int32)) at_153 rfl ?_
    refine Jvm.RoadKit.iremM X357 hx rfl (hb hby at_155) rfl (by decide) ?_
    show Steps p.tables e below (T357.setTop (mkF m 156 (lo0_16 p1 p2 p3 p4 p5 p6 z0 z1 z2 z3 z4 z5) [(.int ((p1 &&& (2147483647 : Int32)) % (7 : Int32)))])) _
    refine y_istore X357 hx hby at_156 (l' := (lo0_17 p1 p2 p3 p4 p5 p6 z0 z1 z2 z3 z4 z5)) rfl ?_
    refine y_iload X357 hx hby at_158 rfl ?_
    refine y_iload X357 hx hby at_160 rfl ?_
    refine st358 _ ?_
    show Steps p.tables e below (T358.setTop (mkF m 165 (lo0_17 p1 p2 p3 p4 p5 p6 z0 z1 z2 z3 z4 z5) [(.int (f1 ((p1 &&& (2147483647 : Int32)) % (7 : Int32)) (mg0_80a p1 p2 p3 p4 p5 p6 z1 z2 z3 z4 z5)))])) _
    refine y_istore X358 hx hby at_165 (l' := (lo0_18 p1 p2 p3 p4 p5 p6 z0 z1 z2 z3 z4 z5)) rfl ?_
    exact k
  have hcnt := own_cnt p1 p2 p3 p4 p5 p6 z0 z1 z2 z3 z4 z5 o1 o2 o3 o4 o5 lo
  generalize (f1 ((p1 &&& (2147483647 : Int32)) % (7 : Int32)) (mg0_80a p1 p2 p3 p4 p5 p6 z1 z2 z3 z4 z5)) = zc at pre359 hcnt
  obtain ⟨T360, h360, X360, e360, E360, A360, D360, -, st360⟩ := newO X358 hx hZ hown (ww hw 8 rfl) (ww hw 9 rfl) (ww hw 10 rfl) e358 (g := (mkF m 167 (lo0_19 p1 p2 p3 p4 p5 p6 z0 z1 z2 z3 z4 z5 zc) [])) rfl (hb hby at_167) (by decide) (by decide)
  obtain ⟨b360, g360⟩ : ∃ z, z = h0.size := ⟨_, rfl⟩
  rw [← g360] at A360 D360 st360
  have g_b360 : n0 ≤ b360 := Nat.le_trans Z0 (Nat.le_of_eq g360.symm)
  replace Z0 := Nat.le_trans Z0 E360.1
  have E_b360 := A360
  have F_numbers_b360 : Fld Z h360 b360 "com/example/hard_delay_bounds/harddelaybounds/analysis/FlowSet$Builder" "numbers" "[I" .null := D360 (Or.inl (ww hw 19 rfl)) (ty := (.array .int)) (by decide)
  have F_size_b360 : Fld Z h360 b360 "com/example/hard_delay_bounds/harddelaybounds/analysis/FlowSet$Builder" "size" "I" (.int (0 : Int32)) := D360 (Or.inl (ww hw 29 rfl)) (ty := .int) (by decide)
  obtain ⟨_, _, ⟨T361, L361, k361, n361⟩, -, X361, ⟨Lc361, hQ361, l361, y361, z361⟩, st361⟩ := X360.specialBack hx (y := mn3) rfl hown (mvT hZ (ww hw 11 rfl)) (mvT hZ (ww hw 12 rfl)) (mvT hZ (ww hw 13 rfl)) (by decide) (backOf (W := 1) (rm2 l Z a0 hw [] b360 h360 n0 Z0 E_b360 F_numbers_b360 F_size_b360 g_b360) hZ (ww hw 13 rfl) (ww hw 10 rfl) (by decide) (by decide)) (g := (mkF m 171 (lo0_19 p1 p2 p3 p4 p5 p6 z0 z1 z2 z3 z4 z5 zc) [(.ref b360), (.ref b360)])) rfl (by rw [hml]; rfl) (Steps.refl _) (a := b360) (argsL := []) (rest := [(.ref b360)]) (lenOf pd_6 rfl) rfl (by show 2 * 0 + _ ≤ _; exact Nat.le_of_eq rfl) (hb hby at_171) (fun _ _ => ⟨rfl, e360, (by decide : 1 + 1 ≤ _), (by decide : 2 + 4 ≤ _)⟩)
  dsimp only [Pt.U, Pt.locs, Pt.cells, Pt.slots] at X361 l361 y361 z361 st361 hQ361
  subst l361 y361 z361
  obtain ⟨h361, e361⟩ : ∃ z, T361.heap = z := ⟨_, rfl⟩
  rw [e361] at hQ361
  obtain ⟨rfl, N361q, K361, Eb361, Fs361, A361, k361, s361, Fn361, Vn361, En361⟩ := hQ361
  have g_A361 : n0 ≤ A361 := Nat.le_trans Z0 s361
  have ne_b360_A361 : b360 ≠ A361 := Nat.ne_of_lt (Nat.lt_of_lt_of_le E_b360.lt s361)
  replace E_b360 := E_b360.keep K361
  replace Z0 := Nat.le_trans Z0 K361.1
  have F_numbers_b360 : Fld Z h361 b360 "com/example/hard_delay_bounds/harddelaybounds/analysis/FlowSet$Builder" "numbers" "[I" (.ref A361) := Fn361
  have F_size_b360 : Fld Z h361 b360 "com/example/hard_delay_bounds/harddelaybounds/analysis/FlowSet$Builder" "size" "I" (.int (0 : Int32)) := Fs361
  have V_A361 : Arv Z h361 A361 k361 .int (4 : Int32) [(.int (0 : Int32)), (.int (0 : Int32)), (.int (0 : Int32)), (.int (0 : Int32))] (.int (0 : Int32)) := Vn361
  have E_A361 : Exa Z h361 A361 "[I" := En361
  have N361 := Fr.app N358 N361q
  have pre363 : GO p e below (T361.setTop (mkF m 178 (lo0_20 p1 p2 p3 p4 p5 p6 z0 z1 z2 z3 z4 z5 zc b360) [(.int zc)])) (s₁.setTop (entryFrame m #[(.int p1), (.int p2), (.int p3), (.int p4), (.int p5), (.int p6)] maxLocals)) := fun t k => by
    refine pre359 _ ?_
    refine st360 _ ?_
    show Steps p.tables e below (T360.setTop (mkF m 170 (lo0_19 p1 p2 p3 p4 p5 p6 z0 z1 z2 z3 z4 z5 zc) [(.ref b360)])) _
    refine y_dup X360 hx hby at_170 rfl ?_
    refine st361.trans ?_
    show Steps p.tables e below (T361.setTop (mkF m 174 (lo0_19 p1 p2 p3 p4 p5 p6 z0 z1 z2 z3 z4 z5 zc) [(.ref b360)])) _
    refine y_astore X361 hx hby at_174 rfl (l' := (lo0_20 p1 p2 p3 p4 p5 p6 z0 z1 z2 z3 z4 z5 zc b360)) rfl ?_
    refine y_iload X361 hx hby at_176 rfl ?_
    exact k
  by_cases hc362 : (0 : Int32) < zc
  · have hi0 := own_hi0 hcnt hc362 o1 o2 o3 o4 o5
    obtain ⟨cq364, kq364, q364a, q364b, q364c⟩ := isOf hZ e361 E_b360
    obtain ⟨_, _, ⟨T364, L364, k364, n364⟩, -, X364, ⟨Lc364, hQ364, l364, y364, z364⟩, st364⟩ := X361.virtualBack hx (y := mn4) (z := mn4) hown (mvT hZ (ww hw 75 rfl)) (mvT hZ (ww hw 76 rfl)) (notFace_of_selects (args := #[]) (mvT hZ (ww hw 78 rfl))) (mvT hZ (ww hw 78 rfl)) (mvT hZ (ww hw 77 rfl)) (by decide) (backOf (W := 0) (rm14_0 l Z a0 hw [] b360 (z0.toInt32) A361 k361  h361 n0 Z0 E_b360 F_numbers_b360 F_size_b360 E_A361 V_A361 g_b360 g_A361 ne_b360_A361) hZ (ww hw 79 rfl) (ww hw 10 rfl) (by decide) (by decide)) q364a q364c (g := (mkF m 186 (lo0_20 p1 p2 p3 p4 p5 p6 z0 z1 z2 z3 z4 z5 zc b360) [(.int (z0.toInt32)), (.ref b360)])) rfl (by rw [hml]; rfl) (Steps.refl _) (argsL := [(.int (z0.toInt32))]) (rest := []) (lenOf pd_7 rfl) rfl (by show 2 * 0 + _ ≤ _; exact Nat.le_of_eq rfl) (hb hby at_186) (fun _ _ => ⟨rfl, e361, (by decide : 2 + 0 ≤ _), (by decide : 6 + 0 ≤ _)⟩)
    dsimp only [Pt.U, Pt.locs, Pt.cells, Pt.slots] at X364 l364 y364 z364 st364 hQ364
    subst l364 y364 z364
    obtain ⟨h364, e364⟩ : ∃ z, T364.heap = z := ⟨_, rfl⟩
    rw [e364] at hQ364
    obtain ⟨rfl, N364q, K364, Fs364, Fn364, Vn364⟩ := hQ364
    replace E_b360 := E_b360.keep K364
    replace E_A361 := E_A361.keep K364
    replace Z0 := Nat.le_trans Z0 K364.1
    have F_size_b360 : Fld Z h364 b360 "com/example/hard_delay_bounds/harddelaybounds/analysis/FlowSet$Builder" "size" "I" (.int (1 : Int32)) := Fs364
    have F_numbers_b360 : Fld Z h364 b360 "com/example/hard_delay_bounds/harddelaybounds/analysis/FlowSet$Builder" "numbers" "[I" (.ref A361) := Fn364
    have V_A361 : Arv Z h364 A361 k361 .int (4 : Int32) [(.int (z0.toInt32)), (.int (0 : Int32)), (.int (0 : Int32)), (.int (0 : Int32))] (.int (0 : Int32)) := Vn364
    have N364 := Fr.app N361 N364q
    have pre366 : GO p e below (T364.setTop (mkF m 193 (lo0_20 p1 p2 p3 p4 p5 p6 z0 z1 z2 z3 z4 z5 zc b360) [(.int (1 : Int32)), (.int zc)])) (s₁.setTop (entryFrame m #[(.int p1), (.int p2), (.int p3), (.int p4), (.int p5), (.int p6)] maxLocals)) := fun t k => by
      refine pre363 _ ?_
      refine y_ifNo X361 hx hby at_178 ((if0 _ _).trans (tlt hc362).2.2.2) ?_
      refine y_aload X361 hx hby at_181 rfl rfl ?_
      refine y_lload X361 hx hby at_183 rfl ?_
      refine y_l2i X361 hx hby at_185 ?_
      refine st364.trans ?_
      show Steps p.tables e below (T364.setTop (mkF m 189 (lo0_20 p1 p2 p3 p4 p5 p6 z0 z1 z2 z3 z4 z5 zc b360) [(.ref b360)])) _
      refine y_pop X364 hx hby at_189 rfl ?_
      refine y_iload X364 hx hby at_190 rfl ?_
      refine y_iconst X364 hx hby (v := (1 : Int32)) at_192 rfl ?_
      exact k
    by_cases hc365 : (1 : Int32) < zc
    · have hi1 := own_hi1 hcnt hc365 o1 o2 o3 o4 o5
      have lt1 : z0.toInt32 < z1.toInt32 := own_cast (by omega) o1 hi1
      obtain ⟨cq367, kq367, q367a, q367b, q367c⟩ := isOf hZ e364 E_b360
      obtain ⟨_, _, ⟨T367, L367, k367, n367⟩, -, X367, ⟨Lc367, hQ367, l367, y367, z367⟩, st367⟩ := X364.virtualBack hx (y := mn4) (z := mn4) hown (mvT hZ (ww hw 75 rfl)) (mvT hZ (ww hw 76 rfl)) (notFace_of_selects (args := #[]) (mvT hZ (ww hw 78 rfl))) (mvT hZ (ww hw 78 rfl)) (mvT hZ (ww hw 77 rfl)) (by decide) (backOf (W := 0) (rm14_1 l Z a0 hw [] b360 (z1.toInt32) A361 k361 (z0.toInt32) h364 n0 Z0 lt1 E_b360 F_numbers_b360 F_size_b360 E_A361 V_A361 g_b360 g_A361 ne_b360_A361) hZ (ww hw 79 rfl) (ww hw 10 rfl) (by decide) (by decide)) q367a q367c (g := (mkF m 201 (lo0_20 p1 p2 p3 p4 p5 p6 z0 z1 z2 z3 z4 z5 zc b360) [(.int (z1.toInt32)), (.ref b360)])) rfl (by rw [hml]; rfl) (Steps.refl _) (argsL := [(.int (z1.toInt32))]) (rest := []) (lenOf pd_7 rfl) rfl (by show 2 * 0 + _ ≤ _; exact Nat.le_of_eq rfl) (hb hby at_201) (fun _ _ => ⟨rfl, e364, (by decide : 2 + 0 ≤ _), (by decide : 6 + 0 ≤ _)⟩)
      dsimp only [Pt.U, Pt.locs, Pt.cells, Pt.slots] at X367 l367 y367 z367 st367 hQ367
      subst l367 y367 z367
      obtain ⟨h367, e367⟩ : ∃ z, T367.heap = z := ⟨_, rfl⟩
      rw [e367] at hQ367
      obtain ⟨rfl, N367q, K367, Fs367, Fn367, Vn367⟩ := hQ367
      replace E_b360 := E_b360.keep K367
      replace E_A361 := E_A361.keep K367
      replace Z0 := Nat.le_trans Z0 K367.1
      have F_size_b360 : Fld Z h367 b360 "com/example/hard_delay_bounds/harddelaybounds/analysis/FlowSet$Builder" "size" "I" (.int (2 : Int32)) := Fs367
      have F_numbers_b360 : Fld Z h367 b360 "com/example/hard_delay_bounds/harddelaybounds/analysis/FlowSet$Builder" "numbers" "[I" (.ref A361) := Fn367
      have V_A361 : Arv Z h367 A361 k361 .int (4 : Int32) [(.int (z0.toInt32)), (.int (z1.toInt32)), (.int (0 : Int32)), (.int (0 : Int32))] (.int (0 : Int32)) := Vn367
      have N367 := Fr.app N364 N367q
      have pre369 : GO p e below (T367.setTop (mkF m 208 (lo0_20 p1 p2 p3 p4 p5 p6 z0 z1 z2 z3 z4 z5 zc b360) [(.int (2 : Int32)), (.int zc)])) (s₁.setTop (entryFrame m #[(.int p1), (.int p2), (.int p3), (.int p4), (.int p5), (.int p6)] maxLocals)) := fun t k => by
        refine pre366 _ ?_
        refine y_icmpNo X364 hx hby at_193 (tlt hc365).2.2.2 ?_
        refine y_aload X364 hx hby at_196 rfl rfl ?_
        refine y_lload X364 hx hby at_198 rfl ?_
        refine y_l2i X364 hx hby at_200 ?_
        refine st367.trans ?_
        show Steps p.tables e below (T367.setTop (mkF m 204 (lo0_20 p1 p2 p3 p4 p5 p6 z0 z1 z2 z3 z4 z5 zc b360) [(.ref b360)])) _
        refine y_pop X367 hx hby at_204 rfl ?_
        refine y_iload X367 hx hby at_205 rfl ?_
        refine y_iconst X367 hx hby (v := (2 : Int32)) at_207 rfl ?_
        exact k
      by_cases hc368 : (2 : Int32) < zc
      · have hi2 := own_hi2 hcnt hc368 o1 o2 o3 o4 o5
        have lt2 : z1.toInt32 < z2.toInt32 := own_cast (by omega) o2 hi2
        obtain ⟨cq370, kq370, q370a, q370b, q370c⟩ := isOf hZ e367 E_b360
        obtain ⟨_, _, ⟨T370, L370, k370, n370⟩, -, X370, ⟨Lc370, hQ370, l370, y370, z370⟩, st370⟩ := X367.virtualBack hx (y := mn4) (z := mn4) hown (mvT hZ (ww hw 75 rfl)) (mvT hZ (ww hw 76 rfl)) (notFace_of_selects (args := #[]) (mvT hZ (ww hw 78 rfl))) (mvT hZ (ww hw 78 rfl)) (mvT hZ (ww hw 77 rfl)) (by decide) (backOf (W := 0) (rm14_2 l Z a0 hw [] b360 (z2.toInt32) A361 k361 (z0.toInt32) (z1.toInt32) h367 n0 Z0 lt2 E_b360 F_numbers_b360 F_size_b360 E_A361 V_A361 g_b360 g_A361 ne_b360_A361) hZ (ww hw 79 rfl) (ww hw 10 rfl) (by decide) (by decide)) q370a q370c (g := (mkF m 216 (lo0_20 p1 p2 p3 p4 p5 p6 z0 z1 z2 z3 z4 z5 zc b360) [(.int (z2.toInt32)), (.ref b360)])) rfl (by rw [hml]; rfl) (Steps.refl _) (argsL := [(.int (z2.toInt32))]) (rest := []) (lenOf pd_7 rfl) rfl (by show 2 * 0 + _ ≤ _; exact Nat.le_of_eq rfl) (hb hby at_216) (fun _ _ => ⟨rfl, e367, (by decide : 2 + 0 ≤ _), (by decide : 6 + 0 ≤ _)⟩)
        dsimp only [Pt.U, Pt.locs, Pt.cells, Pt.slots] at X370 l370 y370 z370 st370 hQ370
        subst l370 y370 z370
        obtain ⟨h370, e370⟩ : ∃ z, T370.heap = z := ⟨_, rfl⟩
        rw [e370] at hQ370
        obtain ⟨rfl, N370q, K370, Fs370, Fn370, Vn370⟩ := hQ370
        replace E_b360 := E_b360.keep K370
        replace E_A361 := E_A361.keep K370
        replace Z0 := Nat.le_trans Z0 K370.1
        have F_size_b360 : Fld Z h370 b360 "com/example/hard_delay_bounds/harddelaybounds/analysis/FlowSet$Builder" "size" "I" (.int (3 : Int32)) := Fs370
        have F_numbers_b360 : Fld Z h370 b360 "com/example/hard_delay_bounds/harddelaybounds/analysis/FlowSet$Builder" "numbers" "[I" (.ref A361) := Fn370
        have V_A361 : Arv Z h370 A361 k361 .int (4 : Int32) [(.int (z0.toInt32)), (.int (z1.toInt32)), (.int (z2.toInt32)), (.int (0 : Int32))] (.int (0 : Int32)) := Vn370
        have N370 := Fr.app N367 N370q
        have pre372 : GO p e below (T370.setTop (mkF m 223 (lo0_20 p1 p2 p3 p4 p5 p6 z0 z1 z2 z3 z4 z5 zc b360) [(.int (3 : Int32)), (.int zc)])) (s₁.setTop (entryFrame m #[(.int p1), (.int p2), (.int p3), (.int p4), (.int p5), (.int p6)] maxLocals)) := fun t k => by
          refine pre369 _ ?_
          refine y_icmpNo X367 hx hby at_208 (tlt hc368).2.2.2 ?_
          refine y_aload X367 hx hby at_211 rfl rfl ?_
          refine y_lload X367 hx hby at_213 rfl ?_
          refine y_l2i X367 hx hby at_215 ?_
          refine st370.trans ?_
          show Steps p.tables e below (T370.setTop (mkF m 219 (lo0_20 p1 p2 p3 p4 p5 p6 z0 z1 z2 z3 z4 z5 zc b360) [(.ref b360)])) _
          refine y_pop X370 hx hby at_219 rfl ?_
          refine y_iload X370 hx hby at_220 rfl ?_
          refine y_iconst X370 hx hby (v := (3 : Int32)) at_222 rfl ?_
          exact k
        by_cases hc371 : (3 : Int32) < zc
        · have hi3 := own_hi3 hcnt hc371 o1 o2 o3 o4 o5
          have lt3 : z2.toInt32 < z3.toInt32 := own_cast (by omega) o3 hi3
          obtain ⟨cq373, kq373, q373a, q373b, q373c⟩ := isOf hZ e370 E_b360
          obtain ⟨_, _, ⟨T373, L373, k373, n373⟩, -, X373, ⟨Lc373, hQ373, l373, y373, z373⟩, st373⟩ := X370.virtualBack hx (y := mn4) (z := mn4) hown (mvT hZ (ww hw 75 rfl)) (mvT hZ (ww hw 76 rfl)) (notFace_of_selects (args := #[]) (mvT hZ (ww hw 78 rfl))) (mvT hZ (ww hw 78 rfl)) (mvT hZ (ww hw 77 rfl)) (by decide) (backOf (W := 0) (rm14_3 l Z a0 hw [] b360 (z3.toInt32) A361 k361 (z0.toInt32) (z1.toInt32) (z2.toInt32) h370 n0 Z0 lt3 E_b360 F_numbers_b360 F_size_b360 E_A361 V_A361 g_b360 g_A361 ne_b360_A361) hZ (ww hw 79 rfl) (ww hw 10 rfl) (by decide) (by decide)) q373a q373c (g := (mkF m 231 (lo0_20 p1 p2 p3 p4 p5 p6 z0 z1 z2 z3 z4 z5 zc b360) [(.int (z3.toInt32)), (.ref b360)])) rfl (by rw [hml]; rfl) (Steps.refl _) (argsL := [(.int (z3.toInt32))]) (rest := []) (lenOf pd_7 rfl) rfl (by show 2 * 0 + _ ≤ _; exact Nat.le_of_eq rfl) (hb hby at_231) (fun _ _ => ⟨rfl, e370, (by decide : 2 + 0 ≤ _), (by decide : 6 + 0 ≤ _)⟩)
          dsimp only [Pt.U, Pt.locs, Pt.cells, Pt.slots] at X373 l373 y373 z373 st373 hQ373
          subst l373 y373 z373
          obtain ⟨h373, e373⟩ : ∃ z, T373.heap = z := ⟨_, rfl⟩
          rw [e373] at hQ373
          obtain ⟨rfl, N373q, K373, Fs373, Fn373, Vn373⟩ := hQ373
          replace E_b360 := E_b360.keep K373
          replace E_A361 := E_A361.keep K373
          replace Z0 := Nat.le_trans Z0 K373.1
          have F_size_b360 : Fld Z h373 b360 "com/example/hard_delay_bounds/harddelaybounds/analysis/FlowSet$Builder" "size" "I" (.int (4 : Int32)) := Fs373
          have F_numbers_b360 : Fld Z h373 b360 "com/example/hard_delay_bounds/harddelaybounds/analysis/FlowSet$Builder" "numbers" "[I" (.ref A361) := Fn373
          have V_A361 : Arv Z h373 A361 k361 .int (4 : Int32) [(.int (z0.toInt32)), (.int (z1.toInt32)), (.int (z2.toInt32)), (.int (z3.toInt32))] (.int (0 : Int32)) := Vn373
          have N373 := Fr.app N370 N373q
          have pre375 : GO p e below (T373.setTop (mkF m 238 (lo0_20 p1 p2 p3 p4 p5 p6 z0 z1 z2 z3 z4 z5 zc b360) [(.int (4 : Int32)), (.int zc)])) (s₁.setTop (entryFrame m #[(.int p1), (.int p2), (.int p3), (.int p4), (.int p5), (.int p6)] maxLocals)) := fun t k => by
            refine pre372 _ ?_
            refine y_icmpNo X370 hx hby at_223 (tlt hc371).2.2.2 ?_
            refine y_aload X370 hx hby at_226 rfl rfl ?_
            refine y_lload X370 hx hby at_228 rfl ?_
            refine y_l2i X370 hx hby at_230 ?_
            refine st373.trans ?_
            show Steps p.tables e below (T373.setTop (mkF m 234 (lo0_20 p1 p2 p3 p4 p5 p6 z0 z1 z2 z3 z4 z5 zc b360) [(.ref b360)])) _
            refine y_pop X373 hx hby at_234 rfl ?_
            refine y_iload X373 hx hby at_235 rfl ?_
            refine y_iconst X373 hx hby (v := (4 : Int32)) at_237 rfl ?_
            exact k
          by_cases hc374 : (4 : Int32) < zc
          · have hi4 := own_hi4 hcnt hc374 o1 o2 o3 o4 o5
            have lt4 : z3.toInt32 < z4.toInt32 := own_cast (by omega) o4 hi4
            obtain ⟨cq376, kq376, q376a, q376b, q376c⟩ := isOf hZ e373 E_b360
            obtain ⟨_, _, ⟨T376, L376, k376, n376⟩, -, X376, ⟨Lc376, hQ376, l376, y376, z376⟩, st376⟩ := X373.virtualBack hx (y := mn4) (z := mn4) hown (mvT hZ (ww hw 75 rfl)) (mvT hZ (ww hw 76 rfl)) (notFace_of_selects (args := #[]) (mvT hZ (ww hw 78 rfl))) (mvT hZ (ww hw 78 rfl)) (mvT hZ (ww hw 77 rfl)) (by decide) (backOf (W := 0) (rm14_4 l Z a0 hw [] b360 (z4.toInt32) A361 k361 (z0.toInt32) (z1.toInt32) (z2.toInt32) (z3.toInt32) h373 n0 Z0 lt4 E_b360 F_numbers_b360 F_size_b360 E_A361 V_A361 g_b360 ne_b360_A361) hZ (ww hw 79 rfl) (ww hw 10 rfl) (by decide) (by decide)) q376a q376c (g := (mkF m 246 (lo0_20 p1 p2 p3 p4 p5 p6 z0 z1 z2 z3 z4 z5 zc b360) [(.int (z4.toInt32)), (.ref b360)])) rfl (by rw [hml]; rfl) (Steps.refl _) (argsL := [(.int (z4.toInt32))]) (rest := []) (lenOf pd_7 rfl) rfl (by show 2 * 0 + _ ≤ _; exact Nat.le_of_eq rfl) (hb hby at_246) (fun _ _ => ⟨rfl, e373, (by decide : 2 + 1 ≤ _), (by decide : 6 + 8 ≤ _)⟩)
            dsimp only [Pt.U, Pt.locs, Pt.cells, Pt.slots] at X376 l376 y376 z376 st376 hQ376
            subst l376 y376 z376
            obtain ⟨h376, e376⟩ : ∃ z, T376.heap = z := ⟨_, rfl⟩
            rw [e376] at hQ376
            obtain ⟨b376, k376, rfl, N376q, K376, s376, Fs376, Fn376, Vn376, En376⟩ := hQ376
            have g_b376 : n0 ≤ b376 := Nat.le_trans Z0 s376
            have ne_b360_b376 : b360 ≠ b376 := Nat.ne_of_lt (Nat.lt_of_lt_of_le E_b360.lt s376)
            have ne_A361_b376 : A361 ≠ b376 := Nat.ne_of_lt (Nat.lt_of_lt_of_le V_A361.lt s376)
            replace E_b360 := E_b360.keep K376
            replace V_A361 := V_A361.keep K376 (ninS (Ne.symm ne_b360_A361) nin0)
            replace E_A361 := E_A361.keep K376
            replace Z0 := Nat.le_trans Z0 K376.1
            have E_b376 := En376
            have F_size_b360 : Fld Z h376 b360 "com/example/hard_delay_bounds/harddelaybounds/analysis/FlowSet$Builder" "size" "I" (.int (5 : Int32)) := Fs376
            have F_numbers_b360 : Fld Z h376 b360 "com/example/hard_delay_bounds/harddelaybounds/analysis/FlowSet$Builder" "numbers" "[I" (.ref b376) := Fn376
            have V_b376 : Arv Z h376 b376 k376 .int (8 : Int32) [(.int (z0.toInt32)), (.int (z1.toInt32)), (.int (z2.toInt32)), (.int (z3.toInt32)), (.int (z4.toInt32)), (.int (0 : Int32)), (.int (0 : Int32)), (.int (0 : Int32))] (.int (0 : Int32)) := Vn376
            have N376 := Fr.app N373 N376q
            have pre378 : GO p e below (T376.setTop (mkF m 253 (lo0_20 p1 p2 p3 p4 p5 p6 z0 z1 z2 z3 z4 z5 zc b360) [(.int (5 : Int32)), (.int zc)])) (s₁.setTop (entryFrame m #[(.int p1), (.int p2), (.int p3), (.int p4), (.int p5), (.int p6)] maxLocals)) := fun t k => by
              refine pre375 _ ?_
              refine y_icmpNo X373 hx hby at_238 (tlt hc374).2.2.2 ?_
              refine y_aload X373 hx hby at_241 rfl rfl ?_
              refine y_lload X373 hx hby at_243 rfl ?_
              refine y_l2i X373 hx hby at_245 ?_
              refine st376.trans ?_
              show Steps p.tables e below (T376.setTop (mkF m 249 (lo0_20 p1 p2 p3 p4 p5 p6 z0 z1 z2 z3 z4 z5 zc b360) [(.ref b360)])) _
              refine y_pop X376 hx hby at_249 rfl ?_
              refine y_iload X376 hx hby at_250 rfl ?_
              refine y_iconst X376 hx hby (v := (5 : Int32)) at_252 rfl ?_
              exact k
            by_cases hc377 : (5 : Int32) < zc
            · have hi5 := own_hi5 hcnt hc377 o1 o2 o3 o4 o5
              have lt5 : z4.toInt32 < z5.toInt32 := own_cast (by omega) o5 hi5
              obtain ⟨rfl, hi⟩ := own_fix6 hcnt hc377 
              obtain ⟨cq379, kq379, q379a, q379b, q379c⟩ := isOf hZ e376 E_b360
              obtain ⟨_, _, ⟨T379, L379, k379, n379⟩, -, X379, ⟨Lc379, hQ379, l379, y379, z379⟩, st379⟩ := X376.virtualBack hx (y := mn4) (z := mn4) hown (mvT hZ (ww hw 75 rfl)) (mvT hZ (ww hw 76 rfl)) (notFace_of_selects (args := #[]) (mvT hZ (ww hw 78 rfl))) (mvT hZ (ww hw 78 rfl)) (mvT hZ (ww hw 77 rfl)) (by decide) (backOf (W := 0) (rm14_5 l Z a0 hw [] b360 (z5.toInt32) b376 k376 (z0.toInt32) (z1.toInt32) (z2.toInt32) (z3.toInt32) (z4.toInt32) h376 n0 Z0 lt5 E_b360 F_numbers_b360 F_size_b360 E_b376 V_b376 g_b360 g_b376 ne_b360_b376) hZ (ww hw 79 rfl) (ww hw 10 rfl) (by decide) (by decide)) q379a q379c (g := (mkF m 261 (lo0_21 p1 p2 p3 p4 p5 p6 z0 z1 z2 z3 z4 z5 b360) [(.int (z5.toInt32)), (.ref b360)])) rfl (by rw [hml]; rfl) (Steps.refl _) (argsL := [(.int (z5.toInt32))]) (rest := []) (lenOf pd_7 rfl) rfl (by show 2 * 0 + _ ≤ _; exact Nat.le_of_eq rfl) (hb hby at_261) (fun _ _ => ⟨rfl, e376, (by decide : 3 + 0 ≤ _), (by decide : 14 + 0 ≤ _)⟩)
              dsimp only [Pt.U, Pt.locs, Pt.cells, Pt.slots] at X379 l379 y379 z379 st379 hQ379
              subst l379 y379 z379
              obtain ⟨h379, e379⟩ : ∃ z, T379.heap = z := ⟨_, rfl⟩
              rw [e379] at hQ379
              obtain ⟨rfl, N379q, K379, Fs379, Fn379, Vn379⟩ := hQ379
              replace E_b360 := E_b360.keep K379
              replace V_A361 := V_A361.keep K379 (ninS (Ne.symm ne_b360_A361) (ninS ne_A361_b376 nin0))
              replace E_A361 := E_A361.keep K379
              replace E_b376 := E_b376.keep K379
              replace Z0 := Nat.le_trans Z0 K379.1
              have F_size_b360 : Fld Z h379 b360 "com/example/hard_delay_bounds/harddelaybounds/analysis/FlowSet$Builder" "size" "I" (.int (6 : Int32)) := Fs379
              have F_numbers_b360 : Fld Z h379 b360 "com/example/hard_delay_bounds/harddelaybounds/analysis/FlowSet$Builder" "numbers" "[I" (.ref b376) := Fn379
              have V_b376 : Arv Z h379 b376 k376 .int (8 : Int32) [(.int (z0.toInt32)), (.int (z1.toInt32)), (.int (z2.toInt32)), (.int (z3.toInt32)), (.int (z4.toInt32)), (.int (z5.toInt32)), (.int (0 : Int32)), (.int (0 : Int32))] (.int (0 : Int32)) := Vn379
              have N379 := Fr.app N376 N379q
              obtain ⟨cq380, kq380, q380a, q380b, q380c⟩ := isOf hZ e379 E_b360
              obtain ⟨_, _, ⟨T380, L380, k380, n380⟩, -, X380, ⟨Lc380, hQ380, l380, y380, z380⟩, st380⟩ := X379.virtualBack hx (y := mn7) (z := mn7) hown (mvT hZ (ww hw 20 rfl)) (mvT hZ (ww hw 21 rfl)) (notFace_of_selects (args := #[]) (mvT hZ (ww hw 23 rfl))) (mvT hZ (ww hw 23 rfl)) (mvT hZ (ww hw 22 rfl)) (by decide) (backOf (W := 0) (rm4_6 l Z a0 hw [] b360 b376 k376 (z0.toInt32) (z1.toInt32) (z2.toInt32) (z3.toInt32) (z4.toInt32) (z5.toInt32) h379 n0 Z0 E_b360 F_numbers_b360 F_size_b360 E_b376 V_b376 ne_b360_b376) hZ (ww hw 24 rfl) (ww hw 10 rfl) (by decide) (by decide)) q380a q380c (g := (mkF m 267 (lo0_21 p1 p2 p3 p4 p5 p6 z0 z1 z2 z3 z4 z5 b360) [(.ref b360)])) rfl (by rw [hml]; rfl) (Steps.refl _) (argsL := []) (rest := []) (lenOf pd_8 rfl) rfl (by show 2 * 0 + _ ≤ _; exact Nat.le_of_eq rfl) (hb hby at_267) (fun _ _ => ⟨rfl, e379, (by decide : 3 + 2 ≤ _), (by decide : 14 + 8 ≤ _)⟩)
              dsimp only [Pt.U, Pt.locs, Pt.cells, Pt.slots] at X380 l380 y380 z380 st380 hQ380
              subst l380 y380 z380
              obtain ⟨h380, e380⟩ : ∃ z, T380.heap = z := ⟨_, rfl⟩
              rw [e380] at hQ380
              obtain ⟨b380, B380, k380, rfl, N380q, K380, s380, t380, En380, Fn380, Vn380⟩ := hQ380
              have g_b380 : n0 ≤ b380 := Nat.le_trans Z0 s380
              have ne_b360_b380 : b360 ≠ b380 := Nat.ne_of_lt (Nat.lt_of_lt_of_le E_b360.lt s380)
              have ne_A361_b380 : A361 ≠ b380 := Nat.ne_of_lt (Nat.lt_of_lt_of_le V_A361.lt s380)
              have ne_b376_b380 : b376 ≠ b380 := Nat.ne_of_lt (Nat.lt_of_lt_of_le E_b376.lt s380)
              replace E_b360 := E_b360.keep K380
              replace F_numbers_b360 := F_numbers_b360.keep K380 nin0
              replace F_size_b360 := F_size_b360.keep K380 nin0
              replace V_A361 := V_A361.keep K380 nin0
              replace E_A361 := E_A361.keep K380
              replace E_b376 := E_b376.keep K380
              replace V_b376 := V_b376.keep K380 nin0
              replace Z0 := Nat.le_trans Z0 K380.1
              have E_b380 : Exa Z h380 b380 "com/example/hard_delay_bounds/harddelaybounds/analysis/FlowSet" := En380
              have F_numbers_b380 : Fld Z h380 b380 "com/example/hard_delay_bounds/harddelaybounds/analysis/FlowSet" "numbers" "[I" (.ref B380) := Fn380
              have V_B380 : Arv Z h380 B380 k380 .int (6 : Int32) [(.int (z0.toInt32)), (.int (z1.toInt32)), (.int (z2.toInt32)), (.int (z3.toInt32)), (.int (z4.toInt32)), (.int (z5.toInt32))] (.int (0 : Int32)) := Vn380
              have N380 := Fr.app N379 N380q
              obtain ⟨cq381, kq381, q381a, q381b, q381c⟩ := isOf hZ e380 E_b380
              obtain ⟨_, _, ⟨T381, L381, k381, n381⟩, -, X381, ⟨Lc381, hQ381, l381, y381, z381⟩, st381⟩ := X380.virtualBack hx (y := mn8) (z := mn8) hown (mvT hZ (ww hw 47 rfl)) (mvT hZ (ww hw 48 rfl)) (notFace_of_selects (args := #[]) (mvT hZ (ww hw 50 rfl))) (mvT hZ (ww hw 50 rfl)) (mvT hZ (ww hw 49 rfl)) (by decide) (backOf (W := 0) (rm7_6 l Z a0 hw [] b380 B380 k380 (z0.toInt32) (z1.toInt32) (z2.toInt32) (z3.toInt32) (z4.toInt32) (z5.toInt32) h380 n0 Z0 F_numbers_b380 V_B380) hZ (ww hw 51 rfl) (ww hw 27 rfl) (by decide) (by decide)) q381a q381c (g := (mkF m 274 (lo0_22 p1 p2 p3 p4 p5 p6 z0 z1 z2 z3 z4 z5 b360 b380) [(.ref b380)])) rfl (by rw [hml]; rfl) (Steps.refl _) (argsL := []) (rest := []) (lenOf pd_9 rfl) rfl (by show 2 * 0 + _ ≤ _; exact Nat.le_of_eq rfl) (hb hby at_274) (fun _ _ => ⟨rfl, e380, (by decide : 5 + 0 ≤ _), (by decide : 22 + 0 ≤ _)⟩)
              dsimp only [Pt.U, Pt.locs, Pt.cells, Pt.slots] at X381 l381 y381 z381 st381 hQ381
              subst l381 y381 z381
              obtain ⟨rfl, N381q, e381⟩ := hQ381
              have N381 := Fr.app N380 N381q
              obtain ⟨_, _, ⟨T382, L382, k382, n382⟩, -, X382, ⟨Lc382, hQ382, l382, y382, z382⟩, st382⟩ := Jvm.LawKit.callS X381 hx (y := mn2) hown (mvT hZ (ww hw 52 rfl)) (mvT hZ (ww hw 53 rfl)) (mvT hZ (ww hw 6 rfl)) (mvT hZ (ww hw 54 rfl)) (by decide) (backOf (W := 0) (rm8 l Z a0 hw [] (6 : Int32) (1 : Int32) h380 n0 Z0) hZ (ww hw 54 rfl) (ww hw 6 rfl) (by decide) (by decide)) (g := (mkF m 287 (lo0_22 p1 p2 p3 p4 p5 p6 z0 z1 z2 z3 z4 z5 b360 b380) [(.int (1 : Int32)), (.int (6 : Int32))])) rfl (by rw [hml]; rfl) (argsL := [(.int (6 : Int32)), (.int (1 : Int32))]) (rest := []) (lenOf pd_0 rfl) rfl (by show 2 * 0 + _ ≤ _; exact Nat.le_of_eq rfl) (hb hby at_287) (fun _ _ => ⟨rfl, e381, (by decide : 5 + 0 ≤ _), (by decide : 22 + 0 ≤ _)⟩)
              dsimp only [Pt.U, Pt.locs, Pt.cells, Pt.slots] at X382 l382 y382 z382 st382 hQ382
              subst l382 y382 z382
              obtain ⟨rfl, N382q, e382⟩ := hQ382
              rw [show f8 (6 : Int32) (1 : Int32) = (6 : Int32) from by decide] at st382
              have N382 := Fr.app N381 N382q
              obtain ⟨_, _, ⟨T383, L383, k383, n383⟩, -, X383, ⟨Lc383, hQ383, l383, y383, z383⟩, st383⟩ := Jvm.LawKit.callS X382 hx (y := mn1) hown (mvT hZ (ww hw 55 rfl)) (mvT hZ (ww hw 56 rfl)) (mvT hZ (ww hw 57 rfl)) (mvT hZ (ww hw 58 rfl)) (by decide) (backOf (W := 0) (rm9 l Z a0 hw [] ((((p1.toUInt32 >>> ((8 : Int32) &&& 31).toUInt32).toInt32) &&& (255 : Int32)) % (6 : Int32)) z0 z1 z2 z3 z4 z5 h380 n0 Z0) hZ (ww hw 58 rfl) (ww hw 57 rfl) (by decide) (by decide)) (g := (mkF m 324 (lo0_24 p1 p2 p3 p4 p5 p6 z0 z1 z2 z3 z4 z5 b360 b380) [(.long z5), (.long z4), (.long z3), (.long z2), (.long z1), (.long z0), (.int ((((p1.toUInt32 >>> ((8 : Int32) &&& 31).toUInt32).toInt32) &&& (255 : Int32)) % (6 : Int32)))])) rfl (by rw [hml]; rfl) (argsL := [(.int ((((p1.toUInt32 >>> ((8 : Int32) &&& 31).toUInt32).toInt32) &&& (255 : Int32)) % (6 : Int32))), (.long z0), (.long z1), (.long z2), (.long z3), (.long z4), (.long z5)]) (rest := []) (lenOf pd_10 rfl) rfl (by show 2 * 0 + _ ≤ _; exact Nat.le_of_eq rfl) (hb hby at_324) (fun _ _ => ⟨rfl, e382, (by decide : 5 + 0 ≤ _), (by decide : 22 + 0 ≤ _)⟩)
              dsimp only [Pt.U, Pt.locs, Pt.cells, Pt.slots] at X383 l383 y383 z383 st383 hQ383
              subst l383 y383 z383
              obtain ⟨rfl, N383q, e383⟩ := hQ383
              have N383 := Fr.app N382 N383q
              have ng := own_nuget_6 (p2 := ((((p1.toUInt32 >>> ((8 : Int32) &&& 31).toUInt32).toInt32) &&& (255 : Int32)) % (6 : Int32))) (x0 := (z0.toInt32)) (x1 := (z1.toInt32)) (x2 := (z2.toInt32)) (x3 := (z3.toInt32)) (x4 := (z4.toInt32)) (x5 := (z5.toInt32)) (own_rem6 _ (own_and _))
              obtain ⟨cq384, kq384, q384a, q384b, q384c⟩ := isOf hZ e383 E_b380
              obtain ⟨_, _, ⟨T384, L384, k384, n384⟩, -, X384, ⟨Lc384, hQ384, l384, y384, z384⟩, st384⟩ := X383.virtualBack hx (y := mn13) (z := mn13) hown (mvT hZ (ww hw 90 rfl)) (mvT hZ (ww hw 91 rfl)) (notFace_of_selects (args := #[]) (mvT hZ (ww hw 93 rfl))) (mvT hZ (ww hw 93 rfl)) (mvT hZ (ww hw 92 rfl)) (by decide) (backOf (W := 0) (rm15_any l Z a0 hw [] b380 ((((p1.toUInt32 >>> ((8 : Int32) &&& 31).toUInt32).toInt32) &&& (255 : Int32)) % (6 : Int32)) B380 k380 _ _ _ h380 n0 Z0 ng.1 ng.2.1 ng.2.2 F_numbers_b380 V_B380) hZ (ww hw 94 rfl) (ww hw 27 rfl) (by decide) (by decide)) q384a q384c (g := (mkF m 333 (lo0_25 p1 p2 p3 p4 p5 p6 z0 z1 z2 z3 z4 z5 b360 b380) [(.int ((((p1.toUInt32 >>> ((8 : Int32) &&& 31).toUInt32).toInt32) &&& (255 : Int32)) % (6 : Int32))), (.ref b380)])) rfl (by rw [hml]; rfl) (Steps.refl _) (argsL := [(.int ((((p1.toUInt32 >>> ((8 : Int32) &&& 31).toUInt32).toInt32) &&& (255 : Int32)) % (6 : Int32)))]) (rest := []) (lenOf pd_5 rfl) rfl (by show 2 * 0 + _ ≤ _; exact Nat.le_of_eq rfl) (hb hby at_333) (fun _ _ => ⟨rfl, e383, (by decide : 5 + 0 ≤ _), (by decide : 22 + 0 ≤ _)⟩)
              dsimp only [Pt.U, Pt.locs, Pt.cells, Pt.slots] at X384 l384 y384 z384 st384 hQ384
              subst l384 y384 z384
              obtain ⟨rfl, N384q, e384⟩ := hQ384
              have N384 := Fr.app N383 N384q
              have pre386 : GO p e below (T384.setTop (mkF m 348 (lo0_25 p1 p2 p3 p4 p5 p6 z0 z1 z2 z3 z4 z5 b360 b380) [(.int (p6 &&& (4 : Int32)))])) (s₁.setTop (entryFrame m #[(.int p1), (.int p2), (.int p3), (.int p4), (.int p5), (.int p6)] maxLocals)) := fun t k => by
                refine pre378 _ ?_
                refine y_icmpNo X376 hx hby at_253 (tlt hc377).2.2.2 ?_
                refine y_aload X376 hx hby at_256 rfl rfl ?_
                refine y_lload X376 hx hby at_258 rfl ?_
                refine y_l2i X376 hx hby at_260 ?_
                refine st379.trans ?_
                show Steps p.tables e below (T379.setTop (mkF m 264 (lo0_21 p1 p2 p3 p4 p5 p6 z0 z1 z2 z3 z4 z5 b360) [(.ref b360)])) _
                refine y_pop X379 hx hby at_264 rfl ?_
                refine y_aload X379 hx hby at_265 rfl rfl ?_
                refine st380.trans ?_
                show Steps p.tables e below (T380.setTop (mkF m 270 (lo0_21 p1 p2 p3 p4 p5 p6 z0 z1 z2 z3 z4 z5 b360) [(.ref b380)])) _
                refine y_astore X380 hx hby at_270 rfl (l' := (lo0_22 p1 p2 p3 p4 p5 p6 z0 z1 z2 z3 z4 z5 b360 b380)) rfl ?_
                refine y_aload X380 hx hby at_272 rfl rfl ?_
                refine st381.trans ?_
                show Steps p.tables e below (T381.setTop (mkF m 277 (lo0_22 p1 p2 p3 p4 p5 p6 z0 z1 z2 z3 z4 z5 b360 b380) [(.int (6 : Int32))])) _
                refine y_iload X381 hx hby at_277 rfl ?_
                refine y_icmpYes X381 hx hby (pc' := 284) at_279 (teq rfl).1 (by decide) (by decide) ?_
                refine y_iload X381 hx hby at_284 rfl ?_
                refine y_iconst X381 hx hby (v := (1 : Int32)) at_286 rfl ?_
                refine st382 _ ?_
                show Steps p.tables e below (T382.setTop (mkF m 290 (lo0_22 p1 p2 p3 p4 p5 p6 z0 z1 z2 z3 z4 z5 b360 b380) [(.int (6 : Int32))])) _
                refine y_istore X382 hx hby at_290 (l' := (lo0_23 p1 p2 p3 p4 p5 p6 z0 z1 z2 z3 z4 z5 b360 b380)) rfl ?_
                refine y_iloadN X382 hx hby at_292 rfl ?_
                refine y_bipush X382 hx hby (v := (8 : Int32)) at_293 rfl ?_
                refine y_iushr X382 hx hby at_295 ?_
                refine y_sipush X382 hx hby (v := (255 : Int32)) at_296 rfl ?_
                refine y_iand X382 hx hby at_299 ?_
                refine y_iload X382 hx hby at_300 rfl ?_
                refine Jvm.RoadKit.iremM X382 hx rfl (hb hby at_302) rfl (by decide) ?_
                show Steps p.tables e below (T382.setTop (mkF m 303 (lo0_23 p1 p2 p3 p4 p5 p6 z0 z1 z2 z3 z4 z5 b360 b380) [(.int ((((p1.toUInt32 >>> ((8 : Int32) &&& 31).toUInt32).toInt32) &&& (255 : Int32)) % (6 : Int32)))])) _
                refine y_istore X382 hx hby at_303 (l' := (lo0_24 p1 p2 p3 p4 p5 p6 z0 z1 z2 z3 z4 z5 b360 b380)) rfl ?_
                refine y_iload X382 hx hby at_305 rfl ?_
                refine y_ifNo X382 hx hby at_307 ((if0 _ _).trans (tlt (by decide)).2.2.2) ?_
                refine y_iload X382 hx hby at_310 rfl ?_
                refine y_lload X382 hx hby at_312 rfl ?_
                refine y_lload X382 hx hby at_314 rfl ?_
                refine y_lload X382 hx hby at_316 rfl ?_
                refine y_lload X382 hx hby at_318 rfl ?_
                refine y_lload X382 hx hby at_320 rfl ?_
                refine y_lload X382 hx hby at_322 rfl ?_
                refine st383 _ ?_
                show Steps p.tables e below (T383.setTop (mkF m 327 (lo0_24 p1 p2 p3 p4 p5 p6 z0 z1 z2 z3 z4 z5 b360 b380) [(.long (f9 ((((p1.toUInt32 >>> ((8 : Int32) &&& 31).toUInt32).toInt32) &&& (255 : Int32)) % (6 : Int32)) z0 z1 z2 z3 z4 z5))])) _
                refine y_lstore X383 hx hby at_327 (l' := (lo0_25 p1 p2 p3 p4 p5 p6 z0 z1 z2 z3 z4 z5 b360 b380)) rfl ?_
                refine y_aload X383 hx hby at_329 rfl rfl ?_
                refine y_iload X383 hx hby at_331 rfl ?_
                refine st384.trans ?_
                show Steps p.tables e below (T384.setTop (mkF m 336 (lo0_25 p1 p2 p3 p4 p5 p6 z0 z1 z2 z3 z4 z5 b360 b380) [(.int (nu_6 ((((p1.toUInt32 >>> ((8 : Int32) &&& 31).toUInt32).toInt32) &&& (255 : Int32)) % (6 : Int32)) (z0.toInt32) (z1.toInt32) (z2.toInt32) (z3.toInt32) (z4.toInt32) (z5.toInt32)))])) _
                refine y_lload X384 hx hby at_336 rfl ?_
                refine y_l2i X384 hx hby at_338 ?_
                refine y_icmpYes X384 hx hby (pc' := 344) at_339 (teq (own_nup6 _ z0 z1 z2 z3 z4 z5 (own_rem6 _ (own_and _)))).1 (by decide) (by decide) ?_
                refine y_iload X384 hx hby at_344 rfl ?_
                refine y_iconst X384 hx hby (v := (4 : Int32)) at_346 rfl ?_
                refine y_iand X384 hx hby at_347 ?_
                exact k
              by_cases hc385 : (p6 &&& (4 : Int32)) = (0 : Int32)
              · obtain ⟨_, _, ⟨T387, L387, k387, n387⟩, -, X387, ⟨Lc387, hQ387, l387, y387, z387⟩, st387⟩ := Jvm.LawKit.callS X384 hx (y := mn1) hown (mvT hZ (ww hw 55 rfl)) (mvT hZ (ww hw 56 rfl)) (mvT hZ (ww hw 57 rfl)) (mvT hZ (ww hw 58 rfl)) (by decide) (backOf (W := 0) (rm9 l Z a0 hw [] ((((p6.toUInt32 >>> ((3 : Int32) &&& 31).toUInt32).toInt32) &&& (255 : Int32)) % (6 : Int32)) z0 z1 z2 z3 z4 z5 h380 n0 Z0) hZ (ww hw 58 rfl) (ww hw 57 rfl) (by decide) (by decide)) (g := (mkF m 386 (lo0_26 p1 p2 p3 p4 p5 p6 z0 z1 z2 z3 z4 z5 b360 b380) [(.long z5), (.long z4), (.long z3), (.long z2), (.long z1), (.long z0), (.int ((((p6.toUInt32 >>> ((3 : Int32) &&& 31).toUInt32).toInt32) &&& (255 : Int32)) % (6 : Int32)))])) rfl (by rw [hml]; rfl) (argsL := [(.int ((((p6.toUInt32 >>> ((3 : Int32) &&& 31).toUInt32).toInt32) &&& (255 : Int32)) % (6 : Int32))), (.long z0), (.long z1), (.long z2), (.long z3), (.long z4), (.long z5)]) (rest := []) (lenOf pd_10 rfl) rfl (by show 2 * 0 + _ ≤ _; exact Nat.le_of_eq rfl) (hb hby at_386) (fun _ _ => ⟨rfl, e384, (by decide : 5 + 0 ≤ _), (by decide : 22 + 0 ≤ _)⟩)
                dsimp only [Pt.U, Pt.locs, Pt.cells, Pt.slots] at X387 l387 y387 z387 st387 hQ387
                subst l387 y387 z387
                obtain ⟨rfl, N387q, e387⟩ := hQ387
                have N387 := Fr.app N384 N387q
                have pre389 : GO p e below (T387.setTop (mkF m 410 (lo0_28 p1 p2 p3 p4 p5 p6 z0 z1 z2 z3 z4 z5 b360 b380) [(.int (lcmpW (((f9 ((((p6.toUInt32 >>> ((3 : Int32) &&& 31).toUInt32).toInt32) &&& (255 : Int32)) % (6 : Int32)) z0 z1 z2 z3 z4 z5) + (((p6 &&& (3 : Int32)) % (3 : Int32)).toInt64)) - (1 : Int64)) (2147483647 : Int64)))])) (s₁.setTop (entryFrame m #[(.int p1), (.int p2), (.int p3), (.int p4), (.int p5), (.int p6)] maxLocals)) := fun t k => by
                  refine pre386 _ ?_
                  refine y_ifYes X384 hx hby (pc' := 359) at_348 ((if0 _ _).trans (teq hc385).1) (by decide) (by decide) ?_
                  refine y_iload X384 hx hby at_359 rfl ?_
                  refine y_iconst X384 hx hby (v := (3 : Int32)) at_361 rfl ?_
                  refine y_iushr X384 hx hby at_362 ?_
                  refine y_sipush X384 hx hby (v := (255 : Int32)) at_363 rfl ?_
                  refine y_iand X384 hx hby at_366 ?_
                  refine y_iload X384 hx hby at_367 rfl ?_
                  refine Jvm.RoadKit.iremM X384 hx rfl (hb hby at_369) rfl (by decide) ?_
                  show Steps p.tables e below (T384.setTop (mkF m 370 (lo0_25 p1 p2 p3 p4 p5 p6 z0 z1 z2 z3 z4 z5 b360 b380) [(.int ((((p6.toUInt32 >>> ((3 : Int32) &&& 31).toUInt32).toInt32) &&& (255 : Int32)) % (6 : Int32)))])) _
                  refine y_istore X384 hx hby at_370 (l' := (lo0_26 p1 p2 p3 p4 p5 p6 z0 z1 z2 z3 z4 z5 b360 b380)) rfl ?_
                  refine y_iload X384 hx hby at_372 rfl ?_
                  refine y_lload X384 hx hby at_374 rfl ?_
                  refine y_lload X384 hx hby at_376 rfl ?_
                  refine y_lload X384 hx hby at_378 rfl ?_
                  refine y_lload X384 hx hby at_380 rfl ?_
                  refine y_lload X384 hx hby at_382 rfl ?_
                  refine y_lload X384 hx hby at_384 rfl ?_
                  refine st387 _ ?_
                  show Steps p.tables e below (T387.setTop (mkF m 389 (lo0_26 p1 p2 p3 p4 p5 p6 z0 z1 z2 z3 z4 z5 b360 b380) [(.long (f9 ((((p6.toUInt32 >>> ((3 : Int32) &&& 31).toUInt32).toInt32) &&& (255 : Int32)) % (6 : Int32)) z0 z1 z2 z3 z4 z5))])) _
                  refine y_lstore X387 hx hby at_389 (l' := (lo0_27 p1 p2 p3 p4 p5 p6 z0 z1 z2 z3 z4 z5 b360 b380)) rfl ?_
                  refine y_lload X387 hx hby at_391 rfl ?_
                  refine y_iload X387 hx hby at_393 rfl ?_
                  refine y_iconst X387 hx hby (v := (3 : Int32)) at_395 rfl ?_
                  refine y_iand X387 hx hby at_396 ?_
                  refine y_iconst X387 hx hby (v := (3 : Int32)) at_397 rfl ?_
                  refine Jvm.RoadKit.iremM X387 hx rfl (hb hby at_398) rfl (by decide) ?_
                  show Steps p.tables e below (T387.setTop (mkF m 399 (lo0_27 p1 p2 p3 p4 p5 p6 z0 z1 z2 z3 z4 z5 b360 b380) [(.int ((p6 &&& (3 : Int32)) % (3 : Int32))), (.long (f9 ((((p6.toUInt32 >>> ((3 : Int32) &&& 31).toUInt32).toInt32) &&& (255 : Int32)) % (6 : Int32)) z0 z1 z2 z3 z4 z5))])) _
                  refine y_i2l X387 hx hby at_399 ?_
                  refine y_ladd X387 hx hby at_400 ?_
                  refine y_lconst X387 hx hby (v := (1 : Int64)) at_401 rfl ?_
                  refine y_lsub X387 hx hby at_402 ?_
                  refine y_lstore X387 hx hby at_403 (l' := (lo0_28 p1 p2 p3 p4 p5 p6 z0 z1 z2 z3 z4 z5 b360 b380)) rfl ?_
                  refine y_lload X387 hx hby at_405 rfl ?_
                  refine y_lload X387 hx hby at_407 rfl ?_
                  refine y_lcmp X387 hx hby at_409 ?_
                  exact k
                obtain ⟨T393, L393, X393, N393, e393, pre393⟩ : ∃ T' L', Stand p l e room_1 s m #[(.int p1), (.int p2), (.int p3), (.int p4), (.int p5), (.int p6)] below meth c T' L' 5 22 ∧ Fr n0 L' ∧ T'.heap = h380 ∧ ∀ t, Steps p.tables e below (T'.setTop (mkF m 425 #[.val (.int p1), .val (.int p2), .val (.int p3), .val (.int p4), .val (.int p5), .val (.int p6), .val (.long (2147483647 : Int64)), .second, .val (.long (-2147483648 : Int64)), .second, .val (.long z0), .second, .val (.long z1), .second, .val (.long z2), .second, .val (.long z3), .second, .val (.long z4), .second, .val (.long z5), .second, .val (.int (mg0_80a p1 p2 p3 p4 p5 p6 z1 z2 z3 z4 z5)), .val (.int ((p1 &&& (2147483647 : Int32)) % (7 : Int32))), .val (.int (6 : Int32)), .val (.ref b360), .val (.ref b380), .val (.int (6 : Int32)), .val (.int ((((p1.toUInt32 >>> ((8 : Int32) &&& 31).toUInt32).toInt32) &&& (255 : Int32)) % (6 : Int32))), .val (.long (mg0_410a p1 p2 p3 p4 p5 p6 z0 z1 z2 z3 z4 z5)), .second, .val (.int ((((p6.toUInt32 >>> ((3 : Int32) &&& 31).toUInt32).toInt32) &&& (255 : Int32)) % (6 : Int32))), .val (.long (f9 ((((p6.toUInt32 >>> ((3 : Int32) &&& 31).toUInt32).toInt32) &&& (255 : Int32)) % (6 : Int32)) z0 z1 z2 z3 z4 z5)), .second] [])) t → Steps p.tables e below (s₁.setTop (entryFrame m #[(.int p1), (.int p2), (.int p3), (.int p4), (.int p5), (.int p6)] maxLocals)) t := by
                  by_cases hc388 : (2147483647 : Int64) < (((f9 ((((p6.toUInt32 >>> ((3 : Int32) &&& 31).toUInt32).toInt32) &&& (255 : Int32)) % (6 : Int32)) z0 z1 z2 z3 z4 z5) + (((p6 &&& (3 : Int32)) % (3 : Int32)).toInt64)) - (1 : Int64))
                  · rw [show mg0_410a p1 p2 p3 p4 p5 p6 z0 z1 z2 z3 z4 z5 = (f9 ((((p6.toUInt32 >>> ((3 : Int32) &&& 31).toUInt32).toInt32) &&& (255 : Int32)) % (6 : Int32)) z0 z1 z2 z3 z4 z5) from if_pos hc388]
                    refine ⟨T387, _, X387, N387, e387, fun t k => ?_⟩
                    refine pre389 _ ?_
                    refine y_ifYes X387 hx hby (pc' := 421) at_410 ((if0 _ _).trans (tlt ((lw_gt (((f9 ((((p6.toUInt32 >>> ((3 : Int32) &&& 31).toUInt32).toInt32) &&& (255 : Int32)) % (6 : Int32)) z0 z1 z2 z3 z4 z5) + (((p6 &&& (3 : Int32)) % (3 : Int32)).toInt64)) - (1 : Int64)) (2147483647 : Int64)).mpr hc388)).2.2.1) (by decide) (by decide) ?_
                    refine y_lload X387 hx hby at_421 rfl ?_
                    refine y_lstore X387 hx hby at_423 (l' := (lo0_29 p1 p2 p3 p4 p5 p6 z0 z1 z2 z3 z4 z5 b360 b380)) rfl ?_
                    exact k
                  · rw [show mg0_410a p1 p2 p3 p4 p5 p6 z0 z1 z2 z3 z4 z5 = (mg0_418a p1 p2 p3 p4 p5 p6 z0 z1 z2 z3 z4 z5) from if_neg hc388]
                    have pre391 : GO p e below (T387.setTop (mkF m 418 (lo0_28 p1 p2 p3 p4 p5 p6 z0 z1 z2 z3 z4 z5 b360 b380) [(.int (lcmpW (((f9 ((((p6.toUInt32 >>> ((3 : Int32) &&& 31).toUInt32).toInt32) &&& (255 : Int32)) % (6 : Int32)) z0 z1 z2 z3 z4 z5) + (((p6 &&& (3 : Int32)) % (3 : Int32)).toInt64)) - (1 : Int64)) (-2147483648 : Int64)))])) (s₁.setTop (entryFrame m #[(.int p1), (.int p2), (.int p3), (.int p4), (.int p5), (.int p6)] maxLocals)) := fun t k => by
                      refine pre389 _ ?_
                      refine y_ifNo X387 hx hby at_410 ((if0 _ _).trans (flt (fun q => hc388 ((lw_gt (((f9 ((((p6.toUInt32 >>> ((3 : Int32) &&& 31).toUInt32).toInt32) &&& (255 : Int32)) % (6 : Int32)) z0 z1 z2 z3 z4 z5) + (((p6 &&& (3 : Int32)) % (3 : Int32)).toInt64)) - (1 : Int64)) (2147483647 : Int64)).mp q))).2.2.1) ?_
                      refine y_lload X387 hx hby at_413 rfl ?_
                      refine y_lload X387 hx hby at_415 rfl ?_
                      refine y_lcmp X387 hx hby at_417 ?_
                      exact k
                    obtain ⟨T392, L392, X392, N392, e392, pre392⟩ : ∃ T' L', Stand p l e room_1 s m #[(.int p1), (.int p2), (.int p3), (.int p4), (.int p5), (.int p6)] below meth c T' L' 5 22 ∧ Fr n0 L' ∧ T'.heap = h380 ∧ ∀ t, Steps p.tables e below (T'.setTop (mkF m 425 #[.val (.int p1), .val (.int p2), .val (.int p3), .val (.int p4), .val (.int p5), .val (.int p6), .val (.long (2147483647 : Int64)), .second, .val (.long (-2147483648 : Int64)), .second, .val (.long z0), .second, .val (.long z1), .second, .val (.long z2), .second, .val (.long z3), .second, .val (.long z4), .second, .val (.long z5), .second, .val (.int (mg0_80a p1 p2 p3 p4 p5 p6 z1 z2 z3 z4 z5)), .val (.int ((p1 &&& (2147483647 : Int32)) % (7 : Int32))), .val (.int (6 : Int32)), .val (.ref b360), .val (.ref b380), .val (.int (6 : Int32)), .val (.int ((((p1.toUInt32 >>> ((8 : Int32) &&& 31).toUInt32).toInt32) &&& (255 : Int32)) % (6 : Int32))), .val (.long (mg0_418a p1 p2 p3 p4 p5 p6 z0 z1 z2 z3 z4 z5)), .second, .val (.int ((((p6.toUInt32 >>> ((3 : Int32) &&& 31).toUInt32).toInt32) &&& (255 : Int32)) % (6 : Int32))), .val (.long (f9 ((((p6.toUInt32 >>> ((3 : Int32) &&& 31).toUInt32).toInt32) &&& (255 : Int32)) % (6 : Int32)) z0 z1 z2 z3 z4 z5)), .second] [])) t → Steps p.tables e below (s₁.setTop (entryFrame m #[(.int p1), (.int p2), (.int p3), (.int p4), (.int p5), (.int p6)] maxLocals)) t := by
                      by_cases hc390 : (((f9 ((((p6.toUInt32 >>> ((3 : Int32) &&& 31).toUInt32).toInt32) &&& (255 : Int32)) % (6 : Int32)) z0 z1 z2 z3 z4 z5) + (((p6 &&& (3 : Int32)) % (3 : Int32)).toInt64)) - (1 : Int64)) < (-2147483648 : Int64)
                      · rw [show mg0_418a p1 p2 p3 p4 p5 p6 z0 z1 z2 z3 z4 z5 = (f9 ((((p6.toUInt32 >>> ((3 : Int32) &&& 31).toUInt32).toInt32) &&& (255 : Int32)) % (6 : Int32)) z0 z1 z2 z3 z4 z5) from if_pos hc390]
                        refine ⟨T387, _, X387, N387, e387, fun t k => ?_⟩
                        refine pre391 _ ?_
                        refine y_ifNo X387 hx hby at_418 ((if0 _ _).trans (tlt ((lw_lt (((f9 ((((p6.toUInt32 >>> ((3 : Int32) &&& 31).toUInt32).toInt32) &&& (255 : Int32)) % (6 : Int32)) z0 z1 z2 z3 z4 z5) + (((p6 &&& (3 : Int32)) % (3 : Int32)).toInt64)) - (1 : Int64)) (-2147483648 : Int64)).mpr hc390)).2.1) ?_
                        refine y_lload X387 hx hby at_421 rfl ?_
                        refine y_lstore X387 hx hby at_423 (l' := (lo0_29 p1 p2 p3 p4 p5 p6 z0 z1 z2 z3 z4 z5 b360 b380)) rfl ?_
                        exact k
                      · rw [show mg0_418a p1 p2 p3 p4 p5 p6 z0 z1 z2 z3 z4 z5 = (((f9 ((((p6.toUInt32 >>> ((3 : Int32) &&& 31).toUInt32).toInt32) &&& (255 : Int32)) % (6 : Int32)) z0 z1 z2 z3 z4 z5) + (((p6 &&& (3 : Int32)) % (3 : Int32)).toInt64)) - (1 : Int64)) from if_neg hc390]
                        refine ⟨T387, _, X387, N387, e387, fun t k => ?_⟩
                        refine pre391 _ ?_
                        refine y_ifYes X387 hx hby (pc' := 425) at_418 ((if0 _ _).trans (flt (fun q => hc390 ((lw_lt (((f9 ((((p6.toUInt32 >>> ((3 : Int32) &&& 31).toUInt32).toInt32) &&& (255 : Int32)) % (6 : Int32)) z0 z1 z2 z3 z4 z5) + (((p6 &&& (3 : Int32)) % (3 : Int32)).toInt64)) - (1 : Int64)) (-2147483648 : Int64)).mp q))).2.1) (by decide) (by decide) ?_
                        exact k
                    refine ⟨T392, _, X392, N392, e392, fun t k => ?_⟩
                    refine pre392 _ ?_
                    exact k
                have hp := own_rg0 p1 p2 p3 p4 p5 p6 z0 z1 z2 z3 z4 z5 o1 o2 o3 o4 o5 lo hi
                have pre394 : GO p e below (T393.setTop (mkF m 513 (lo0_30 p1 p2 p3 p4 p5 p6 z0 z1 z2 z3 z4 z5 b360 b380) [(.int (ex0 (6 : Int32) (mg0_410a p1 p2 p3 p4 p5 p6 z0 z1 z2 z3 z4 z5) z0 z1 z2 z3 z4 z5))])) (s₁.setTop (entryFrame m #[(.int p1), (.int p2), (.int p3), (.int p4), (.int p5), (.int p6)] maxLocals)) := fun t k => pre393 _ (own_ex0 X393 hx hby rfl rfl rfl rfl rfl rfl rfl rfl k)
                obtain ⟨cq395, kq395, q395a, q395b, q395c⟩ := isOf hZ e393 E_b380
                obtain ⟨_, _, ⟨T395, L395, k395, n395⟩, -, X395, ⟨Lc395, hQ395, l395, y395, z395⟩, st395⟩ := X393.virtualBack hx (y := mn12) (z := mn12) hown (mvT hZ (ww hw 59 rfl)) (mvT hZ (ww hw 60 rfl)) (notFace_of_selects (args := #[]) (mvT hZ (ww hw 62 rfl))) (mvT hZ (ww hw 62 rfl)) (mvT hZ (ww hw 61 rfl)) (by decide) (backOf (W := 0) (rm10_6 l Z a0 hw [] b380 ((mg0_410a p1 p2 p3 p4 p5 p6 z0 z1 z2 z3 z4 z5).toInt32) B380 k380 (z0.toInt32) (z1.toInt32) (z2.toInt32) (z3.toInt32) (z4.toInt32) (z5.toInt32) h380 n0 Z0 E_b380 F_numbers_b380 V_B380) hZ (ww hw 63 rfl) (ww hw 27 rfl) (by decide) (by decide)) q395a q395c (g := (mkF m 520 (lo0_31 p1 p2 p3 p4 p5 p6 z0 z1 z2 z3 z4 z5 b360 b380) [(.int ((mg0_410a p1 p2 p3 p4 p5 p6 z0 z1 z2 z3 z4 z5).toInt32)), (.ref b380)])) rfl (by rw [hml]; rfl) (Steps.refl _) (argsL := [(.int ((mg0_410a p1 p2 p3 p4 p5 p6 z0 z1 z2 z3 z4 z5).toInt32))]) (rest := []) (lenOf pd_11 rfl) rfl (by show 2 * 0 + _ ≤ _; exact Nat.le_of_eq rfl) (hb hby at_520) (fun _ _ => ⟨rfl, e393, (by decide : 5 + 0 ≤ _), (by decide : 22 + 0 ≤ _)⟩)
                dsimp only [Pt.U, Pt.locs, Pt.cells, Pt.slots] at X395 l395 y395 z395 st395 hQ395
                subst l395 y395 z395
                obtain ⟨rfl, N395q, e395⟩ := hQ395
                have N395 := Fr.app N393 N395q
                obtain ⟨fs, hr, hrun, hended, hW, hsame⟩ := X395.leave (v := some (.int (1 : Int32))) (fun h => by rw [Bd.returns] at h; cases h)
                refine ⟨_, _, pre394 _ ?_, hrun, hended, _, _, rfl, ?_, ⟨_, rfl⟩, hW, hsame.mono (by decide) (by decide)⟩
                · refine y_istore X393 hx hby at_513 (l' := (lo0_31 p1 p2 p3 p4 p5 p6 z0 z1 z2 z3 z4 z5 b360 b380)) rfl ?_
                  refine y_aload X393 hx hby at_515 rfl rfl ?_
                  refine y_lload X393 hx hby at_517 rfl ?_
                  refine y_l2i X393 hx hby at_519 ?_
                  refine st395.trans ?_
                  show Steps p.tables e below (T395.setTop (mkF m 523 (lo0_31 p1 p2 p3 p4 p5 p6 z0 z1 z2 z3 z4 z5 b360 b380) [(.int (ct_6 ((mg0_410a p1 p2 p3 p4 p5 p6 z0 z1 z2 z3 z4 z5).toInt32) (z0.toInt32) (z1.toInt32) (z2.toInt32) (z3.toInt32) (z4.toInt32) (z5.toInt32)))])) _
                  refine y_iload X395 hx hby at_523 rfl ?_
                  refine y_icmpNo X395 hx hby at_525 (teq (own_fin6 _ z0 z1 z2 z3 z4 z5 o1 o2 o3 o4 o5 lo hi hp)).2 ?_
                  refine y_iconst X395 hx hby (v := (1 : Int32)) at_528 rfl ?_
                  refine y_goto X395 hx hby (pc' := 533) at_529 (by decide) (by decide) ?_
                  exact retN X395 hx (t := .boolean) Bd.returns (by simp) (hb hby at_533) hr
                · exact ⟨rfl, N395⟩
              · have pre396 : GO p e below (T384.setTop (mkF m 425 (lo0_32 p1 p2 p3 p4 p5 p6 z0 z1 z2 z3 z4 z5 b360 b380) [])) (s₁.setTop (entryFrame m #[(.int p1), (.int p2), (.int p3), (.int p4), (.int p5), (.int p6)] maxLocals)) := fun t k => by
                  refine pre386 _ ?_
                  refine y_ifNo X384 hx hby at_348 ((if0 _ _).trans (feq hc385).1) ?_
                  refine y_iload X384 hx hby at_351 rfl ?_
                  refine y_i2l X384 hx hby at_353 ?_
                  refine y_lstore X384 hx hby at_354 (l' := (lo0_32 p1 p2 p3 p4 p5 p6 z0 z1 z2 z3 z4 z5 b360 b380)) rfl ?_
                  refine y_goto X384 hx hby (pc' := 425) at_356 (by decide) (by decide) ?_
                  exact k
                have hp : -2147483648 ≤ ((p6.toInt64)).toInt ∧ ((p6.toInt64)).toInt ≤ 2147483647 := by rw [c_i2l]; have := rng32 p6; omega
                have pre397 : GO p e below (T384.setTop (mkF m 513 (lo0_32 p1 p2 p3 p4 p5 p6 z0 z1 z2 z3 z4 z5 b360 b380) [(.int (ex0 (6 : Int32) (p6.toInt64) z0 z1 z2 z3 z4 z5))])) (s₁.setTop (entryFrame m #[(.int p1), (.int p2), (.int p3), (.int p4), (.int p5), (.int p6)] maxLocals)) := fun t k => pre396 _ (own_ex0 X384 hx hby rfl rfl rfl rfl rfl rfl rfl rfl k)
                obtain ⟨cq398, kq398, q398a, q398b, q398c⟩ := isOf hZ e384 E_b380
                obtain ⟨_, _, ⟨T398, L398, k398, n398⟩, -, X398, ⟨Lc398, hQ398, l398, y398, z398⟩, st398⟩ := X384.virtualBack hx (y := mn12) (z := mn12) hown (mvT hZ (ww hw 59 rfl)) (mvT hZ (ww hw 60 rfl)) (notFace_of_selects (args := #[]) (mvT hZ (ww hw 62 rfl))) (mvT hZ (ww hw 62 rfl)) (mvT hZ (ww hw 61 rfl)) (by decide) (backOf (W := 0) (rm10_6 l Z a0 hw [] b380 ((p6.toInt64).toInt32) B380 k380 (z0.toInt32) (z1.toInt32) (z2.toInt32) (z3.toInt32) (z4.toInt32) (z5.toInt32) h380 n0 Z0 E_b380 F_numbers_b380 V_B380) hZ (ww hw 63 rfl) (ww hw 27 rfl) (by decide) (by decide)) q398a q398c (g := (mkF m 520 (lo0_33 p1 p2 p3 p4 p5 p6 z0 z1 z2 z3 z4 z5 b360 b380) [(.int ((p6.toInt64).toInt32)), (.ref b380)])) rfl (by rw [hml]; rfl) (Steps.refl _) (argsL := [(.int ((p6.toInt64).toInt32))]) (rest := []) (lenOf pd_11 rfl) rfl (by show 2 * 0 + _ ≤ _; exact Nat.le_of_eq rfl) (hb hby at_520) (fun _ _ => ⟨rfl, e384, (by decide : 5 + 0 ≤ _), (by decide : 22 + 0 ≤ _)⟩)
                dsimp only [Pt.U, Pt.locs, Pt.cells, Pt.slots] at X398 l398 y398 z398 st398 hQ398
                subst l398 y398 z398
                obtain ⟨rfl, N398q, e398⟩ := hQ398
                have N398 := Fr.app N384 N398q
                obtain ⟨fs, hr, hrun, hended, hW, hsame⟩ := X398.leave (v := some (.int (1 : Int32))) (fun h => by rw [Bd.returns] at h; cases h)
                refine ⟨_, _, pre397 _ ?_, hrun, hended, _, _, rfl, ?_, ⟨_, rfl⟩, hW, hsame.mono (by decide) (by decide)⟩
                · refine y_istore X384 hx hby at_513 (l' := (lo0_33 p1 p2 p3 p4 p5 p6 z0 z1 z2 z3 z4 z5 b360 b380)) rfl ?_
                  refine y_aload X384 hx hby at_515 rfl rfl ?_
                  refine y_lload X384 hx hby at_517 rfl ?_
                  refine y_l2i X384 hx hby at_519 ?_
                  refine st398.trans ?_
                  show Steps p.tables e below (T398.setTop (mkF m 523 (lo0_33 p1 p2 p3 p4 p5 p6 z0 z1 z2 z3 z4 z5 b360 b380) [(.int (ct_6 ((p6.toInt64).toInt32) (z0.toInt32) (z1.toInt32) (z2.toInt32) (z3.toInt32) (z4.toInt32) (z5.toInt32)))])) _
                  refine y_iload X398 hx hby at_523 rfl ?_
                  refine y_icmpNo X398 hx hby at_525 (teq (own_fin6 _ z0 z1 z2 z3 z4 z5 o1 o2 o3 o4 o5 lo hi hp)).2 ?_
                  refine y_iconst X398 hx hby (v := (1 : Int32)) at_528 rfl ?_
                  refine y_goto X398 hx hby (pc' := 533) at_529 (by decide) (by decide) ?_
                  exact retN X398 hx (t := .boolean) Bd.returns (by simp) (hb hby at_533) hr
                · exact ⟨rfl, N398⟩
            · obtain ⟨rfl, hi⟩ := own_fix5 hcnt hc374 hc377
              obtain ⟨cq399, kq399, q399a, q399b, q399c⟩ := isOf hZ e376 E_b360
              obtain ⟨_, _, ⟨T399, L399, k399, n399⟩, -, X399, ⟨Lc399, hQ399, l399, y399, z399⟩, st399⟩ := X376.virtualBack hx (y := mn7) (z := mn7) hown (mvT hZ (ww hw 20 rfl)) (mvT hZ (ww hw 21 rfl)) (notFace_of_selects (args := #[]) (mvT hZ (ww hw 23 rfl))) (mvT hZ (ww hw 23 rfl)) (mvT hZ (ww hw 22 rfl)) (by decide) (backOf (W := 0) (rm4_5 l Z a0 hw [] b360 b376 k376 (z0.toInt32) (z1.toInt32) (z2.toInt32) (z3.toInt32) (z4.toInt32) h376 n0 Z0 E_b360 F_numbers_b360 F_size_b360 E_b376 V_b376 ne_b360_b376) hZ (ww hw 24 rfl) (ww hw 10 rfl) (by decide) (by decide)) q399a q399c (g := (mkF m 267 (lo0_34 p1 p2 p3 p4 p5 p6 z0 z1 z2 z3 z4 z5 b360) [(.ref b360)])) rfl (by rw [hml]; rfl) (Steps.refl _) (argsL := []) (rest := []) (lenOf pd_8 rfl) rfl (by show 2 * 0 + _ ≤ _; exact Nat.le_of_eq rfl) (hb hby at_267) (fun _ _ => ⟨rfl, e376, (by decide : 3 + 2 ≤ _), (by decide : 14 + 7 ≤ _)⟩)
              dsimp only [Pt.U, Pt.locs, Pt.cells, Pt.slots] at X399 l399 y399 z399 st399 hQ399
              subst l399 y399 z399
              obtain ⟨h399, e399⟩ : ∃ z, T399.heap = z := ⟨_, rfl⟩
              rw [e399] at hQ399
              obtain ⟨b399, B399, k399, rfl, N399q, K399, s399, t399, En399, Fn399, Vn399⟩ := hQ399
              have g_b399 : n0 ≤ b399 := Nat.le_trans Z0 s399
              have ne_b360_b399 : b360 ≠ b399 := Nat.ne_of_lt (Nat.lt_of_lt_of_le E_b360.lt s399)
              have ne_A361_b399 : A361 ≠ b399 := Nat.ne_of_lt (Nat.lt_of_lt_of_le V_A361.lt s399)
              have ne_b376_b399 : b376 ≠ b399 := Nat.ne_of_lt (Nat.lt_of_lt_of_le E_b376.lt s399)
              replace E_b360 := E_b360.keep K399
              replace F_numbers_b360 := F_numbers_b360.keep K399 nin0
              replace F_size_b360 := F_size_b360.keep K399 nin0
              replace V_A361 := V_A361.keep K399 nin0
              replace E_A361 := E_A361.keep K399
              replace E_b376 := E_b376.keep K399
              replace V_b376 := V_b376.keep K399 nin0
              replace Z0 := Nat.le_trans Z0 K399.1
              have E_b399 : Exa Z h399 b399 "com/example/hard_delay_bounds/harddelaybounds/analysis/FlowSet" := En399
              have F_numbers_b399 : Fld Z h399 b399 "com/example/hard_delay_bounds/harddelaybounds/analysis/FlowSet" "numbers" "[I" (.ref B399) := Fn399
              have V_B399 : Arv Z h399 B399 k399 .int (5 : Int32) [(.int (z0.toInt32)), (.int (z1.toInt32)), (.int (z2.toInt32)), (.int (z3.toInt32)), (.int (z4.toInt32))] (.int (0 : Int32)) := Vn399
              have N399 := Fr.app N376 N399q
              obtain ⟨cq400, kq400, q400a, q400b, q400c⟩ := isOf hZ e399 E_b399
              obtain ⟨_, _, ⟨T400, L400, k400, n400⟩, -, X400, ⟨Lc400, hQ400, l400, y400, z400⟩, st400⟩ := X399.virtualBack hx (y := mn8) (z := mn8) hown (mvT hZ (ww hw 47 rfl)) (mvT hZ (ww hw 48 rfl)) (notFace_of_selects (args := #[]) (mvT hZ (ww hw 50 rfl))) (mvT hZ (ww hw 50 rfl)) (mvT hZ (ww hw 49 rfl)) (by decide) (backOf (W := 0) (rm7_5 l Z a0 hw [] b399 B399 k399 (z0.toInt32) (z1.toInt32) (z2.toInt32) (z3.toInt32) (z4.toInt32) h399 n0 Z0 F_numbers_b399 V_B399) hZ (ww hw 51 rfl) (ww hw 27 rfl) (by decide) (by decide)) q400a q400c (g := (mkF m 274 (lo0_35 p1 p2 p3 p4 p5 p6 z0 z1 z2 z3 z4 z5 b360 b399) [(.ref b399)])) rfl (by rw [hml]; rfl) (Steps.refl _) (argsL := []) (rest := []) (lenOf pd_9 rfl) rfl (by show 2 * 0 + _ ≤ _; exact Nat.le_of_eq rfl) (hb hby at_274) (fun _ _ => ⟨rfl, e399, (by decide : 5 + 0 ≤ _), (by decide : 21 + 0 ≤ _)⟩)
              dsimp only [Pt.U, Pt.locs, Pt.cells, Pt.slots] at X400 l400 y400 z400 st400 hQ400
              subst l400 y400 z400
              obtain ⟨rfl, N400q, e400⟩ := hQ400
              have N400 := Fr.app N399 N400q
              obtain ⟨_, _, ⟨T401, L401, k401, n401⟩, -, X401, ⟨Lc401, hQ401, l401, y401, z401⟩, st401⟩ := Jvm.LawKit.callS X400 hx (y := mn2) hown (mvT hZ (ww hw 52 rfl)) (mvT hZ (ww hw 53 rfl)) (mvT hZ (ww hw 6 rfl)) (mvT hZ (ww hw 54 rfl)) (by decide) (backOf (W := 0) (rm8 l Z a0 hw [] (5 : Int32) (1 : Int32) h399 n0 Z0) hZ (ww hw 54 rfl) (ww hw 6 rfl) (by decide) (by decide)) (g := (mkF m 287 (lo0_35 p1 p2 p3 p4 p5 p6 z0 z1 z2 z3 z4 z5 b360 b399) [(.int (1 : Int32)), (.int (5 : Int32))])) rfl (by rw [hml]; rfl) (argsL := [(.int (5 : Int32)), (.int (1 : Int32))]) (rest := []) (lenOf pd_0 rfl) rfl (by show 2 * 0 + _ ≤ _; exact Nat.le_of_eq rfl) (hb hby at_287) (fun _ _ => ⟨rfl, e400, (by decide : 5 + 0 ≤ _), (by decide : 21 + 0 ≤ _)⟩)
              dsimp only [Pt.U, Pt.locs, Pt.cells, Pt.slots] at X401 l401 y401 z401 st401 hQ401
              subst l401 y401 z401
              obtain ⟨rfl, N401q, e401⟩ := hQ401
              rw [show f8 (5 : Int32) (1 : Int32) = (5 : Int32) from by decide] at st401
              have N401 := Fr.app N400 N401q
              obtain ⟨_, _, ⟨T402, L402, k402, n402⟩, -, X402, ⟨Lc402, hQ402, l402, y402, z402⟩, st402⟩ := Jvm.LawKit.callS X401 hx (y := mn1) hown (mvT hZ (ww hw 55 rfl)) (mvT hZ (ww hw 56 rfl)) (mvT hZ (ww hw 57 rfl)) (mvT hZ (ww hw 58 rfl)) (by decide) (backOf (W := 0) (rm9 l Z a0 hw [] ((((p1.toUInt32 >>> ((8 : Int32) &&& 31).toUInt32).toInt32) &&& (255 : Int32)) % (5 : Int32)) z0 z1 z2 z3 z4 z5 h399 n0 Z0) hZ (ww hw 58 rfl) (ww hw 57 rfl) (by decide) (by decide)) (g := (mkF m 324 (lo0_37 p1 p2 p3 p4 p5 p6 z0 z1 z2 z3 z4 z5 b360 b399) [(.long z5), (.long z4), (.long z3), (.long z2), (.long z1), (.long z0), (.int ((((p1.toUInt32 >>> ((8 : Int32) &&& 31).toUInt32).toInt32) &&& (255 : Int32)) % (5 : Int32)))])) rfl (by rw [hml]; rfl) (argsL := [(.int ((((p1.toUInt32 >>> ((8 : Int32) &&& 31).toUInt32).toInt32) &&& (255 : Int32)) % (5 : Int32))), (.long z0), (.long z1), (.long z2), (.long z3), (.long z4), (.long z5)]) (rest := []) (lenOf pd_10 rfl) rfl (by show 2 * 0 + _ ≤ _; exact Nat.le_of_eq rfl) (hb hby at_324) (fun _ _ => ⟨rfl, e401, (by decide : 5 + 0 ≤ _), (by decide : 21 + 0 ≤ _)⟩)
              dsimp only [Pt.U, Pt.locs, Pt.cells, Pt.slots] at X402 l402 y402 z402 st402 hQ402
              subst l402 y402 z402
              obtain ⟨rfl, N402q, e402⟩ := hQ402
              have N402 := Fr.app N401 N402q
              have ng := own_nuget_5 (p2 := ((((p1.toUInt32 >>> ((8 : Int32) &&& 31).toUInt32).toInt32) &&& (255 : Int32)) % (5 : Int32))) (x0 := (z0.toInt32)) (x1 := (z1.toInt32)) (x2 := (z2.toInt32)) (x3 := (z3.toInt32)) (x4 := (z4.toInt32)) (own_rem5 _ (own_and _))
              obtain ⟨cq403, kq403, q403a, q403b, q403c⟩ := isOf hZ e402 E_b399
              obtain ⟨_, _, ⟨T403, L403, k403, n403⟩, -, X403, ⟨Lc403, hQ403, l403, y403, z403⟩, st403⟩ := X402.virtualBack hx (y := mn13) (z := mn13) hown (mvT hZ (ww hw 90 rfl)) (mvT hZ (ww hw 91 rfl)) (notFace_of_selects (args := #[]) (mvT hZ (ww hw 93 rfl))) (mvT hZ (ww hw 93 rfl)) (mvT hZ (ww hw 92 rfl)) (by decide) (backOf (W := 0) (rm15_any l Z a0 hw [] b399 ((((p1.toUInt32 >>> ((8 : Int32) &&& 31).toUInt32).toInt32) &&& (255 : Int32)) % (5 : Int32)) B399 k399 _ _ _ h399 n0 Z0 ng.1 ng.2.1 ng.2.2 F_numbers_b399 V_B399) hZ (ww hw 94 rfl) (ww hw 27 rfl) (by decide) (by decide)) q403a q403c (g := (mkF m 333 (lo0_38 p1 p2 p3 p4 p5 p6 z0 z1 z2 z3 z4 z5 b360 b399) [(.int ((((p1.toUInt32 >>> ((8 : Int32) &&& 31).toUInt32).toInt32) &&& (255 : Int32)) % (5 : Int32))), (.ref b399)])) rfl (by rw [hml]; rfl) (Steps.refl _) (argsL := [(.int ((((p1.toUInt32 >>> ((8 : Int32) &&& 31).toUInt32).toInt32) &&& (255 : Int32)) % (5 : Int32)))]) (rest := []) (lenOf pd_5 rfl) rfl (by show 2 * 0 + _ ≤ _; exact Nat.le_of_eq rfl) (hb hby at_333) (fun _ _ => ⟨rfl, e402, (by decide : 5 + 0 ≤ _), (by decide : 21 + 0 ≤ _)⟩)
              dsimp only [Pt.U, Pt.locs, Pt.cells, Pt.slots] at X403 l403 y403 z403 st403 hQ403
              subst l403 y403 z403
              obtain ⟨rfl, N403q, e403⟩ := hQ403
              have N403 := Fr.app N402 N403q
              have pre405 : GO p e below (T403.setTop (mkF m 348 (lo0_38 p1 p2 p3 p4 p5 p6 z0 z1 z2 z3 z4 z5 b360 b399) [(.int (p6 &&& (4 : Int32)))])) (s₁.setTop (entryFrame m #[(.int p1), (.int p2), (.int p3), (.int p4), (.int p5), (.int p6)] maxLocals)) := fun t k => by
                refine pre378 _ ?_
                refine y_icmpYes X376 hx hby (pc' := 265) at_253 (flt hc377).2.2.2 (by decide) (by decide) ?_
                refine y_aload X376 hx hby at_265 rfl rfl ?_
                refine st399.trans ?_
                show Steps p.tables e below (T399.setTop (mkF m 270 (lo0_34 p1 p2 p3 p4 p5 p6 z0 z1 z2 z3 z4 z5 b360) [(.ref b399)])) _
                refine y_astore X399 hx hby at_270 rfl (l' := (lo0_35 p1 p2 p3 p4 p5 p6 z0 z1 z2 z3 z4 z5 b360 b399)) rfl ?_
                refine y_aload X399 hx hby at_272 rfl rfl ?_
                refine st400.trans ?_
                show Steps p.tables e below (T400.setTop (mkF m 277 (lo0_35 p1 p2 p3 p4 p5 p6 z0 z1 z2 z3 z4 z5 b360 b399) [(.int (5 : Int32))])) _
                refine y_iload X400 hx hby at_277 rfl ?_
                refine y_icmpYes X400 hx hby (pc' := 284) at_279 (teq rfl).1 (by decide) (by decide) ?_
                refine y_iload X400 hx hby at_284 rfl ?_
                refine y_iconst X400 hx hby (v := (1 : Int32)) at_286 rfl ?_
                refine st401 _ ?_
                show Steps p.tables e below (T401.setTop (mkF m 290 (lo0_35 p1 p2 p3 p4 p5 p6 z0 z1 z2 z3 z4 z5 b360 b399) [(.int (5 : Int32))])) _
                refine y_istore X401 hx hby at_290 (l' := (lo0_36 p1 p2 p3 p4 p5 p6 z0 z1 z2 z3 z4 z5 b360 b399)) rfl ?_
                refine y_iloadN X401 hx hby at_292 rfl ?_
                refine y_bipush X401 hx hby (v := (8 : Int32)) at_293 rfl ?_
                refine y_iushr X401 hx hby at_295 ?_
                refine y_sipush X401 hx hby (v := (255 : Int32)) at_296 rfl ?_
                refine y_iand X401 hx hby at_299 ?_
                refine y_iload X401 hx hby at_300 rfl ?_
                refine Jvm.RoadKit.iremM X401 hx rfl (hb hby at_302) rfl (by decide) ?_
                show Steps p.tables e below (T401.setTop (mkF m 303 (lo0_36 p1 p2 p3 p4 p5 p6 z0 z1 z2 z3 z4 z5 b360 b399) [(.int ((((p1.toUInt32 >>> ((8 : Int32) &&& 31).toUInt32).toInt32) &&& (255 : Int32)) % (5 : Int32)))])) _
                refine y_istore X401 hx hby at_303 (l' := (lo0_37 p1 p2 p3 p4 p5 p6 z0 z1 z2 z3 z4 z5 b360 b399)) rfl ?_
                refine y_iload X401 hx hby at_305 rfl ?_
                refine y_ifNo X401 hx hby at_307 ((if0 _ _).trans (tlt (by decide)).2.2.2) ?_
                refine y_iload X401 hx hby at_310 rfl ?_
                refine y_lload X401 hx hby at_312 rfl ?_
                refine y_lload X401 hx hby at_314 rfl ?_
                refine y_lload X401 hx hby at_316 rfl ?_
                refine y_lload X401 hx hby at_318 rfl ?_
                refine y_lload X401 hx hby at_320 rfl ?_
                refine y_lload X401 hx hby at_322 rfl ?_
                refine st402 _ ?_
                show Steps p.tables e below (T402.setTop (mkF m 327 (lo0_37 p1 p2 p3 p4 p5 p6 z0 z1 z2 z3 z4 z5 b360 b399) [(.long (f9 ((((p1.toUInt32 >>> ((8 : Int32) &&& 31).toUInt32).toInt32) &&& (255 : Int32)) % (5 : Int32)) z0 z1 z2 z3 z4 z5))])) _
                refine y_lstore X402 hx hby at_327 (l' := (lo0_38 p1 p2 p3 p4 p5 p6 z0 z1 z2 z3 z4 z5 b360 b399)) rfl ?_
                refine y_aload X402 hx hby at_329 rfl rfl ?_
                refine y_iload X402 hx hby at_331 rfl ?_
                refine st403.trans ?_
                show Steps p.tables e below (T403.setTop (mkF m 336 (lo0_38 p1 p2 p3 p4 p5 p6 z0 z1 z2 z3 z4 z5 b360 b399) [(.int (nu_5 ((((p1.toUInt32 >>> ((8 : Int32) &&& 31).toUInt32).toInt32) &&& (255 : Int32)) % (5 : Int32)) (z0.toInt32) (z1.toInt32) (z2.toInt32) (z3.toInt32) (z4.toInt32)))])) _
                refine y_lload X403 hx hby at_336 rfl ?_
                refine y_l2i X403 hx hby at_338 ?_
                refine y_icmpYes X403 hx hby (pc' := 344) at_339 (teq (own_nup5 _ z0 z1 z2 z3 z4 z5 (own_rem5 _ (own_and _)))).1 (by decide) (by decide) ?_
                refine y_iload X403 hx hby at_344 rfl ?_
                refine y_iconst X403 hx hby (v := (4 : Int32)) at_346 rfl ?_
                refine y_iand X403 hx hby at_347 ?_
                exact k
              by_cases hc404 : (p6 &&& (4 : Int32)) = (0 : Int32)
              · obtain ⟨_, _, ⟨T406, L406, k406, n406⟩, -, X406, ⟨Lc406, hQ406, l406, y406, z406⟩, st406⟩ := Jvm.LawKit.callS X403 hx (y := mn1) hown (mvT hZ (ww hw 55 rfl)) (mvT hZ (ww hw 56 rfl)) (mvT hZ (ww hw 57 rfl)) (mvT hZ (ww hw 58 rfl)) (by decide) (backOf (W := 0) (rm9 l Z a0 hw [] ((((p6.toUInt32 >>> ((3 : Int32) &&& 31).toUInt32).toInt32) &&& (255 : Int32)) % (5 : Int32)) z0 z1 z2 z3 z4 z5 h399 n0 Z0) hZ (ww hw 58 rfl) (ww hw 57 rfl) (by decide) (by decide)) (g := (mkF m 386 (lo0_39 p1 p2 p3 p4 p5 p6 z0 z1 z2 z3 z4 z5 b360 b399) [(.long z5), (.long z4), (.long z3), (.long z2), (.long z1), (.long z0), (.int ((((p6.toUInt32 >>> ((3 : Int32) &&& 31).toUInt32).toInt32) &&& (255 : Int32)) % (5 : Int32)))])) rfl (by rw [hml]; rfl) (argsL := [(.int ((((p6.toUInt32 >>> ((3 : Int32) &&& 31).toUInt32).toInt32) &&& (255 : Int32)) % (5 : Int32))), (.long z0), (.long z1), (.long z2), (.long z3), (.long z4), (.long z5)]) (rest := []) (lenOf pd_10 rfl) rfl (by show 2 * 0 + _ ≤ _; exact Nat.le_of_eq rfl) (hb hby at_386) (fun _ _ => ⟨rfl, e403, (by decide : 5 + 0 ≤ _), (by decide : 21 + 0 ≤ _)⟩)
                dsimp only [Pt.U, Pt.locs, Pt.cells, Pt.slots] at X406 l406 y406 z406 st406 hQ406
                subst l406 y406 z406
                obtain ⟨rfl, N406q, e406⟩ := hQ406
                have N406 := Fr.app N403 N406q
                have pre408 : GO p e below (T406.setTop (mkF m 410 (lo0_41 p1 p2 p3 p4 p5 p6 z0 z1 z2 z3 z4 z5 b360 b399) [(.int (lcmpW (((f9 ((((p6.toUInt32 >>> ((3 : Int32) &&& 31).toUInt32).toInt32) &&& (255 : Int32)) % (5 : Int32)) z0 z1 z2 z3 z4 z5) + (((p6 &&& (3 : Int32)) % (3 : Int32)).toInt64)) - (1 : Int64)) (2147483647 : Int64)))])) (s₁.setTop (entryFrame m #[(.int p1), (.int p2), (.int p3), (.int p4), (.int p5), (.int p6)] maxLocals)) := fun t k => by
                  refine pre405 _ ?_
                  refine y_ifYes X403 hx hby (pc' := 359) at_348 ((if0 _ _).trans (teq hc404).1) (by decide) (by decide) ?_
                  refine y_iload X403 hx hby at_359 rfl ?_
                  refine y_iconst X403 hx hby (v := (3 : Int32)) at_361 rfl ?_
                  refine y_iushr X403 hx hby at_362 ?_
                  refine y_sipush X403 hx hby (v := (255 : Int32)) at_363 rfl ?_
                  refine y_iand X403 hx hby at_366 ?_
                  refine y_iload X403 hx hby at_367 rfl ?_
                  refine Jvm.RoadKit.iremM X403 hx rfl (hb hby at_369) rfl (by decide) ?_
                  show Steps p.tables e below (T403.setTop (mkF m 370 (lo0_38 p1 p2 p3 p4 p5 p6 z0 z1 z2 z3 z4 z5 b360 b399) [(.int ((((p6.toUInt32 >>> ((3 : Int32) &&& 31).toUInt32).toInt32) &&& (255 : Int32)) % (5 : Int32)))])) _
                  refine y_istore X403 hx hby at_370 (l' := (lo0_39 p1 p2 p3 p4 p5 p6 z0 z1 z2 z3 z4 z5 b360 b399)) rfl ?_
                  refine y_iload X403 hx hby at_372 rfl ?_
                  refine y_lload X403 hx hby at_374 rfl ?_
                  refine y_lload X403 hx hby at_376 rfl ?_
                  refine y_lload X403 hx hby at_378 rfl ?_
                  refine y_lload X403 hx hby at_380 rfl ?_
                  refine y_lload X403 hx hby at_382 rfl ?_
                  refine y_lload X403 hx hby at_384 rfl ?_
                  refine st406 _ ?_
                  show Steps p.tables e below (T406.setTop (mkF m 389 (lo0_39 p1 p2 p3 p4 p5 p6 z0 z1 z2 z3 z4 z5 b360 b399) [(.long (f9 ((((p6.toUInt32 >>> ((3 : Int32) &&& 31).toUInt32).toInt32) &&& (255 : Int32)) % (5 : Int32)) z0 z1 z2 z3 z4 z5))])) _
                  refine y_lstore X406 hx hby at_389 (l' := (lo0_40 p1 p2 p3 p4 p5 p6 z0 z1 z2 z3 z4 z5 b360 b399)) rfl ?_
                  refine y_lload X406 hx hby at_391 rfl ?_
                  refine y_iload X406 hx hby at_393 rfl ?_
                  refine y_iconst X406 hx hby (v := (3 : Int32)) at_395 rfl ?_
                  refine y_iand X406 hx hby at_396 ?_
                  refine y_iconst X406 hx hby (v := (3 : Int32)) at_397 rfl ?_
                  refine Jvm.RoadKit.iremM X406 hx rfl (hb hby at_398) rfl (by decide) ?_
                  show Steps p.tables e below (T406.setTop (mkF m 399 (lo0_40 p1 p2 p3 p4 p5 p6 z0 z1 z2 z3 z4 z5 b360 b399) [(.int ((p6 &&& (3 : Int32)) % (3 : Int32))), (.long (f9 ((((p6.toUInt32 >>> ((3 : Int32) &&& 31).toUInt32).toInt32) &&& (255 : Int32)) % (5 : Int32)) z0 z1 z2 z3 z4 z5))])) _
                  refine y_i2l X406 hx hby at_399 ?_
                  refine y_ladd X406 hx hby at_400 ?_
                  refine y_lconst X406 hx hby (v := (1 : Int64)) at_401 rfl ?_
                  refine y_lsub X406 hx hby at_402 ?_
                  refine y_lstore X406 hx hby at_403 (l' := (lo0_41 p1 p2 p3 p4 p5 p6 z0 z1 z2 z3 z4 z5 b360 b399)) rfl ?_
                  refine y_lload X406 hx hby at_405 rfl ?_
                  refine y_lload X406 hx hby at_407 rfl ?_
                  refine y_lcmp X406 hx hby at_409 ?_
                  exact k
                obtain ⟨T412, L412, X412, N412, e412, pre412⟩ : ∃ T' L', Stand p l e room_1 s m #[(.int p1), (.int p2), (.int p3), (.int p4), (.int p5), (.int p6)] below meth c T' L' 5 21 ∧ Fr n0 L' ∧ T'.heap = h399 ∧ ∀ t, Steps p.tables e below (T'.setTop (mkF m 425 #[.val (.int p1), .val (.int p2), .val (.int p3), .val (.int p4), .val (.int p5), .val (.int p6), .val (.long (2147483647 : Int64)), .second, .val (.long (-2147483648 : Int64)), .second, .val (.long z0), .second, .val (.long z1), .second, .val (.long z2), .second, .val (.long z3), .second, .val (.long z4), .second, .val (.long z5), .second, .val (.int (mg0_80a p1 p2 p3 p4 p5 p6 z1 z2 z3 z4 z5)), .val (.int ((p1 &&& (2147483647 : Int32)) % (7 : Int32))), .val (.int (5 : Int32)), .val (.ref b360), .val (.ref b399), .val (.int (5 : Int32)), .val (.int ((((p1.toUInt32 >>> ((8 : Int32) &&& 31).toUInt32).toInt32) &&& (255 : Int32)) % (5 : Int32))), .val (.long (mg0_410b p1 p2 p3 p4 p5 p6 z0 z1 z2 z3 z4 z5)), .second, .val (.int ((((p6.toUInt32 >>> ((3 : Int32) &&& 31).toUInt32).toInt32) &&& (255 : Int32)) % (5 : Int32))), .val (.long (f9 ((((p6.toUInt32 >>> ((3 : Int32) &&& 31).toUInt32).toInt32) &&& (255 : Int32)) % (5 : Int32)) z0 z1 z2 z3 z4 z5)), .second] [])) t → Steps p.tables e below (s₁.setTop (entryFrame m #[(.int p1), (.int p2), (.int p3), (.int p4), (.int p5), (.int p6)] maxLocals)) t := by
                  by_cases hc407 : (2147483647 : Int64) < (((f9 ((((p6.toUInt32 >>> ((3 : Int32) &&& 31).toUInt32).toInt32) &&& (255 : Int32)) % (5 : Int32)) z0 z1 z2 z3 z4 z5) + (((p6 &&& (3 : Int32)) % (3 : Int32)).toInt64)) - (1 : Int64))
                  · rw [show mg0_410b p1 p2 p3 p4 p5 p6 z0 z1 z2 z3 z4 z5 = (f9 ((((p6.toUInt32 >>> ((3 : Int32) &&& 31).toUInt32).toInt32) &&& (255 : Int32)) % (5 : Int32)) z0 z1 z2 z3 z4 z5) from if_pos hc407]
                    refine ⟨T406, _, X406, N406, e406, fun t k => ?_⟩
                    refine pre408 _ ?_
                    refine y_ifYes X406 hx hby (pc' := 421) at_410 ((if0 _ _).trans (tlt ((lw_gt (((f9 ((((p6.toUInt32 >>> ((3 : Int32) &&& 31).toUInt32).toInt32) &&& (255 : Int32)) % (5 : Int32)) z0 z1 z2 z3 z4 z5) + (((p6 &&& (3 : Int32)) % (3 : Int32)).toInt64)) - (1 : Int64)) (2147483647 : Int64)).mpr hc407)).2.2.1) (by decide) (by decide) ?_
                    refine y_lload X406 hx hby at_421 rfl ?_
                    refine y_lstore X406 hx hby at_423 (l' := (lo0_42 p1 p2 p3 p4 p5 p6 z0 z1 z2 z3 z4 z5 b360 b399)) rfl ?_
                    exact k
                  · rw [show mg0_410b p1 p2 p3 p4 p5 p6 z0 z1 z2 z3 z4 z5 = (mg0_418b p1 p2 p3 p4 p5 p6 z0 z1 z2 z3 z4 z5) from if_neg hc407]
                    have pre410 : GO p e below (T406.setTop (mkF m 418 (lo0_41 p1 p2 p3 p4 p5 p6 z0 z1 z2 z3 z4 z5 b360 b399) [(.int (lcmpW (((f9 ((((p6.toUInt32 >>> ((3 : Int32) &&& 31).toUInt32).toInt32) &&& (255 : Int32)) % (5 : Int32)) z0 z1 z2 z3 z4 z5) + (((p6 &&& (3 : Int32)) % (3 : Int32)).toInt64)) - (1 : Int64)) (-2147483648 : Int64)))])) (s₁.setTop (entryFrame m #[(.int p1), (.int p2), (.int p3), (.int p4), (.int p5), (.int p6)] maxLocals)) := fun t k => by
                      refine pre408 _ ?_
                      refine y_ifNo X406 hx hby at_410 ((if0 _ _).trans (flt (fun q => hc407 ((lw_gt (((f9 ((((p6.toUInt32 >>> ((3 : Int32) &&& 31).toUInt32).toInt32) &&& (255 : Int32)) % (5 : Int32)) z0 z1 z2 z3 z4 z5) + (((p6 &&& (3 : Int32)) % (3 : Int32)).toInt64)) - (1 : Int64)) (2147483647 : Int64)).mp q))).2.2.1) ?_
                      refine y_lload X406 hx hby at_413 rfl ?_
                      refine y_lload X406 hx hby at_415 rfl ?_
                      refine y_lcmp X406 hx hby at_417 ?_
                      exact k
                    obtain ⟨T411, L411, X411, N411, e411, pre411⟩ : ∃ T' L', Stand p l e room_1 s m #[(.int p1), (.int p2), (.int p3), (.int p4), (.int p5), (.int p6)] below meth c T' L' 5 21 ∧ Fr n0 L' ∧ T'.heap = h399 ∧ ∀ t, Steps p.tables e below (T'.setTop (mkF m 425 #[.val (.int p1), .val (.int p2), .val (.int p3), .val (.int p4), .val (.int p5), .val (.int p6), .val (.long (2147483647 : Int64)), .second, .val (.long (-2147483648 : Int64)), .second, .val (.long z0), .second, .val (.long z1), .second, .val (.long z2), .second, .val (.long z3), .second, .val (.long z4), .second, .val (.long z5), .second, .val (.int (mg0_80a p1 p2 p3 p4 p5 p6 z1 z2 z3 z4 z5)), .val (.int ((p1 &&& (2147483647 : Int32)) % (7 : Int32))), .val (.int (5 : Int32)), .val (.ref b360), .val (.ref b399), .val (.int (5 : Int32)), .val (.int ((((p1.toUInt32 >>> ((8 : Int32) &&& 31).toUInt32).toInt32) &&& (255 : Int32)) % (5 : Int32))), .val (.long (mg0_418b p1 p2 p3 p4 p5 p6 z0 z1 z2 z3 z4 z5)), .second, .val (.int ((((p6.toUInt32 >>> ((3 : Int32) &&& 31).toUInt32).toInt32) &&& (255 : Int32)) % (5 : Int32))), .val (.long (f9 ((((p6.toUInt32 >>> ((3 : Int32) &&& 31).toUInt32).toInt32) &&& (255 : Int32)) % (5 : Int32)) z0 z1 z2 z3 z4 z5)), .second] [])) t → Steps p.tables e below (s₁.setTop (entryFrame m #[(.int p1), (.int p2), (.int p3), (.int p4), (.int p5), (.int p6)] maxLocals)) t := by
                      by_cases hc409 : (((f9 ((((p6.toUInt32 >>> ((3 : Int32) &&& 31).toUInt32).toInt32) &&& (255 : Int32)) % (5 : Int32)) z0 z1 z2 z3 z4 z5) + (((p6 &&& (3 : Int32)) % (3 : Int32)).toInt64)) - (1 : Int64)) < (-2147483648 : Int64)
                      · rw [show mg0_418b p1 p2 p3 p4 p5 p6 z0 z1 z2 z3 z4 z5 = (f9 ((((p6.toUInt32 >>> ((3 : Int32) &&& 31).toUInt32).toInt32) &&& (255 : Int32)) % (5 : Int32)) z0 z1 z2 z3 z4 z5) from if_pos hc409]
                        refine ⟨T406, _, X406, N406, e406, fun t k => ?_⟩
                        refine pre410 _ ?_
                        refine y_ifNo X406 hx hby at_418 ((if0 _ _).trans (tlt ((lw_lt (((f9 ((((p6.toUInt32 >>> ((3 : Int32) &&& 31).toUInt32).toInt32) &&& (255 : Int32)) % (5 : Int32)) z0 z1 z2 z3 z4 z5) + (((p6 &&& (3 : Int32)) % (3 : Int32)).toInt64)) - (1 : Int64)) (-2147483648 : Int64)).mpr hc409)).2.1) ?_
                        refine y_lload X406 hx hby at_421 rfl ?_
                        refine y_lstore X406 hx hby at_423 (l' := (lo0_42 p1 p2 p3 p4 p5 p6 z0 z1 z2 z3 z4 z5 b360 b399)) rfl ?_
                        exact k
                      · rw [show mg0_418b p1 p2 p3 p4 p5 p6 z0 z1 z2 z3 z4 z5 = (((f9 ((((p6.toUInt32 >>> ((3 : Int32) &&& 31).toUInt32).toInt32) &&& (255 : Int32)) % (5 : Int32)) z0 z1 z2 z3 z4 z5) + (((p6 &&& (3 : Int32)) % (3 : Int32)).toInt64)) - (1 : Int64)) from if_neg hc409]
                        refine ⟨T406, _, X406, N406, e406, fun t k => ?_⟩
                        refine pre410 _ ?_
                        refine y_ifYes X406 hx hby (pc' := 425) at_418 ((if0 _ _).trans (flt (fun q => hc409 ((lw_lt (((f9 ((((p6.toUInt32 >>> ((3 : Int32) &&& 31).toUInt32).toInt32) &&& (255 : Int32)) % (5 : Int32)) z0 z1 z2 z3 z4 z5) + (((p6 &&& (3 : Int32)) % (3 : Int32)).toInt64)) - (1 : Int64)) (-2147483648 : Int64)).mp q))).2.1) (by decide) (by decide) ?_
                        exact k
                    refine ⟨T411, _, X411, N411, e411, fun t k => ?_⟩
                    refine pre411 _ ?_
                    exact k
                have hp := own_rg1 p1 p2 p3 p4 p5 p6 z0 z1 z2 z3 z4 z5 o1 o2 o3 o4 o5 lo hi
                have pre413 : GO p e below (T412.setTop (mkF m 513 (lo0_43 p1 p2 p3 p4 p5 p6 z0 z1 z2 z3 z4 z5 b360 b399) [(.int (ex0 (5 : Int32) (mg0_410b p1 p2 p3 p4 p5 p6 z0 z1 z2 z3 z4 z5) z0 z1 z2 z3 z4 z5))])) (s₁.setTop (entryFrame m #[(.int p1), (.int p2), (.int p3), (.int p4), (.int p5), (.int p6)] maxLocals)) := fun t k => pre412 _ (own_ex0 X412 hx hby rfl rfl rfl rfl rfl rfl rfl rfl k)
                obtain ⟨cq414, kq414, q414a, q414b, q414c⟩ := isOf hZ e412 E_b399
                obtain ⟨_, _, ⟨T414, L414, k414, n414⟩, -, X414, ⟨Lc414, hQ414, l414, y414, z414⟩, st414⟩ := X412.virtualBack hx (y := mn12) (z := mn12) hown (mvT hZ (ww hw 59 rfl)) (mvT hZ (ww hw 60 rfl)) (notFace_of_selects (args := #[]) (mvT hZ (ww hw 62 rfl))) (mvT hZ (ww hw 62 rfl)) (mvT hZ (ww hw 61 rfl)) (by decide) (backOf (W := 0) (rm10_5 l Z a0 hw [] b399 ((mg0_410b p1 p2 p3 p4 p5 p6 z0 z1 z2 z3 z4 z5).toInt32) B399 k399 (z0.toInt32) (z1.toInt32) (z2.toInt32) (z3.toInt32) (z4.toInt32) h399 n0 Z0 E_b399 F_numbers_b399 V_B399) hZ (ww hw 63 rfl) (ww hw 27 rfl) (by decide) (by decide)) q414a q414c (g := (mkF m 520 (lo0_44 p1 p2 p3 p4 p5 p6 z0 z1 z2 z3 z4 z5 b360 b399) [(.int ((mg0_410b p1 p2 p3 p4 p5 p6 z0 z1 z2 z3 z4 z5).toInt32)), (.ref b399)])) rfl (by rw [hml]; rfl) (Steps.refl _) (argsL := [(.int ((mg0_410b p1 p2 p3 p4 p5 p6 z0 z1 z2 z3 z4 z5).toInt32))]) (rest := []) (lenOf pd_11 rfl) rfl (by show 2 * 0 + _ ≤ _; exact Nat.le_of_eq rfl) (hb hby at_520) (fun _ _ => ⟨rfl, e412, (by decide : 5 + 0 ≤ _), (by decide : 21 + 0 ≤ _)⟩)
                dsimp only [Pt.U, Pt.locs, Pt.cells, Pt.slots] at X414 l414 y414 z414 st414 hQ414
                subst l414 y414 z414
                obtain ⟨rfl, N414q, e414⟩ := hQ414
                have N414 := Fr.app N412 N414q
                obtain ⟨fs, hr, hrun, hended, hW, hsame⟩ := X414.leave (v := some (.int (1 : Int32))) (fun h => by rw [Bd.returns] at h; cases h)
                refine ⟨_, _, pre413 _ ?_, hrun, hended, _, _, rfl, ?_, ⟨_, rfl⟩, hW, hsame.mono (by decide) (by decide)⟩
                · refine y_istore X412 hx hby at_513 (l' := (lo0_44 p1 p2 p3 p4 p5 p6 z0 z1 z2 z3 z4 z5 b360 b399)) rfl ?_
                  refine y_aload X412 hx hby at_515 rfl rfl ?_
                  refine y_lload X412 hx hby at_517 rfl ?_
                  refine y_l2i X412 hx hby at_519 ?_
                  refine st414.trans ?_
                  show Steps p.tables e below (T414.setTop (mkF m 523 (lo0_44 p1 p2 p3 p4 p5 p6 z0 z1 z2 z3 z4 z5 b360 b399) [(.int (ct_5 ((mg0_410b p1 p2 p3 p4 p5 p6 z0 z1 z2 z3 z4 z5).toInt32) (z0.toInt32) (z1.toInt32) (z2.toInt32) (z3.toInt32) (z4.toInt32)))])) _
                  refine y_iload X414 hx hby at_523 rfl ?_
                  refine y_icmpNo X414 hx hby at_525 (teq (own_fin5 _ z0 z1 z2 z3 z4 z5 o1 o2 o3 o4 o5 lo hi hp)).2 ?_
                  refine y_iconst X414 hx hby (v := (1 : Int32)) at_528 rfl ?_
                  refine y_goto X414 hx hby (pc' := 533) at_529 (by decide) (by decide) ?_
                  exact retN X414 hx (t := .boolean) Bd.returns (by simp) (hb hby at_533) hr
                · exact ⟨rfl, N414⟩
              · have pre415 : GO p e below (T403.setTop (mkF m 425 (lo0_45 p1 p2 p3 p4 p5 p6 z0 z1 z2 z3 z4 z5 b360 b399) [])) (s₁.setTop (entryFrame m #[(.int p1), (.int p2), (.int p3), (.int p4), (.int p5), (.int p6)] maxLocals)) := fun t k => by
                  refine pre405 _ ?_
                  refine y_ifNo X403 hx hby at_348 ((if0 _ _).trans (feq hc404).1) ?_
                  refine y_iload X403 hx hby at_351 rfl ?_
                  refine y_i2l X403 hx hby at_353 ?_
                  refine y_lstore X403 hx hby at_354 (l' := (lo0_45 p1 p2 p3 p4 p5 p6 z0 z1 z2 z3 z4 z5 b360 b399)) rfl ?_
                  refine y_goto X403 hx hby (pc' := 425) at_356 (by decide) (by decide) ?_
                  exact k
                have hp : -2147483648 ≤ ((p6.toInt64)).toInt ∧ ((p6.toInt64)).toInt ≤ 2147483647 := by rw [c_i2l]; have := rng32 p6; omega
                have pre416 : GO p e below (T403.setTop (mkF m 513 (lo0_45 p1 p2 p3 p4 p5 p6 z0 z1 z2 z3 z4 z5 b360 b399) [(.int (ex0 (5 : Int32) (p6.toInt64) z0 z1 z2 z3 z4 z5))])) (s₁.setTop (entryFrame m #[(.int p1), (.int p2), (.int p3), (.int p4), (.int p5), (.int p6)] maxLocals)) := fun t k => pre415 _ (own_ex0 X403 hx hby rfl rfl rfl rfl rfl rfl rfl rfl k)
                obtain ⟨cq417, kq417, q417a, q417b, q417c⟩ := isOf hZ e403 E_b399
                obtain ⟨_, _, ⟨T417, L417, k417, n417⟩, -, X417, ⟨Lc417, hQ417, l417, y417, z417⟩, st417⟩ := X403.virtualBack hx (y := mn12) (z := mn12) hown (mvT hZ (ww hw 59 rfl)) (mvT hZ (ww hw 60 rfl)) (notFace_of_selects (args := #[]) (mvT hZ (ww hw 62 rfl))) (mvT hZ (ww hw 62 rfl)) (mvT hZ (ww hw 61 rfl)) (by decide) (backOf (W := 0) (rm10_5 l Z a0 hw [] b399 ((p6.toInt64).toInt32) B399 k399 (z0.toInt32) (z1.toInt32) (z2.toInt32) (z3.toInt32) (z4.toInt32) h399 n0 Z0 E_b399 F_numbers_b399 V_B399) hZ (ww hw 63 rfl) (ww hw 27 rfl) (by decide) (by decide)) q417a q417c (g := (mkF m 520 (lo0_46 p1 p2 p3 p4 p5 p6 z0 z1 z2 z3 z4 z5 b360 b399) [(.int ((p6.toInt64).toInt32)), (.ref b399)])) rfl (by rw [hml]; rfl) (Steps.refl _) (argsL := [(.int ((p6.toInt64).toInt32))]) (rest := []) (lenOf pd_11 rfl) rfl (by show 2 * 0 + _ ≤ _; exact Nat.le_of_eq rfl) (hb hby at_520) (fun _ _ => ⟨rfl, e403, (by decide : 5 + 0 ≤ _), (by decide : 21 + 0 ≤ _)⟩)
                dsimp only [Pt.U, Pt.locs, Pt.cells, Pt.slots] at X417 l417 y417 z417 st417 hQ417
                subst l417 y417 z417
                obtain ⟨rfl, N417q, e417⟩ := hQ417
                have N417 := Fr.app N403 N417q
                obtain ⟨fs, hr, hrun, hended, hW, hsame⟩ := X417.leave (v := some (.int (1 : Int32))) (fun h => by rw [Bd.returns] at h; cases h)
                refine ⟨_, _, pre416 _ ?_, hrun, hended, _, _, rfl, ?_, ⟨_, rfl⟩, hW, hsame.mono (by decide) (by decide)⟩
                · refine y_istore X403 hx hby at_513 (l' := (lo0_46 p1 p2 p3 p4 p5 p6 z0 z1 z2 z3 z4 z5 b360 b399)) rfl ?_
                  refine y_aload X403 hx hby at_515 rfl rfl ?_
                  refine y_lload X403 hx hby at_517 rfl ?_
                  refine y_l2i X403 hx hby at_519 ?_
                  refine st417.trans ?_
                  show Steps p.tables e below (T417.setTop (mkF m 523 (lo0_46 p1 p2 p3 p4 p5 p6 z0 z1 z2 z3 z4 z5 b360 b399) [(.int (ct_5 ((p6.toInt64).toInt32) (z0.toInt32) (z1.toInt32) (z2.toInt32) (z3.toInt32) (z4.toInt32)))])) _
                  refine y_iload X417 hx hby at_523 rfl ?_
                  refine y_icmpNo X417 hx hby at_525 (teq (own_fin5 _ z0 z1 z2 z3 z4 z5 o1 o2 o3 o4 o5 lo hi hp)).2 ?_
                  refine y_iconst X417 hx hby (v := (1 : Int32)) at_528 rfl ?_
                  refine y_goto X417 hx hby (pc' := 533) at_529 (by decide) (by decide) ?_
                  exact retN X417 hx (t := .boolean) Bd.returns (by simp) (hb hby at_533) hr
                · exact ⟨rfl, N417⟩
          · obtain ⟨rfl, hi⟩ := own_fix4 hcnt hc371 hc374
            obtain ⟨cq418, kq418, q418a, q418b, q418c⟩ := isOf hZ e373 E_b360
            obtain ⟨_, _, ⟨T418, L418, k418, n418⟩, -, X418, ⟨Lc418, hQ418, l418, y418, z418⟩, st418⟩ := X373.virtualBack hx (y := mn7) (z := mn7) hown (mvT hZ (ww hw 20 rfl)) (mvT hZ (ww hw 21 rfl)) (notFace_of_selects (args := #[]) (mvT hZ (ww hw 23 rfl))) (mvT hZ (ww hw 23 rfl)) (mvT hZ (ww hw 22 rfl)) (by decide) (backOf (W := 0) (rm4_4 l Z a0 hw [] b360 A361 k361 (z0.toInt32) (z1.toInt32) (z2.toInt32) (z3.toInt32) h373 n0 Z0 E_b360 F_numbers_b360 F_size_b360 E_A361 V_A361 ne_b360_A361) hZ (ww hw 24 rfl) (ww hw 10 rfl) (by decide) (by decide)) q418a q418c (g := (mkF m 267 (lo0_47 p1 p2 p3 p4 p5 p6 z0 z1 z2 z3 z4 z5 b360) [(.ref b360)])) rfl (by rw [hml]; rfl) (Steps.refl _) (argsL := []) (rest := []) (lenOf pd_8 rfl) rfl (by show 2 * 0 + _ ≤ _; exact Nat.le_of_eq rfl) (hb hby at_267) (fun _ _ => ⟨rfl, e373, (by decide : 2 + 2 ≤ _), (by decide : 6 + 6 ≤ _)⟩)
            dsimp only [Pt.U, Pt.locs, Pt.cells, Pt.slots] at X418 l418 y418 z418 st418 hQ418
            subst l418 y418 z418
            obtain ⟨h418, e418⟩ : ∃ z, T418.heap = z := ⟨_, rfl⟩
            rw [e418] at hQ418
            obtain ⟨b418, B418, k418, rfl, N418q, K418, s418, t418, En418, Fn418, Vn418⟩ := hQ418
            have g_b418 : n0 ≤ b418 := Nat.le_trans Z0 s418
            have ne_b360_b418 : b360 ≠ b418 := Nat.ne_of_lt (Nat.lt_of_lt_of_le E_b360.lt s418)
            have ne_A361_b418 : A361 ≠ b418 := Nat.ne_of_lt (Nat.lt_of_lt_of_le V_A361.lt s418)
            replace E_b360 := E_b360.keep K418
            replace F_numbers_b360 := F_numbers_b360.keep K418 nin0
            replace F_size_b360 := F_size_b360.keep K418 nin0
            replace V_A361 := V_A361.keep K418 nin0
            replace E_A361 := E_A361.keep K418
            replace Z0 := Nat.le_trans Z0 K418.1
            have E_b418 : Exa Z h418 b418 "com/example/hard_delay_bounds/harddelaybounds/analysis/FlowSet" := En418
            have F_numbers_b418 : Fld Z h418 b418 "com/example/hard_delay_bounds/harddelaybounds/analysis/FlowSet" "numbers" "[I" (.ref B418) := Fn418
            have V_B418 : Arv Z h418 B418 k418 .int (4 : Int32) [(.int (z0.toInt32)), (.int (z1.toInt32)), (.int (z2.toInt32)), (.int (z3.toInt32))] (.int (0 : Int32)) := Vn418
            have N418 := Fr.app N373 N418q
            obtain ⟨cq419, kq419, q419a, q419b, q419c⟩ := isOf hZ e418 E_b418
            obtain ⟨_, _, ⟨T419, L419, k419, n419⟩, -, X419, ⟨Lc419, hQ419, l419, y419, z419⟩, st419⟩ := X418.virtualBack hx (y := mn8) (z := mn8) hown (mvT hZ (ww hw 47 rfl)) (mvT hZ (ww hw 48 rfl)) (notFace_of_selects (args := #[]) (mvT hZ (ww hw 50 rfl))) (mvT hZ (ww hw 50 rfl)) (mvT hZ (ww hw 49 rfl)) (by decide) (backOf (W := 0) (rm7_4 l Z a0 hw [] b418 B418 k418 (z0.toInt32) (z1.toInt32) (z2.toInt32) (z3.toInt32) h418 n0 Z0 F_numbers_b418 V_B418) hZ (ww hw 51 rfl) (ww hw 27 rfl) (by decide) (by decide)) q419a q419c (g := (mkF m 274 (lo0_48 p1 p2 p3 p4 p5 p6 z0 z1 z2 z3 z4 z5 b360 b418) [(.ref b418)])) rfl (by rw [hml]; rfl) (Steps.refl _) (argsL := []) (rest := []) (lenOf pd_9 rfl) rfl (by show 2 * 0 + _ ≤ _; exact Nat.le_of_eq rfl) (hb hby at_274) (fun _ _ => ⟨rfl, e418, (by decide : 4 + 0 ≤ _), (by decide : 12 + 0 ≤ _)⟩)
            dsimp only [Pt.U, Pt.locs, Pt.cells, Pt.slots] at X419 l419 y419 z419 st419 hQ419
            subst l419 y419 z419
            obtain ⟨rfl, N419q, e419⟩ := hQ419
            have N419 := Fr.app N418 N419q
            obtain ⟨_, _, ⟨T420, L420, k420, n420⟩, -, X420, ⟨Lc420, hQ420, l420, y420, z420⟩, st420⟩ := Jvm.LawKit.callS X419 hx (y := mn2) hown (mvT hZ (ww hw 52 rfl)) (mvT hZ (ww hw 53 rfl)) (mvT hZ (ww hw 6 rfl)) (mvT hZ (ww hw 54 rfl)) (by decide) (backOf (W := 0) (rm8 l Z a0 hw [] (4 : Int32) (1 : Int32) h418 n0 Z0) hZ (ww hw 54 rfl) (ww hw 6 rfl) (by decide) (by decide)) (g := (mkF m 287 (lo0_48 p1 p2 p3 p4 p5 p6 z0 z1 z2 z3 z4 z5 b360 b418) [(.int (1 : Int32)), (.int (4 : Int32))])) rfl (by rw [hml]; rfl) (argsL := [(.int (4 : Int32)), (.int (1 : Int32))]) (rest := []) (lenOf pd_0 rfl) rfl (by show 2 * 0 + _ ≤ _; exact Nat.le_of_eq rfl) (hb hby at_287) (fun _ _ => ⟨rfl, e419, (by decide : 4 + 0 ≤ _), (by decide : 12 + 0 ≤ _)⟩)
            dsimp only [Pt.U, Pt.locs, Pt.cells, Pt.slots] at X420 l420 y420 z420 st420 hQ420
            subst l420 y420 z420
            obtain ⟨rfl, N420q, e420⟩ := hQ420
            rw [show f8 (4 : Int32) (1 : Int32) = (4 : Int32) from by decide] at st420
            have N420 := Fr.app N419 N420q
            obtain ⟨_, _, ⟨T421, L421, k421, n421⟩, -, X421, ⟨Lc421, hQ421, l421, y421, z421⟩, st421⟩ := Jvm.LawKit.callS X420 hx (y := mn1) hown (mvT hZ (ww hw 55 rfl)) (mvT hZ (ww hw 56 rfl)) (mvT hZ (ww hw 57 rfl)) (mvT hZ (ww hw 58 rfl)) (by decide) (backOf (W := 0) (rm9 l Z a0 hw [] ((((p1.toUInt32 >>> ((8 : Int32) &&& 31).toUInt32).toInt32) &&& (255 : Int32)) % (4 : Int32)) z0 z1 z2 z3 z4 z5 h418 n0 Z0) hZ (ww hw 58 rfl) (ww hw 57 rfl) (by decide) (by decide)) (g := (mkF m 324 (lo0_50 p1 p2 p3 p4 p5 p6 z0 z1 z2 z3 z4 z5 b360 b418) [(.long z5), (.long z4), (.long z3), (.long z2), (.long z1), (.long z0), (.int ((((p1.toUInt32 >>> ((8 : Int32) &&& 31).toUInt32).toInt32) &&& (255 : Int32)) % (4 : Int32)))])) rfl (by rw [hml]; rfl) (argsL := [(.int ((((p1.toUInt32 >>> ((8 : Int32) &&& 31).toUInt32).toInt32) &&& (255 : Int32)) % (4 : Int32))), (.long z0), (.long z1), (.long z2), (.long z3), (.long z4), (.long z5)]) (rest := []) (lenOf pd_10 rfl) rfl (by show 2 * 0 + _ ≤ _; exact Nat.le_of_eq rfl) (hb hby at_324) (fun _ _ => ⟨rfl, e420, (by decide : 4 + 0 ≤ _), (by decide : 12 + 0 ≤ _)⟩)
            dsimp only [Pt.U, Pt.locs, Pt.cells, Pt.slots] at X421 l421 y421 z421 st421 hQ421
            subst l421 y421 z421
            obtain ⟨rfl, N421q, e421⟩ := hQ421
            have N421 := Fr.app N420 N421q
            have ng := own_nuget_4 (p2 := ((((p1.toUInt32 >>> ((8 : Int32) &&& 31).toUInt32).toInt32) &&& (255 : Int32)) % (4 : Int32))) (x0 := (z0.toInt32)) (x1 := (z1.toInt32)) (x2 := (z2.toInt32)) (x3 := (z3.toInt32)) (own_rem4 _ (own_and _))
            obtain ⟨cq422, kq422, q422a, q422b, q422c⟩ := isOf hZ e421 E_b418
            obtain ⟨_, _, ⟨T422, L422, k422, n422⟩, -, X422, ⟨Lc422, hQ422, l422, y422, z422⟩, st422⟩ := X421.virtualBack hx (y := mn13) (z := mn13) hown (mvT hZ (ww hw 90 rfl)) (mvT hZ (ww hw 91 rfl)) (notFace_of_selects (args := #[]) (mvT hZ (ww hw 93 rfl))) (mvT hZ (ww hw 93 rfl)) (mvT hZ (ww hw 92 rfl)) (by decide) (backOf (W := 0) (rm15_any l Z a0 hw [] b418 ((((p1.toUInt32 >>> ((8 : Int32) &&& 31).toUInt32).toInt32) &&& (255 : Int32)) % (4 : Int32)) B418 k418 _ _ _ h418 n0 Z0 ng.1 ng.2.1 ng.2.2 F_numbers_b418 V_B418) hZ (ww hw 94 rfl) (ww hw 27 rfl) (by decide) (by decide)) q422a q422c (g := (mkF m 333 (lo0_51 p1 p2 p3 p4 p5 p6 z0 z1 z2 z3 z4 z5 b360 b418) [(.int ((((p1.toUInt32 >>> ((8 : Int32) &&& 31).toUInt32).toInt32) &&& (255 : Int32)) % (4 : Int32))), (.ref b418)])) rfl (by rw [hml]; rfl) (Steps.refl _) (argsL := [(.int ((((p1.toUInt32 >>> ((8 : Int32) &&& 31).toUInt32).toInt32) &&& (255 : Int32)) % (4 : Int32)))]) (rest := []) (lenOf pd_5 rfl) rfl (by show 2 * 0 + _ ≤ _; exact Nat.le_of_eq rfl) (hb hby at_333) (fun _ _ => ⟨rfl, e421, (by decide : 4 + 0 ≤ _), (by decide : 12 + 0 ≤ _)⟩)
            dsimp only [Pt.U, Pt.locs, Pt.cells, Pt.slots] at X422 l422 y422 z422 st422 hQ422
            subst l422 y422 z422
            obtain ⟨rfl, N422q, e422⟩ := hQ422
            have N422 := Fr.app N421 N422q
            have pre424 : GO p e below (T422.setTop (mkF m 348 (lo0_51 p1 p2 p3 p4 p5 p6 z0 z1 z2 z3 z4 z5 b360 b418) [(.int (p6 &&& (4 : Int32)))])) (s₁.setTop (entryFrame m #[(.int p1), (.int p2), (.int p3), (.int p4), (.int p5), (.int p6)] maxLocals)) := fun t k => by
              refine pre375 _ ?_
              refine y_icmpYes X373 hx hby (pc' := 250) at_238 (flt hc374).2.2.2 (by decide) (by decide) ?_
              refine y_iload X373 hx hby at_250 rfl ?_
              refine y_iconst X373 hx hby (v := (5 : Int32)) at_252 rfl ?_
              refine y_icmpYes X373 hx hby (pc' := 265) at_253 (flt (by decide)).2.2.2 (by decide) (by decide) ?_
              refine y_aload X373 hx hby at_265 rfl rfl ?_
              refine st418.trans ?_
              show Steps p.tables e below (T418.setTop (mkF m 270 (lo0_47 p1 p2 p3 p4 p5 p6 z0 z1 z2 z3 z4 z5 b360) [(.ref b418)])) _
              refine y_astore X418 hx hby at_270 rfl (l' := (lo0_48 p1 p2 p3 p4 p5 p6 z0 z1 z2 z3 z4 z5 b360 b418)) rfl ?_
              refine y_aload X418 hx hby at_272 rfl rfl ?_
              refine st419.trans ?_
              show Steps p.tables e below (T419.setTop (mkF m 277 (lo0_48 p1 p2 p3 p4 p5 p6 z0 z1 z2 z3 z4 z5 b360 b418) [(.int (4 : Int32))])) _
              refine y_iload X419 hx hby at_277 rfl ?_
              refine y_icmpYes X419 hx hby (pc' := 284) at_279 (teq rfl).1 (by decide) (by decide) ?_
              refine y_iload X419 hx hby at_284 rfl ?_
              refine y_iconst X419 hx hby (v := (1 : Int32)) at_286 rfl ?_
              refine st420 _ ?_
              show Steps p.tables e below (T420.setTop (mkF m 290 (lo0_48 p1 p2 p3 p4 p5 p6 z0 z1 z2 z3 z4 z5 b360 b418) [(.int (4 : Int32))])) _
              refine y_istore X420 hx hby at_290 (l' := (lo0_49 p1 p2 p3 p4 p5 p6 z0 z1 z2 z3 z4 z5 b360 b418)) rfl ?_
              refine y_iloadN X420 hx hby at_292 rfl ?_
              refine y_bipush X420 hx hby (v := (8 : Int32)) at_293 rfl ?_
              refine y_iushr X420 hx hby at_295 ?_
              refine y_sipush X420 hx hby (v := (255 : Int32)) at_296 rfl ?_
              refine y_iand X420 hx hby at_299 ?_
              refine y_iload X420 hx hby at_300 rfl ?_
              refine Jvm.RoadKit.iremM X420 hx rfl (hb hby at_302) rfl (by decide) ?_
              show Steps p.tables e below (T420.setTop (mkF m 303 (lo0_49 p1 p2 p3 p4 p5 p6 z0 z1 z2 z3 z4 z5 b360 b418) [(.int ((((p1.toUInt32 >>> ((8 : Int32) &&& 31).toUInt32).toInt32) &&& (255 : Int32)) % (4 : Int32)))])) _
              refine y_istore X420 hx hby at_303 (l' := (lo0_50 p1 p2 p3 p4 p5 p6 z0 z1 z2 z3 z4 z5 b360 b418)) rfl ?_
              refine y_iload X420 hx hby at_305 rfl ?_
              refine y_ifNo X420 hx hby at_307 ((if0 _ _).trans (tlt (by decide)).2.2.2) ?_
              refine y_iload X420 hx hby at_310 rfl ?_
              refine y_lload X420 hx hby at_312 rfl ?_
              refine y_lload X420 hx hby at_314 rfl ?_
              refine y_lload X420 hx hby at_316 rfl ?_
              refine y_lload X420 hx hby at_318 rfl ?_
              refine y_lload X420 hx hby at_320 rfl ?_
              refine y_lload X420 hx hby at_322 rfl ?_
              refine st421 _ ?_
              show Steps p.tables e below (T421.setTop (mkF m 327 (lo0_50 p1 p2 p3 p4 p5 p6 z0 z1 z2 z3 z4 z5 b360 b418) [(.long (f9 ((((p1.toUInt32 >>> ((8 : Int32) &&& 31).toUInt32).toInt32) &&& (255 : Int32)) % (4 : Int32)) z0 z1 z2 z3 z4 z5))])) _
              refine y_lstore X421 hx hby at_327 (l' := (lo0_51 p1 p2 p3 p4 p5 p6 z0 z1 z2 z3 z4 z5 b360 b418)) rfl ?_
              refine y_aload X421 hx hby at_329 rfl rfl ?_
              refine y_iload X421 hx hby at_331 rfl ?_
              refine st422.trans ?_
              show Steps p.tables e below (T422.setTop (mkF m 336 (lo0_51 p1 p2 p3 p4 p5 p6 z0 z1 z2 z3 z4 z5 b360 b418) [(.int (nu_4 ((((p1.toUInt32 >>> ((8 : Int32) &&& 31).toUInt32).toInt32) &&& (255 : Int32)) % (4 : Int32)) (z0.toInt32) (z1.toInt32) (z2.toInt32) (z3.toInt32)))])) _
              refine y_lload X422 hx hby at_336 rfl ?_
              refine y_l2i X422 hx hby at_338 ?_
              refine y_icmpYes X422 hx hby (pc' := 344) at_339 (teq (own_nup4 _ z0 z1 z2 z3 z4 z5 (own_rem4 _ (own_and _)))).1 (by decide) (by decide) ?_
              refine y_iload X422 hx hby at_344 rfl ?_
              refine y_iconst X422 hx hby (v := (4 : Int32)) at_346 rfl ?_
              refine y_iand X422 hx hby at_347 ?_
              exact k
            by_cases hc423 : (p6 &&& (4 : Int32)) = (0 : Int32)
            · obtain ⟨_, _, ⟨T425, L425, k425, n425⟩, -, X425, ⟨Lc425, hQ425, l425, y425, z425⟩, st425⟩ := Jvm.LawKit.callS X422 hx (y := mn1) hown (mvT hZ (ww hw 55 rfl)) (mvT hZ (ww hw 56 rfl)) (mvT hZ (ww hw 57 rfl)) (mvT hZ (ww hw 58 rfl)) (by decide) (backOf (W := 0) (rm9 l Z a0 hw [] ((((p6.toUInt32 >>> ((3 : Int32) &&& 31).toUInt32).toInt32) &&& (255 : Int32)) % (4 : Int32)) z0 z1 z2 z3 z4 z5 h418 n0 Z0) hZ (ww hw 58 rfl) (ww hw 57 rfl) (by decide) (by decide)) (g := (mkF m 386 (lo0_52 p1 p2 p3 p4 p5 p6 z0 z1 z2 z3 z4 z5 b360 b418) [(.long z5), (.long z4), (.long z3), (.long z2), (.long z1), (.long z0), (.int ((((p6.toUInt32 >>> ((3 : Int32) &&& 31).toUInt32).toInt32) &&& (255 : Int32)) % (4 : Int32)))])) rfl (by rw [hml]; rfl) (argsL := [(.int ((((p6.toUInt32 >>> ((3 : Int32) &&& 31).toUInt32).toInt32) &&& (255 : Int32)) % (4 : Int32))), (.long z0), (.long z1), (.long z2), (.long z3), (.long z4), (.long z5)]) (rest := []) (lenOf pd_10 rfl) rfl (by show 2 * 0 + _ ≤ _; exact Nat.le_of_eq rfl) (hb hby at_386) (fun _ _ => ⟨rfl, e422, (by decide : 4 + 0 ≤ _), (by decide : 12 + 0 ≤ _)⟩)
              dsimp only [Pt.U, Pt.locs, Pt.cells, Pt.slots] at X425 l425 y425 z425 st425 hQ425
              subst l425 y425 z425
              obtain ⟨rfl, N425q, e425⟩ := hQ425
              have N425 := Fr.app N422 N425q
              have pre427 : GO p e below (T425.setTop (mkF m 410 (lo0_54 p1 p2 p3 p4 p5 p6 z0 z1 z2 z3 z4 z5 b360 b418) [(.int (lcmpW (((f9 ((((p6.toUInt32 >>> ((3 : Int32) &&& 31).toUInt32).toInt32) &&& (255 : Int32)) % (4 : Int32)) z0 z1 z2 z3 z4 z5) + (((p6 &&& (3 : Int32)) % (3 : Int32)).toInt64)) - (1 : Int64)) (2147483647 : Int64)))])) (s₁.setTop (entryFrame m #[(.int p1), (.int p2), (.int p3), (.int p4), (.int p5), (.int p6)] maxLocals)) := fun t k => by
                refine pre424 _ ?_
                refine y_ifYes X422 hx hby (pc' := 359) at_348 ((if0 _ _).trans (teq hc423).1) (by decide) (by decide) ?_
                refine y_iload X422 hx hby at_359 rfl ?_
                refine y_iconst X422 hx hby (v := (3 : Int32)) at_361 rfl ?_
                refine y_iushr X422 hx hby at_362 ?_
                refine y_sipush X422 hx hby (v := (255 : Int32)) at_363 rfl ?_
                refine y_iand X422 hx hby at_366 ?_
                refine y_iload X422 hx hby at_367 rfl ?_
                refine Jvm.RoadKit.iremM X422 hx rfl (hb hby at_369) rfl (by decide) ?_
                show Steps p.tables e below (T422.setTop (mkF m 370 (lo0_51 p1 p2 p3 p4 p5 p6 z0 z1 z2 z3 z4 z5 b360 b418) [(.int ((((p6.toUInt32 >>> ((3 : Int32) &&& 31).toUInt32).toInt32) &&& (255 : Int32)) % (4 : Int32)))])) _
                refine y_istore X422 hx hby at_370 (l' := (lo0_52 p1 p2 p3 p4 p5 p6 z0 z1 z2 z3 z4 z5 b360 b418)) rfl ?_
                refine y_iload X422 hx hby at_372 rfl ?_
                refine y_lload X422 hx hby at_374 rfl ?_
                refine y_lload X422 hx hby at_376 rfl ?_
                refine y_lload X422 hx hby at_378 rfl ?_
                refine y_lload X422 hx hby at_380 rfl ?_
                refine y_lload X422 hx hby at_382 rfl ?_
                refine y_lload X422 hx hby at_384 rfl ?_
                refine st425 _ ?_
                show Steps p.tables e below (T425.setTop (mkF m 389 (lo0_52 p1 p2 p3 p4 p5 p6 z0 z1 z2 z3 z4 z5 b360 b418) [(.long (f9 ((((p6.toUInt32 >>> ((3 : Int32) &&& 31).toUInt32).toInt32) &&& (255 : Int32)) % (4 : Int32)) z0 z1 z2 z3 z4 z5))])) _
                refine y_lstore X425 hx hby at_389 (l' := (lo0_53 p1 p2 p3 p4 p5 p6 z0 z1 z2 z3 z4 z5 b360 b418)) rfl ?_
                refine y_lload X425 hx hby at_391 rfl ?_
                refine y_iload X425 hx hby at_393 rfl ?_
                refine y_iconst X425 hx hby (v := (3 : Int32)) at_395 rfl ?_
                refine y_iand X425 hx hby at_396 ?_
                refine y_iconst X425 hx hby (v := (3 : Int32)) at_397 rfl ?_
                refine Jvm.RoadKit.iremM X425 hx rfl (hb hby at_398) rfl (by decide) ?_
                show Steps p.tables e below (T425.setTop (mkF m 399 (lo0_53 p1 p2 p3 p4 p5 p6 z0 z1 z2 z3 z4 z5 b360 b418) [(.int ((p6 &&& (3 : Int32)) % (3 : Int32))), (.long (f9 ((((p6.toUInt32 >>> ((3 : Int32) &&& 31).toUInt32).toInt32) &&& (255 : Int32)) % (4 : Int32)) z0 z1 z2 z3 z4 z5))])) _
                refine y_i2l X425 hx hby at_399 ?_
                refine y_ladd X425 hx hby at_400 ?_
                refine y_lconst X425 hx hby (v := (1 : Int64)) at_401 rfl ?_
                refine y_lsub X425 hx hby at_402 ?_
                refine y_lstore X425 hx hby at_403 (l' := (lo0_54 p1 p2 p3 p4 p5 p6 z0 z1 z2 z3 z4 z5 b360 b418)) rfl ?_
                refine y_lload X425 hx hby at_405 rfl ?_
                refine y_lload X425 hx hby at_407 rfl ?_
                refine y_lcmp X425 hx hby at_409 ?_
                exact k
              obtain ⟨T431, L431, X431, N431, e431, pre431⟩ : ∃ T' L', Stand p l e room_1 s m #[(.int p1), (.int p2), (.int p3), (.int p4), (.int p5), (.int p6)] below meth c T' L' 4 12 ∧ Fr n0 L' ∧ T'.heap = h418 ∧ ∀ t, Steps p.tables e below (T'.setTop (mkF m 425 #[.val (.int p1), .val (.int p2), .val (.int p3), .val (.int p4), .val (.int p5), .val (.int p6), .val (.long (2147483647 : Int64)), .second, .val (.long (-2147483648 : Int64)), .second, .val (.long z0), .second, .val (.long z1), .second, .val (.long z2), .second, .val (.long z3), .second, .val (.long z4), .second, .val (.long z5), .second, .val (.int (mg0_80a p1 p2 p3 p4 p5 p6 z1 z2 z3 z4 z5)), .val (.int ((p1 &&& (2147483647 : Int32)) % (7 : Int32))), .val (.int (4 : Int32)), .val (.ref b360), .val (.ref b418), .val (.int (4 : Int32)), .val (.int ((((p1.toUInt32 >>> ((8 : Int32) &&& 31).toUInt32).toInt32) &&& (255 : Int32)) % (4 : Int32))), .val (.long (mg0_410c p1 p2 p3 p4 p5 p6 z0 z1 z2 z3 z4 z5)), .second, .val (.int ((((p6.toUInt32 >>> ((3 : Int32) &&& 31).toUInt32).toInt32) &&& (255 : Int32)) % (4 : Int32))), .val (.long (f9 ((((p6.toUInt32 >>> ((3 : Int32) &&& 31).toUInt32).toInt32) &&& (255 : Int32)) % (4 : Int32)) z0 z1 z2 z3 z4 z5)), .second] [])) t → Steps p.tables e below (s₁.setTop (entryFrame m #[(.int p1), (.int p2), (.int p3), (.int p4), (.int p5), (.int p6)] maxLocals)) t := by
                by_cases hc426 : (2147483647 : Int64) < (((f9 ((((p6.toUInt32 >>> ((3 : Int32) &&& 31).toUInt32).toInt32) &&& (255 : Int32)) % (4 : Int32)) z0 z1 z2 z3 z4 z5) + (((p6 &&& (3 : Int32)) % (3 : Int32)).toInt64)) - (1 : Int64))
                · rw [show mg0_410c p1 p2 p3 p4 p5 p6 z0 z1 z2 z3 z4 z5 = (f9 ((((p6.toUInt32 >>> ((3 : Int32) &&& 31).toUInt32).toInt32) &&& (255 : Int32)) % (4 : Int32)) z0 z1 z2 z3 z4 z5) from if_pos hc426]
                  refine ⟨T425, _, X425, N425, e425, fun t k => ?_⟩
                  refine pre427 _ ?_
                  refine y_ifYes X425 hx hby (pc' := 421) at_410 ((if0 _ _).trans (tlt ((lw_gt (((f9 ((((p6.toUInt32 >>> ((3 : Int32) &&& 31).toUInt32).toInt32) &&& (255 : Int32)) % (4 : Int32)) z0 z1 z2 z3 z4 z5) + (((p6 &&& (3 : Int32)) % (3 : Int32)).toInt64)) - (1 : Int64)) (2147483647 : Int64)).mpr hc426)).2.2.1) (by decide) (by decide) ?_
                  refine y_lload X425 hx hby at_421 rfl ?_
                  refine y_lstore X425 hx hby at_423 (l' := (lo0_55 p1 p2 p3 p4 p5 p6 z0 z1 z2 z3 z4 z5 b360 b418)) rfl ?_
                  exact k
                · rw [show mg0_410c p1 p2 p3 p4 p5 p6 z0 z1 z2 z3 z4 z5 = (mg0_418c p1 p2 p3 p4 p5 p6 z0 z1 z2 z3 z4 z5) from if_neg hc426]
                  have pre429 : GO p e below (T425.setTop (mkF m 418 (lo0_54 p1 p2 p3 p4 p5 p6 z0 z1 z2 z3 z4 z5 b360 b418) [(.int (lcmpW (((f9 ((((p6.toUInt32 >>> ((3 : Int32) &&& 31).toUInt32).toInt32) &&& (255 : Int32)) % (4 : Int32)) z0 z1 z2 z3 z4 z5) + (((p6 &&& (3 : Int32)) % (3 : Int32)).toInt64)) - (1 : Int64)) (-2147483648 : Int64)))])) (s₁.setTop (entryFrame m #[(.int p1), (.int p2), (.int p3), (.int p4), (.int p5), (.int p6)] maxLocals)) := fun t k => by
                    refine pre427 _ ?_
                    refine y_ifNo X425 hx hby at_410 ((if0 _ _).trans (flt (fun q => hc426 ((lw_gt (((f9 ((((p6.toUInt32 >>> ((3 : Int32) &&& 31).toUInt32).toInt32) &&& (255 : Int32)) % (4 : Int32)) z0 z1 z2 z3 z4 z5) + (((p6 &&& (3 : Int32)) % (3 : Int32)).toInt64)) - (1 : Int64)) (2147483647 : Int64)).mp q))).2.2.1) ?_
                    refine y_lload X425 hx hby at_413 rfl ?_
                    refine y_lload X425 hx hby at_415 rfl ?_
                    refine y_lcmp X425 hx hby at_417 ?_
                    exact k
                  obtain ⟨T430, L430, X430, N430, e430, pre430⟩ : ∃ T' L', Stand p l e room_1 s m #[(.int p1), (.int p2), (.int p3), (.int p4), (.int p5), (.int p6)] below meth c T' L' 4 12 ∧ Fr n0 L' ∧ T'.heap = h418 ∧ ∀ t, Steps p.tables e below (T'.setTop (mkF m 425 #[.val (.int p1), .val (.int p2), .val (.int p3), .val (.int p4), .val (.int p5), .val (.int p6), .val (.long (2147483647 : Int64)), .second, .val (.long (-2147483648 : Int64)), .second, .val (.long z0), .second, .val (.long z1), .second, .val (.long z2), .second, .val (.long z3), .second, .val (.long z4), .second, .val (.long z5), .second, .val (.int (mg0_80a p1 p2 p3 p4 p5 p6 z1 z2 z3 z4 z5)), .val (.int ((p1 &&& (2147483647 : Int32)) % (7 : Int32))), .val (.int (4 : Int32)), .val (.ref b360), .val (.ref b418), .val (.int (4 : Int32)), .val (.int ((((p1.toUInt32 >>> ((8 : Int32) &&& 31).toUInt32).toInt32) &&& (255 : Int32)) % (4 : Int32))), .val (.long (mg0_418c p1 p2 p3 p4 p5 p6 z0 z1 z2 z3 z4 z5)), .second, .val (.int ((((p6.toUInt32 >>> ((3 : Int32) &&& 31).toUInt32).toInt32) &&& (255 : Int32)) % (4 : Int32))), .val (.long (f9 ((((p6.toUInt32 >>> ((3 : Int32) &&& 31).toUInt32).toInt32) &&& (255 : Int32)) % (4 : Int32)) z0 z1 z2 z3 z4 z5)), .second] [])) t → Steps p.tables e below (s₁.setTop (entryFrame m #[(.int p1), (.int p2), (.int p3), (.int p4), (.int p5), (.int p6)] maxLocals)) t := by
                    by_cases hc428 : (((f9 ((((p6.toUInt32 >>> ((3 : Int32) &&& 31).toUInt32).toInt32) &&& (255 : Int32)) % (4 : Int32)) z0 z1 z2 z3 z4 z5) + (((p6 &&& (3 : Int32)) % (3 : Int32)).toInt64)) - (1 : Int64)) < (-2147483648 : Int64)
                    · rw [show mg0_418c p1 p2 p3 p4 p5 p6 z0 z1 z2 z3 z4 z5 = (f9 ((((p6.toUInt32 >>> ((3 : Int32) &&& 31).toUInt32).toInt32) &&& (255 : Int32)) % (4 : Int32)) z0 z1 z2 z3 z4 z5) from if_pos hc428]
                      refine ⟨T425, _, X425, N425, e425, fun t k => ?_⟩
                      refine pre429 _ ?_
                      refine y_ifNo X425 hx hby at_418 ((if0 _ _).trans (tlt ((lw_lt (((f9 ((((p6.toUInt32 >>> ((3 : Int32) &&& 31).toUInt32).toInt32) &&& (255 : Int32)) % (4 : Int32)) z0 z1 z2 z3 z4 z5) + (((p6 &&& (3 : Int32)) % (3 : Int32)).toInt64)) - (1 : Int64)) (-2147483648 : Int64)).mpr hc428)).2.1) ?_
                      refine y_lload X425 hx hby at_421 rfl ?_
                      refine y_lstore X425 hx hby at_423 (l' := (lo0_55 p1 p2 p3 p4 p5 p6 z0 z1 z2 z3 z4 z5 b360 b418)) rfl ?_
                      exact k
                    · rw [show mg0_418c p1 p2 p3 p4 p5 p6 z0 z1 z2 z3 z4 z5 = (((f9 ((((p6.toUInt32 >>> ((3 : Int32) &&& 31).toUInt32).toInt32) &&& (255 : Int32)) % (4 : Int32)) z0 z1 z2 z3 z4 z5) + (((p6 &&& (3 : Int32)) % (3 : Int32)).toInt64)) - (1 : Int64)) from if_neg hc428]
                      refine ⟨T425, _, X425, N425, e425, fun t k => ?_⟩
                      refine pre429 _ ?_
                      refine y_ifYes X425 hx hby (pc' := 425) at_418 ((if0 _ _).trans (flt (fun q => hc428 ((lw_lt (((f9 ((((p6.toUInt32 >>> ((3 : Int32) &&& 31).toUInt32).toInt32) &&& (255 : Int32)) % (4 : Int32)) z0 z1 z2 z3 z4 z5) + (((p6 &&& (3 : Int32)) % (3 : Int32)).toInt64)) - (1 : Int64)) (-2147483648 : Int64)).mp q))).2.1) (by decide) (by decide) ?_
                      exact k
                  refine ⟨T430, _, X430, N430, e430, fun t k => ?_⟩
                  refine pre430 _ ?_
                  exact k
              have hp := own_rg2 p1 p2 p3 p4 p5 p6 z0 z1 z2 z3 z4 z5 o1 o2 o3 o4 o5 lo hi
              have pre432 : GO p e below (T431.setTop (mkF m 513 (lo0_56 p1 p2 p3 p4 p5 p6 z0 z1 z2 z3 z4 z5 b360 b418) [(.int (ex0 (4 : Int32) (mg0_410c p1 p2 p3 p4 p5 p6 z0 z1 z2 z3 z4 z5) z0 z1 z2 z3 z4 z5))])) (s₁.setTop (entryFrame m #[(.int p1), (.int p2), (.int p3), (.int p4), (.int p5), (.int p6)] maxLocals)) := fun t k => pre431 _ (own_ex0 X431 hx hby rfl rfl rfl rfl rfl rfl rfl rfl k)
              obtain ⟨cq433, kq433, q433a, q433b, q433c⟩ := isOf hZ e431 E_b418
              obtain ⟨_, _, ⟨T433, L433, k433, n433⟩, -, X433, ⟨Lc433, hQ433, l433, y433, z433⟩, st433⟩ := X431.virtualBack hx (y := mn12) (z := mn12) hown (mvT hZ (ww hw 59 rfl)) (mvT hZ (ww hw 60 rfl)) (notFace_of_selects (args := #[]) (mvT hZ (ww hw 62 rfl))) (mvT hZ (ww hw 62 rfl)) (mvT hZ (ww hw 61 rfl)) (by decide) (backOf (W := 0) (rm10_4 l Z a0 hw [] b418 ((mg0_410c p1 p2 p3 p4 p5 p6 z0 z1 z2 z3 z4 z5).toInt32) B418 k418 (z0.toInt32) (z1.toInt32) (z2.toInt32) (z3.toInt32) h418 n0 Z0 E_b418 F_numbers_b418 V_B418) hZ (ww hw 63 rfl) (ww hw 27 rfl) (by decide) (by decide)) q433a q433c (g := (mkF m 520 (lo0_57 p1 p2 p3 p4 p5 p6 z0 z1 z2 z3 z4 z5 b360 b418) [(.int ((mg0_410c p1 p2 p3 p4 p5 p6 z0 z1 z2 z3 z4 z5).toInt32)), (.ref b418)])) rfl (by rw [hml]; rfl) (Steps.refl _) (argsL := [(.int ((mg0_410c p1 p2 p3 p4 p5 p6 z0 z1 z2 z3 z4 z5).toInt32))]) (rest := []) (lenOf pd_11 rfl) rfl (by show 2 * 0 + _ ≤ _; exact Nat.le_of_eq rfl) (hb hby at_520) (fun _ _ => ⟨rfl, e431, (by decide : 4 + 0 ≤ _), (by decide : 12 + 0 ≤ _)⟩)
              dsimp only [Pt.U, Pt.locs, Pt.cells, Pt.slots] at X433 l433 y433 z433 st433 hQ433
              subst l433 y433 z433
              obtain ⟨rfl, N433q, e433⟩ := hQ433
              have N433 := Fr.app N431 N433q
              obtain ⟨fs, hr, hrun, hended, hW, hsame⟩ := X433.leave (v := some (.int (1 : Int32))) (fun h => by rw [Bd.returns] at h; cases h)
              refine ⟨_, _, pre432 _ ?_, hrun, hended, _, _, rfl, ?_, ⟨_, rfl⟩, hW, hsame.mono (by decide) (by decide)⟩
              · refine y_istore X431 hx hby at_513 (l' := (lo0_57 p1 p2 p3 p4 p5 p6 z0 z1 z2 z3 z4 z5 b360 b418)) rfl ?_
                refine y_aload X431 hx hby at_515 rfl rfl ?_
                refine y_lload X431 hx hby at_517 rfl ?_
                refine y_l2i X431 hx hby at_519 ?_
                refine st433.trans ?_
                show Steps p.tables e below (T433.setTop (mkF m 523 (lo0_57 p1 p2 p3 p4 p5 p6 z0 z1 z2 z3 z4 z5 b360 b418) [(.int (ct_4 ((mg0_410c p1 p2 p3 p4 p5 p6 z0 z1 z2 z3 z4 z5).toInt32) (z0.toInt32) (z1.toInt32) (z2.toInt32) (z3.toInt32)))])) _
                refine y_iload X433 hx hby at_523 rfl ?_
                refine y_icmpNo X433 hx hby at_525 (teq (own_fin4 _ z0 z1 z2 z3 z4 z5 o1 o2 o3 o4 o5 lo hi hp)).2 ?_
                refine y_iconst X433 hx hby (v := (1 : Int32)) at_528 rfl ?_
                refine y_goto X433 hx hby (pc' := 533) at_529 (by decide) (by decide) ?_
                exact retN X433 hx (t := .boolean) Bd.returns (by simp) (hb hby at_533) hr
              · exact ⟨rfl, N433⟩
            · have pre434 : GO p e below (T422.setTop (mkF m 425 (lo0_58 p1 p2 p3 p4 p5 p6 z0 z1 z2 z3 z4 z5 b360 b418) [])) (s₁.setTop (entryFrame m #[(.int p1), (.int p2), (.int p3), (.int p4), (.int p5), (.int p6)] maxLocals)) := fun t k => by
                refine pre424 _ ?_
                refine y_ifNo X422 hx hby at_348 ((if0 _ _).trans (feq hc423).1) ?_
                refine y_iload X422 hx hby at_351 rfl ?_
                refine y_i2l X422 hx hby at_353 ?_
                refine y_lstore X422 hx hby at_354 (l' := (lo0_58 p1 p2 p3 p4 p5 p6 z0 z1 z2 z3 z4 z5 b360 b418)) rfl ?_
                refine y_goto X422 hx hby (pc' := 425) at_356 (by decide) (by decide) ?_
                exact k
              have hp : -2147483648 ≤ ((p6.toInt64)).toInt ∧ ((p6.toInt64)).toInt ≤ 2147483647 := by rw [c_i2l]; have := rng32 p6; omega
              have pre435 : GO p e below (T422.setTop (mkF m 513 (lo0_58 p1 p2 p3 p4 p5 p6 z0 z1 z2 z3 z4 z5 b360 b418) [(.int (ex0 (4 : Int32) (p6.toInt64) z0 z1 z2 z3 z4 z5))])) (s₁.setTop (entryFrame m #[(.int p1), (.int p2), (.int p3), (.int p4), (.int p5), (.int p6)] maxLocals)) := fun t k => pre434 _ (own_ex0 X422 hx hby rfl rfl rfl rfl rfl rfl rfl rfl k)
              obtain ⟨cq436, kq436, q436a, q436b, q436c⟩ := isOf hZ e422 E_b418
              obtain ⟨_, _, ⟨T436, L436, k436, n436⟩, -, X436, ⟨Lc436, hQ436, l436, y436, z436⟩, st436⟩ := X422.virtualBack hx (y := mn12) (z := mn12) hown (mvT hZ (ww hw 59 rfl)) (mvT hZ (ww hw 60 rfl)) (notFace_of_selects (args := #[]) (mvT hZ (ww hw 62 rfl))) (mvT hZ (ww hw 62 rfl)) (mvT hZ (ww hw 61 rfl)) (by decide) (backOf (W := 0) (rm10_4 l Z a0 hw [] b418 ((p6.toInt64).toInt32) B418 k418 (z0.toInt32) (z1.toInt32) (z2.toInt32) (z3.toInt32) h418 n0 Z0 E_b418 F_numbers_b418 V_B418) hZ (ww hw 63 rfl) (ww hw 27 rfl) (by decide) (by decide)) q436a q436c (g := (mkF m 520 (lo0_59 p1 p2 p3 p4 p5 p6 z0 z1 z2 z3 z4 z5 b360 b418) [(.int ((p6.toInt64).toInt32)), (.ref b418)])) rfl (by rw [hml]; rfl) (Steps.refl _) (argsL := [(.int ((p6.toInt64).toInt32))]) (rest := []) (lenOf pd_11 rfl) rfl (by show 2 * 0 + _ ≤ _; exact Nat.le_of_eq rfl) (hb hby at_520) (fun _ _ => ⟨rfl, e422, (by decide : 4 + 0 ≤ _), (by decide : 12 + 0 ≤ _)⟩)
              dsimp only [Pt.U, Pt.locs, Pt.cells, Pt.slots] at X436 l436 y436 z436 st436 hQ436
              subst l436 y436 z436
              obtain ⟨rfl, N436q, e436⟩ := hQ436
              have N436 := Fr.app N422 N436q
              obtain ⟨fs, hr, hrun, hended, hW, hsame⟩ := X436.leave (v := some (.int (1 : Int32))) (fun h => by rw [Bd.returns] at h; cases h)
              refine ⟨_, _, pre435 _ ?_, hrun, hended, _, _, rfl, ?_, ⟨_, rfl⟩, hW, hsame.mono (by decide) (by decide)⟩
              · refine y_istore X422 hx hby at_513 (l' := (lo0_59 p1 p2 p3 p4 p5 p6 z0 z1 z2 z3 z4 z5 b360 b418)) rfl ?_
                refine y_aload X422 hx hby at_515 rfl rfl ?_
                refine y_lload X422 hx hby at_517 rfl ?_
                refine y_l2i X422 hx hby at_519 ?_
                refine st436.trans ?_
                show Steps p.tables e below (T436.setTop (mkF m 523 (lo0_59 p1 p2 p3 p4 p5 p6 z0 z1 z2 z3 z4 z5 b360 b418) [(.int (ct_4 ((p6.toInt64).toInt32) (z0.toInt32) (z1.toInt32) (z2.toInt32) (z3.toInt32)))])) _
                refine y_iload X436 hx hby at_523 rfl ?_
                refine y_icmpNo X436 hx hby at_525 (teq (own_fin4 _ z0 z1 z2 z3 z4 z5 o1 o2 o3 o4 o5 lo hi hp)).2 ?_
                refine y_iconst X436 hx hby (v := (1 : Int32)) at_528 rfl ?_
                refine y_goto X436 hx hby (pc' := 533) at_529 (by decide) (by decide) ?_
                exact retN X436 hx (t := .boolean) Bd.returns (by simp) (hb hby at_533) hr
              · exact ⟨rfl, N436⟩
        · obtain ⟨rfl, hi⟩ := own_fix3 hcnt hc368 hc371
          obtain ⟨cq437, kq437, q437a, q437b, q437c⟩ := isOf hZ e370 E_b360
          obtain ⟨_, _, ⟨T437, L437, k437, n437⟩, -, X437, ⟨Lc437, hQ437, l437, y437, z437⟩, st437⟩ := X370.virtualBack hx (y := mn7) (z := mn7) hown (mvT hZ (ww hw 20 rfl)) (mvT hZ (ww hw 21 rfl)) (notFace_of_selects (args := #[]) (mvT hZ (ww hw 23 rfl))) (mvT hZ (ww hw 23 rfl)) (mvT hZ (ww hw 22 rfl)) (by decide) (backOf (W := 0) (rm4_3 l Z a0 hw [] b360 A361 k361 (z0.toInt32) (z1.toInt32) (z2.toInt32) h370 n0 Z0 E_b360 F_numbers_b360 F_size_b360 E_A361 V_A361 ne_b360_A361) hZ (ww hw 24 rfl) (ww hw 10 rfl) (by decide) (by decide)) q437a q437c (g := (mkF m 267 (lo0_60 p1 p2 p3 p4 p5 p6 z0 z1 z2 z3 z4 z5 b360) [(.ref b360)])) rfl (by rw [hml]; rfl) (Steps.refl _) (argsL := []) (rest := []) (lenOf pd_8 rfl) rfl (by show 2 * 0 + _ ≤ _; exact Nat.le_of_eq rfl) (hb hby at_267) (fun _ _ => ⟨rfl, e370, (by decide : 2 + 2 ≤ _), (by decide : 6 + 5 ≤ _)⟩)
          dsimp only [Pt.U, Pt.locs, Pt.cells, Pt.slots] at X437 l437 y437 z437 st437 hQ437
          subst l437 y437 z437
          obtain ⟨h437, e437⟩ : ∃ z, T437.heap = z := ⟨_, rfl⟩
          rw [e437] at hQ437
          obtain ⟨b437, B437, k437, rfl, N437q, K437, s437, t437, En437, Fn437, Vn437⟩ := hQ437
          have g_b437 : n0 ≤ b437 := Nat.le_trans Z0 s437
          have ne_b360_b437 : b360 ≠ b437 := Nat.ne_of_lt (Nat.lt_of_lt_of_le E_b360.lt s437)
          have ne_A361_b437 : A361 ≠ b437 := Nat.ne_of_lt (Nat.lt_of_lt_of_le V_A361.lt s437)
          replace E_b360 := E_b360.keep K437
          replace F_numbers_b360 := F_numbers_b360.keep K437 nin0
          replace F_size_b360 := F_size_b360.keep K437 nin0
          replace V_A361 := V_A361.keep K437 nin0
          replace E_A361 := E_A361.keep K437
          replace Z0 := Nat.le_trans Z0 K437.1
          have E_b437 : Exa Z h437 b437 "com/example/hard_delay_bounds/harddelaybounds/analysis/FlowSet" := En437
          have F_numbers_b437 : Fld Z h437 b437 "com/example/hard_delay_bounds/harddelaybounds/analysis/FlowSet" "numbers" "[I" (.ref B437) := Fn437
          have V_B437 : Arv Z h437 B437 k437 .int (3 : Int32) [(.int (z0.toInt32)), (.int (z1.toInt32)), (.int (z2.toInt32))] (.int (0 : Int32)) := Vn437
          have N437 := Fr.app N370 N437q
          obtain ⟨cq438, kq438, q438a, q438b, q438c⟩ := isOf hZ e437 E_b437
          obtain ⟨_, _, ⟨T438, L438, k438, n438⟩, -, X438, ⟨Lc438, hQ438, l438, y438, z438⟩, st438⟩ := X437.virtualBack hx (y := mn8) (z := mn8) hown (mvT hZ (ww hw 47 rfl)) (mvT hZ (ww hw 48 rfl)) (notFace_of_selects (args := #[]) (mvT hZ (ww hw 50 rfl))) (mvT hZ (ww hw 50 rfl)) (mvT hZ (ww hw 49 rfl)) (by decide) (backOf (W := 0) (rm7_3 l Z a0 hw [] b437 B437 k437 (z0.toInt32) (z1.toInt32) (z2.toInt32) h437 n0 Z0 F_numbers_b437 V_B437) hZ (ww hw 51 rfl) (ww hw 27 rfl) (by decide) (by decide)) q438a q438c (g := (mkF m 274 (lo0_61 p1 p2 p3 p4 p5 p6 z0 z1 z2 z3 z4 z5 b360 b437) [(.ref b437)])) rfl (by rw [hml]; rfl) (Steps.refl _) (argsL := []) (rest := []) (lenOf pd_9 rfl) rfl (by show 2 * 0 + _ ≤ _; exact Nat.le_of_eq rfl) (hb hby at_274) (fun _ _ => ⟨rfl, e437, (by decide : 4 + 0 ≤ _), (by decide : 11 + 0 ≤ _)⟩)
          dsimp only [Pt.U, Pt.locs, Pt.cells, Pt.slots] at X438 l438 y438 z438 st438 hQ438
          subst l438 y438 z438
          obtain ⟨rfl, N438q, e438⟩ := hQ438
          have N438 := Fr.app N437 N438q
          obtain ⟨_, _, ⟨T439, L439, k439, n439⟩, -, X439, ⟨Lc439, hQ439, l439, y439, z439⟩, st439⟩ := Jvm.LawKit.callS X438 hx (y := mn2) hown (mvT hZ (ww hw 52 rfl)) (mvT hZ (ww hw 53 rfl)) (mvT hZ (ww hw 6 rfl)) (mvT hZ (ww hw 54 rfl)) (by decide) (backOf (W := 0) (rm8 l Z a0 hw [] (3 : Int32) (1 : Int32) h437 n0 Z0) hZ (ww hw 54 rfl) (ww hw 6 rfl) (by decide) (by decide)) (g := (mkF m 287 (lo0_61 p1 p2 p3 p4 p5 p6 z0 z1 z2 z3 z4 z5 b360 b437) [(.int (1 : Int32)), (.int (3 : Int32))])) rfl (by rw [hml]; rfl) (argsL := [(.int (3 : Int32)), (.int (1 : Int32))]) (rest := []) (lenOf pd_0 rfl) rfl (by show 2 * 0 + _ ≤ _; exact Nat.le_of_eq rfl) (hb hby at_287) (fun _ _ => ⟨rfl, e438, (by decide : 4 + 0 ≤ _), (by decide : 11 + 0 ≤ _)⟩)
          dsimp only [Pt.U, Pt.locs, Pt.cells, Pt.slots] at X439 l439 y439 z439 st439 hQ439
          subst l439 y439 z439
          obtain ⟨rfl, N439q, e439⟩ := hQ439
          rw [show f8 (3 : Int32) (1 : Int32) = (3 : Int32) from by decide] at st439
          have N439 := Fr.app N438 N439q
          obtain ⟨_, _, ⟨T440, L440, k440, n440⟩, -, X440, ⟨Lc440, hQ440, l440, y440, z440⟩, st440⟩ := Jvm.LawKit.callS X439 hx (y := mn1) hown (mvT hZ (ww hw 55 rfl)) (mvT hZ (ww hw 56 rfl)) (mvT hZ (ww hw 57 rfl)) (mvT hZ (ww hw 58 rfl)) (by decide) (backOf (W := 0) (rm9 l Z a0 hw [] ((((p1.toUInt32 >>> ((8 : Int32) &&& 31).toUInt32).toInt32) &&& (255 : Int32)) % (3 : Int32)) z0 z1 z2 z3 z4 z5 h437 n0 Z0) hZ (ww hw 58 rfl) (ww hw 57 rfl) (by decide) (by decide)) (g := (mkF m 324 (lo0_63 p1 p2 p3 p4 p5 p6 z0 z1 z2 z3 z4 z5 b360 b437) [(.long z5), (.long z4), (.long z3), (.long z2), (.long z1), (.long z0), (.int ((((p1.toUInt32 >>> ((8 : Int32) &&& 31).toUInt32).toInt32) &&& (255 : Int32)) % (3 : Int32)))])) rfl (by rw [hml]; rfl) (argsL := [(.int ((((p1.toUInt32 >>> ((8 : Int32) &&& 31).toUInt32).toInt32) &&& (255 : Int32)) % (3 : Int32))), (.long z0), (.long z1), (.long z2), (.long z3), (.long z4), (.long z5)]) (rest := []) (lenOf pd_10 rfl) rfl (by show 2 * 0 + _ ≤ _; exact Nat.le_of_eq rfl) (hb hby at_324) (fun _ _ => ⟨rfl, e439, (by decide : 4 + 0 ≤ _), (by decide : 11 + 0 ≤ _)⟩)
          dsimp only [Pt.U, Pt.locs, Pt.cells, Pt.slots] at X440 l440 y440 z440 st440 hQ440
          subst l440 y440 z440
          obtain ⟨rfl, N440q, e440⟩ := hQ440
          have N440 := Fr.app N439 N440q
          have ng := own_nuget_3 (p2 := ((((p1.toUInt32 >>> ((8 : Int32) &&& 31).toUInt32).toInt32) &&& (255 : Int32)) % (3 : Int32))) (x0 := (z0.toInt32)) (x1 := (z1.toInt32)) (x2 := (z2.toInt32)) (own_rem3 _ (own_and _))
          obtain ⟨cq441, kq441, q441a, q441b, q441c⟩ := isOf hZ e440 E_b437
          obtain ⟨_, _, ⟨T441, L441, k441, n441⟩, -, X441, ⟨Lc441, hQ441, l441, y441, z441⟩, st441⟩ := X440.virtualBack hx (y := mn13) (z := mn13) hown (mvT hZ (ww hw 90 rfl)) (mvT hZ (ww hw 91 rfl)) (notFace_of_selects (args := #[]) (mvT hZ (ww hw 93 rfl))) (mvT hZ (ww hw 93 rfl)) (mvT hZ (ww hw 92 rfl)) (by decide) (backOf (W := 0) (rm15_any l Z a0 hw [] b437 ((((p1.toUInt32 >>> ((8 : Int32) &&& 31).toUInt32).toInt32) &&& (255 : Int32)) % (3 : Int32)) B437 k437 _ _ _ h437 n0 Z0 ng.1 ng.2.1 ng.2.2 F_numbers_b437 V_B437) hZ (ww hw 94 rfl) (ww hw 27 rfl) (by decide) (by decide)) q441a q441c (g := (mkF m 333 (lo0_64 p1 p2 p3 p4 p5 p6 z0 z1 z2 z3 z4 z5 b360 b437) [(.int ((((p1.toUInt32 >>> ((8 : Int32) &&& 31).toUInt32).toInt32) &&& (255 : Int32)) % (3 : Int32))), (.ref b437)])) rfl (by rw [hml]; rfl) (Steps.refl _) (argsL := [(.int ((((p1.toUInt32 >>> ((8 : Int32) &&& 31).toUInt32).toInt32) &&& (255 : Int32)) % (3 : Int32)))]) (rest := []) (lenOf pd_5 rfl) rfl (by show 2 * 0 + _ ≤ _; exact Nat.le_of_eq rfl) (hb hby at_333) (fun _ _ => ⟨rfl, e440, (by decide : 4 + 0 ≤ _), (by decide : 11 + 0 ≤ _)⟩)
          dsimp only [Pt.U, Pt.locs, Pt.cells, Pt.slots] at X441 l441 y441 z441 st441 hQ441
          subst l441 y441 z441
          obtain ⟨rfl, N441q, e441⟩ := hQ441
          have N441 := Fr.app N440 N441q
          have pre443 : GO p e below (T441.setTop (mkF m 348 (lo0_64 p1 p2 p3 p4 p5 p6 z0 z1 z2 z3 z4 z5 b360 b437) [(.int (p6 &&& (4 : Int32)))])) (s₁.setTop (entryFrame m #[(.int p1), (.int p2), (.int p3), (.int p4), (.int p5), (.int p6)] maxLocals)) := fun t k => by
            refine pre372 _ ?_
            refine y_icmpYes X370 hx hby (pc' := 235) at_223 (flt hc371).2.2.2 (by decide) (by decide) ?_
            refine y_iload X370 hx hby at_235 rfl ?_
            refine y_iconst X370 hx hby (v := (4 : Int32)) at_237 rfl ?_
            refine y_icmpYes X370 hx hby (pc' := 250) at_238 (flt (by decide)).2.2.2 (by decide) (by decide) ?_
            refine y_iload X370 hx hby at_250 rfl ?_
            refine y_iconst X370 hx hby (v := (5 : Int32)) at_252 rfl ?_
            refine y_icmpYes X370 hx hby (pc' := 265) at_253 (flt (by decide)).2.2.2 (by decide) (by decide) ?_
            refine y_aload X370 hx hby at_265 rfl rfl ?_
            refine st437.trans ?_
            show Steps p.tables e below (T437.setTop (mkF m 270 (lo0_60 p1 p2 p3 p4 p5 p6 z0 z1 z2 z3 z4 z5 b360) [(.ref b437)])) _
            refine y_astore X437 hx hby at_270 rfl (l' := (lo0_61 p1 p2 p3 p4 p5 p6 z0 z1 z2 z3 z4 z5 b360 b437)) rfl ?_
            refine y_aload X437 hx hby at_272 rfl rfl ?_
            refine st438.trans ?_
            show Steps p.tables e below (T438.setTop (mkF m 277 (lo0_61 p1 p2 p3 p4 p5 p6 z0 z1 z2 z3 z4 z5 b360 b437) [(.int (3 : Int32))])) _
            refine y_iload X438 hx hby at_277 rfl ?_
            refine y_icmpYes X438 hx hby (pc' := 284) at_279 (teq rfl).1 (by decide) (by decide) ?_
            refine y_iload X438 hx hby at_284 rfl ?_
            refine y_iconst X438 hx hby (v := (1 : Int32)) at_286 rfl ?_
            refine st439 _ ?_
            show Steps p.tables e below (T439.setTop (mkF m 290 (lo0_61 p1 p2 p3 p4 p5 p6 z0 z1 z2 z3 z4 z5 b360 b437) [(.int (3 : Int32))])) _
            refine y_istore X439 hx hby at_290 (l' := (lo0_62 p1 p2 p3 p4 p5 p6 z0 z1 z2 z3 z4 z5 b360 b437)) rfl ?_
            refine y_iloadN X439 hx hby at_292 rfl ?_
            refine y_bipush X439 hx hby (v := (8 : Int32)) at_293 rfl ?_
            refine y_iushr X439 hx hby at_295 ?_
            refine y_sipush X439 hx hby (v := (255 : Int32)) at_296 rfl ?_
            refine y_iand X439 hx hby at_299 ?_
            refine y_iload X439 hx hby at_300 rfl ?_
            refine Jvm.RoadKit.iremM X439 hx rfl (hb hby at_302) rfl (by decide) ?_
            show Steps p.tables e below (T439.setTop (mkF m 303 (lo0_62 p1 p2 p3 p4 p5 p6 z0 z1 z2 z3 z4 z5 b360 b437) [(.int ((((p1.toUInt32 >>> ((8 : Int32) &&& 31).toUInt32).toInt32) &&& (255 : Int32)) % (3 : Int32)))])) _
            refine y_istore X439 hx hby at_303 (l' := (lo0_63 p1 p2 p3 p4 p5 p6 z0 z1 z2 z3 z4 z5 b360 b437)) rfl ?_
            refine y_iload X439 hx hby at_305 rfl ?_
            refine y_ifNo X439 hx hby at_307 ((if0 _ _).trans (tlt (by decide)).2.2.2) ?_
            refine y_iload X439 hx hby at_310 rfl ?_
            refine y_lload X439 hx hby at_312 rfl ?_
            refine y_lload X439 hx hby at_314 rfl ?_
            refine y_lload X439 hx hby at_316 rfl ?_
            refine y_lload X439 hx hby at_318 rfl ?_
            refine y_lload X439 hx hby at_320 rfl ?_
            refine y_lload X439 hx hby at_322 rfl ?_
            refine st440 _ ?_
            show Steps p.tables e below (T440.setTop (mkF m 327 (lo0_63 p1 p2 p3 p4 p5 p6 z0 z1 z2 z3 z4 z5 b360 b437) [(.long (f9 ((((p1.toUInt32 >>> ((8 : Int32) &&& 31).toUInt32).toInt32) &&& (255 : Int32)) % (3 : Int32)) z0 z1 z2 z3 z4 z5))])) _
            refine y_lstore X440 hx hby at_327 (l' := (lo0_64 p1 p2 p3 p4 p5 p6 z0 z1 z2 z3 z4 z5 b360 b437)) rfl ?_
            refine y_aload X440 hx hby at_329 rfl rfl ?_
            refine y_iload X440 hx hby at_331 rfl ?_
            refine st441.trans ?_
            show Steps p.tables e below (T441.setTop (mkF m 336 (lo0_64 p1 p2 p3 p4 p5 p6 z0 z1 z2 z3 z4 z5 b360 b437) [(.int (nu_3 ((((p1.toUInt32 >>> ((8 : Int32) &&& 31).toUInt32).toInt32) &&& (255 : Int32)) % (3 : Int32)) (z0.toInt32) (z1.toInt32) (z2.toInt32)))])) _
            refine y_lload X441 hx hby at_336 rfl ?_
            refine y_l2i X441 hx hby at_338 ?_
            refine y_icmpYes X441 hx hby (pc' := 344) at_339 (teq (own_nup3 _ z0 z1 z2 z3 z4 z5 (own_rem3 _ (own_and _)))).1 (by decide) (by decide) ?_
            refine y_iload X441 hx hby at_344 rfl ?_
            refine y_iconst X441 hx hby (v := (4 : Int32)) at_346 rfl ?_
            refine y_iand X441 hx hby at_347 ?_
            exact k
          by_cases hc442 : (p6 &&& (4 : Int32)) = (0 : Int32)
          · obtain ⟨_, _, ⟨T444, L444, k444, n444⟩, -, X444, ⟨Lc444, hQ444, l444, y444, z444⟩, st444⟩ := Jvm.LawKit.callS X441 hx (y := mn1) hown (mvT hZ (ww hw 55 rfl)) (mvT hZ (ww hw 56 rfl)) (mvT hZ (ww hw 57 rfl)) (mvT hZ (ww hw 58 rfl)) (by decide) (backOf (W := 0) (rm9 l Z a0 hw [] ((((p6.toUInt32 >>> ((3 : Int32) &&& 31).toUInt32).toInt32) &&& (255 : Int32)) % (3 : Int32)) z0 z1 z2 z3 z4 z5 h437 n0 Z0) hZ (ww hw 58 rfl) (ww hw 57 rfl) (by decide) (by decide)) (g := (mkF m 386 (lo0_65 p1 p2 p3 p4 p5 p6 z0 z1 z2 z3 z4 z5 b360 b437) [(.long z5), (.long z4), (.long z3), (.long z2), (.long z1), (.long z0), (.int ((((p6.toUInt32 >>> ((3 : Int32) &&& 31).toUInt32).toInt32) &&& (255 : Int32)) % (3 : Int32)))])) rfl (by rw [hml]; rfl) (argsL := [(.int ((((p6.toUInt32 >>> ((3 : Int32) &&& 31).toUInt32).toInt32) &&& (255 : Int32)) % (3 : Int32))), (.long z0), (.long z1), (.long z2), (.long z3), (.long z4), (.long z5)]) (rest := []) (lenOf pd_10 rfl) rfl (by show 2 * 0 + _ ≤ _; exact Nat.le_of_eq rfl) (hb hby at_386) (fun _ _ => ⟨rfl, e441, (by decide : 4 + 0 ≤ _), (by decide : 11 + 0 ≤ _)⟩)
            dsimp only [Pt.U, Pt.locs, Pt.cells, Pt.slots] at X444 l444 y444 z444 st444 hQ444
            subst l444 y444 z444
            obtain ⟨rfl, N444q, e444⟩ := hQ444
            have N444 := Fr.app N441 N444q
            have pre446 : GO p e below (T444.setTop (mkF m 410 (lo0_67 p1 p2 p3 p4 p5 p6 z0 z1 z2 z3 z4 z5 b360 b437) [(.int (lcmpW (((f9 ((((p6.toUInt32 >>> ((3 : Int32) &&& 31).toUInt32).toInt32) &&& (255 : Int32)) % (3 : Int32)) z0 z1 z2 z3 z4 z5) + (((p6 &&& (3 : Int32)) % (3 : Int32)).toInt64)) - (1 : Int64)) (2147483647 : Int64)))])) (s₁.setTop (entryFrame m #[(.int p1), (.int p2), (.int p3), (.int p4), (.int p5), (.int p6)] maxLocals)) := fun t k => by
              refine pre443 _ ?_
              refine y_ifYes X441 hx hby (pc' := 359) at_348 ((if0 _ _).trans (teq hc442).1) (by decide) (by decide) ?_
              refine y_iload X441 hx hby at_359 rfl ?_
              refine y_iconst X441 hx hby (v := (3 : Int32)) at_361 rfl ?_
              refine y_iushr X441 hx hby at_362 ?_
              refine y_sipush X441 hx hby (v := (255 : Int32)) at_363 rfl ?_
              refine y_iand X441 hx hby at_366 ?_
              refine y_iload X441 hx hby at_367 rfl ?_
              refine Jvm.RoadKit.iremM X441 hx rfl (hb hby at_369) rfl (by decide) ?_
              show Steps p.tables e below (T441.setTop (mkF m 370 (lo0_64 p1 p2 p3 p4 p5 p6 z0 z1 z2 z3 z4 z5 b360 b437) [(.int ((((p6.toUInt32 >>> ((3 : Int32) &&& 31).toUInt32).toInt32) &&& (255 : Int32)) % (3 : Int32)))])) _
              refine y_istore X441 hx hby at_370 (l' := (lo0_65 p1 p2 p3 p4 p5 p6 z0 z1 z2 z3 z4 z5 b360 b437)) rfl ?_
              refine y_iload X441 hx hby at_372 rfl ?_
              refine y_lload X441 hx hby at_374 rfl ?_
              refine y_lload X441 hx hby at_376 rfl ?_
              refine y_lload X441 hx hby at_378 rfl ?_
              refine y_lload X441 hx hby at_380 rfl ?_
              refine y_lload X441 hx hby at_382 rfl ?_
              refine y_lload X441 hx hby at_384 rfl ?_
              refine st444 _ ?_
              show Steps p.tables e below (T444.setTop (mkF m 389 (lo0_65 p1 p2 p3 p4 p5 p6 z0 z1 z2 z3 z4 z5 b360 b437) [(.long (f9 ((((p6.toUInt32 >>> ((3 : Int32) &&& 31).toUInt32).toInt32) &&& (255 : Int32)) % (3 : Int32)) z0 z1 z2 z3 z4 z5))])) _
              refine y_lstore X444 hx hby at_389 (l' := (lo0_66 p1 p2 p3 p4 p5 p6 z0 z1 z2 z3 z4 z5 b360 b437)) rfl ?_
              refine y_lload X444 hx hby at_391 rfl ?_
              refine y_iload X444 hx hby at_393 rfl ?_
              refine y_iconst X444 hx hby (v := (3 : Int32)) at_395 rfl ?_
              refine y_iand X444 hx hby at_396 ?_
              refine y_iconst X444 hx hby (v := (3 : Int32)) at_397 rfl ?_
              refine Jvm.RoadKit.iremM X444 hx rfl (hb hby at_398) rfl (by decide) ?_
              show Steps p.tables e below (T444.setTop (mkF m 399 (lo0_66 p1 p2 p3 p4 p5 p6 z0 z1 z2 z3 z4 z5 b360 b437) [(.int ((p6 &&& (3 : Int32)) % (3 : Int32))), (.long (f9 ((((p6.toUInt32 >>> ((3 : Int32) &&& 31).toUInt32).toInt32) &&& (255 : Int32)) % (3 : Int32)) z0 z1 z2 z3 z4 z5))])) _
              refine y_i2l X444 hx hby at_399 ?_
              refine y_ladd X444 hx hby at_400 ?_
              refine y_lconst X444 hx hby (v := (1 : Int64)) at_401 rfl ?_
              refine y_lsub X444 hx hby at_402 ?_
              refine y_lstore X444 hx hby at_403 (l' := (lo0_67 p1 p2 p3 p4 p5 p6 z0 z1 z2 z3 z4 z5 b360 b437)) rfl ?_
              refine y_lload X444 hx hby at_405 rfl ?_
              refine y_lload X444 hx hby at_407 rfl ?_
              refine y_lcmp X444 hx hby at_409 ?_
              exact k
            obtain ⟨T450, L450, X450, N450, e450, pre450⟩ : ∃ T' L', Stand p l e room_1 s m #[(.int p1), (.int p2), (.int p3), (.int p4), (.int p5), (.int p6)] below meth c T' L' 4 11 ∧ Fr n0 L' ∧ T'.heap = h437 ∧ ∀ t, Steps p.tables e below (T'.setTop (mkF m 425 #[.val (.int p1), .val (.int p2), .val (.int p3), .val (.int p4), .val (.int p5), .val (.int p6), .val (.long (2147483647 : Int64)), .second, .val (.long (-2147483648 : Int64)), .second, .val (.long z0), .second, .val (.long z1), .second, .val (.long z2), .second, .val (.long z3), .second, .val (.long z4), .second, .val (.long z5), .second, .val (.int (mg0_80a p1 p2 p3 p4 p5 p6 z1 z2 z3 z4 z5)), .val (.int ((p1 &&& (2147483647 : Int32)) % (7 : Int32))), .val (.int (3 : Int32)), .val (.ref b360), .val (.ref b437), .val (.int (3 : Int32)), .val (.int ((((p1.toUInt32 >>> ((8 : Int32) &&& 31).toUInt32).toInt32) &&& (255 : Int32)) % (3 : Int32))), .val (.long (mg0_410d p1 p2 p3 p4 p5 p6 z0 z1 z2 z3 z4 z5)), .second, .val (.int ((((p6.toUInt32 >>> ((3 : Int32) &&& 31).toUInt32).toInt32) &&& (255 : Int32)) % (3 : Int32))), .val (.long (f9 ((((p6.toUInt32 >>> ((3 : Int32) &&& 31).toUInt32).toInt32) &&& (255 : Int32)) % (3 : Int32)) z0 z1 z2 z3 z4 z5)), .second] [])) t → Steps p.tables e below (s₁.setTop (entryFrame m #[(.int p1), (.int p2), (.int p3), (.int p4), (.int p5), (.int p6)] maxLocals)) t := by
              by_cases hc445 : (2147483647 : Int64) < (((f9 ((((p6.toUInt32 >>> ((3 : Int32) &&& 31).toUInt32).toInt32) &&& (255 : Int32)) % (3 : Int32)) z0 z1 z2 z3 z4 z5) + (((p6 &&& (3 : Int32)) % (3 : Int32)).toInt64)) - (1 : Int64))
              · rw [show mg0_410d p1 p2 p3 p4 p5 p6 z0 z1 z2 z3 z4 z5 = (f9 ((((p6.toUInt32 >>> ((3 : Int32) &&& 31).toUInt32).toInt32) &&& (255 : Int32)) % (3 : Int32)) z0 z1 z2 z3 z4 z5) from if_pos hc445]
                refine ⟨T444, _, X444, N444, e444, fun t k => ?_⟩
                refine pre446 _ ?_
                refine y_ifYes X444 hx hby (pc' := 421) at_410 ((if0 _ _).trans (tlt ((lw_gt (((f9 ((((p6.toUInt32 >>> ((3 : Int32) &&& 31).toUInt32).toInt32) &&& (255 : Int32)) % (3 : Int32)) z0 z1 z2 z3 z4 z5) + (((p6 &&& (3 : Int32)) % (3 : Int32)).toInt64)) - (1 : Int64)) (2147483647 : Int64)).mpr hc445)).2.2.1) (by decide) (by decide) ?_
                refine y_lload X444 hx hby at_421 rfl ?_
                refine y_lstore X444 hx hby at_423 (l' := (lo0_68 p1 p2 p3 p4 p5 p6 z0 z1 z2 z3 z4 z5 b360 b437)) rfl ?_
                exact k
              · rw [show mg0_410d p1 p2 p3 p4 p5 p6 z0 z1 z2 z3 z4 z5 = (mg0_418d p1 p2 p3 p4 p5 p6 z0 z1 z2 z3 z4 z5) from if_neg hc445]
                have pre448 : GO p e below (T444.setTop (mkF m 418 (lo0_67 p1 p2 p3 p4 p5 p6 z0 z1 z2 z3 z4 z5 b360 b437) [(.int (lcmpW (((f9 ((((p6.toUInt32 >>> ((3 : Int32) &&& 31).toUInt32).toInt32) &&& (255 : Int32)) % (3 : Int32)) z0 z1 z2 z3 z4 z5) + (((p6 &&& (3 : Int32)) % (3 : Int32)).toInt64)) - (1 : Int64)) (-2147483648 : Int64)))])) (s₁.setTop (entryFrame m #[(.int p1), (.int p2), (.int p3), (.int p4), (.int p5), (.int p6)] maxLocals)) := fun t k => by
                  refine pre446 _ ?_
                  refine y_ifNo X444 hx hby at_410 ((if0 _ _).trans (flt (fun q => hc445 ((lw_gt (((f9 ((((p6.toUInt32 >>> ((3 : Int32) &&& 31).toUInt32).toInt32) &&& (255 : Int32)) % (3 : Int32)) z0 z1 z2 z3 z4 z5) + (((p6 &&& (3 : Int32)) % (3 : Int32)).toInt64)) - (1 : Int64)) (2147483647 : Int64)).mp q))).2.2.1) ?_
                  refine y_lload X444 hx hby at_413 rfl ?_
                  refine y_lload X444 hx hby at_415 rfl ?_
                  refine y_lcmp X444 hx hby at_417 ?_
                  exact k
                obtain ⟨T449, L449, X449, N449, e449, pre449⟩ : ∃ T' L', Stand p l e room_1 s m #[(.int p1), (.int p2), (.int p3), (.int p4), (.int p5), (.int p6)] below meth c T' L' 4 11 ∧ Fr n0 L' ∧ T'.heap = h437 ∧ ∀ t, Steps p.tables e below (T'.setTop (mkF m 425 #[.val (.int p1), .val (.int p2), .val (.int p3), .val (.int p4), .val (.int p5), .val (.int p6), .val (.long (2147483647 : Int64)), .second, .val (.long (-2147483648 : Int64)), .second, .val (.long z0), .second, .val (.long z1), .second, .val (.long z2), .second, .val (.long z3), .second, .val (.long z4), .second, .val (.long z5), .second, .val (.int (mg0_80a p1 p2 p3 p4 p5 p6 z1 z2 z3 z4 z5)), .val (.int ((p1 &&& (2147483647 : Int32)) % (7 : Int32))), .val (.int (3 : Int32)), .val (.ref b360), .val (.ref b437), .val (.int (3 : Int32)), .val (.int ((((p1.toUInt32 >>> ((8 : Int32) &&& 31).toUInt32).toInt32) &&& (255 : Int32)) % (3 : Int32))), .val (.long (mg0_418d p1 p2 p3 p4 p5 p6 z0 z1 z2 z3 z4 z5)), .second, .val (.int ((((p6.toUInt32 >>> ((3 : Int32) &&& 31).toUInt32).toInt32) &&& (255 : Int32)) % (3 : Int32))), .val (.long (f9 ((((p6.toUInt32 >>> ((3 : Int32) &&& 31).toUInt32).toInt32) &&& (255 : Int32)) % (3 : Int32)) z0 z1 z2 z3 z4 z5)), .second] [])) t → Steps p.tables e below (s₁.setTop (entryFrame m #[(.int p1), (.int p2), (.int p3), (.int p4), (.int p5), (.int p6)] maxLocals)) t := by
                  by_cases hc447 : (((f9 ((((p6.toUInt32 >>> ((3 : Int32) &&& 31).toUInt32).toInt32) &&& (255 : Int32)) % (3 : Int32)) z0 z1 z2 z3 z4 z5) + (((p6 &&& (3 : Int32)) % (3 : Int32)).toInt64)) - (1 : Int64)) < (-2147483648 : Int64)
                  · rw [show mg0_418d p1 p2 p3 p4 p5 p6 z0 z1 z2 z3 z4 z5 = (f9 ((((p6.toUInt32 >>> ((3 : Int32) &&& 31).toUInt32).toInt32) &&& (255 : Int32)) % (3 : Int32)) z0 z1 z2 z3 z4 z5) from if_pos hc447]
                    refine ⟨T444, _, X444, N444, e444, fun t k => ?_⟩
                    refine pre448 _ ?_
                    refine y_ifNo X444 hx hby at_418 ((if0 _ _).trans (tlt ((lw_lt (((f9 ((((p6.toUInt32 >>> ((3 : Int32) &&& 31).toUInt32).toInt32) &&& (255 : Int32)) % (3 : Int32)) z0 z1 z2 z3 z4 z5) + (((p6 &&& (3 : Int32)) % (3 : Int32)).toInt64)) - (1 : Int64)) (-2147483648 : Int64)).mpr hc447)).2.1) ?_
                    refine y_lload X444 hx hby at_421 rfl ?_
                    refine y_lstore X444 hx hby at_423 (l' := (lo0_68 p1 p2 p3 p4 p5 p6 z0 z1 z2 z3 z4 z5 b360 b437)) rfl ?_
                    exact k
                  · rw [show mg0_418d p1 p2 p3 p4 p5 p6 z0 z1 z2 z3 z4 z5 = (((f9 ((((p6.toUInt32 >>> ((3 : Int32) &&& 31).toUInt32).toInt32) &&& (255 : Int32)) % (3 : Int32)) z0 z1 z2 z3 z4 z5) + (((p6 &&& (3 : Int32)) % (3 : Int32)).toInt64)) - (1 : Int64)) from if_neg hc447]
                    refine ⟨T444, _, X444, N444, e444, fun t k => ?_⟩
                    refine pre448 _ ?_
                    refine y_ifYes X444 hx hby (pc' := 425) at_418 ((if0 _ _).trans (flt (fun q => hc447 ((lw_lt (((f9 ((((p6.toUInt32 >>> ((3 : Int32) &&& 31).toUInt32).toInt32) &&& (255 : Int32)) % (3 : Int32)) z0 z1 z2 z3 z4 z5) + (((p6 &&& (3 : Int32)) % (3 : Int32)).toInt64)) - (1 : Int64)) (-2147483648 : Int64)).mp q))).2.1) (by decide) (by decide) ?_
                    exact k
                refine ⟨T449, _, X449, N449, e449, fun t k => ?_⟩
                refine pre449 _ ?_
                exact k
            have hp := own_rg3 p1 p2 p3 p4 p5 p6 z0 z1 z2 z3 z4 z5 o1 o2 o3 o4 o5 lo hi
            have pre451 : GO p e below (T450.setTop (mkF m 513 (lo0_69 p1 p2 p3 p4 p5 p6 z0 z1 z2 z3 z4 z5 b360 b437) [(.int (ex0 (3 : Int32) (mg0_410d p1 p2 p3 p4 p5 p6 z0 z1 z2 z3 z4 z5) z0 z1 z2 z3 z4 z5))])) (s₁.setTop (entryFrame m #[(.int p1), (.int p2), (.int p3), (.int p4), (.int p5), (.int p6)] maxLocals)) := fun t k => pre450 _ (own_ex0 X450 hx hby rfl rfl rfl rfl rfl rfl rfl rfl k)
            obtain ⟨cq452, kq452, q452a, q452b, q452c⟩ := isOf hZ e450 E_b437
            obtain ⟨_, _, ⟨T452, L452, k452, n452⟩, -, X452, ⟨Lc452, hQ452, l452, y452, z452⟩, st452⟩ := X450.virtualBack hx (y := mn12) (z := mn12) hown (mvT hZ (ww hw 59 rfl)) (mvT hZ (ww hw 60 rfl)) (notFace_of_selects (args := #[]) (mvT hZ (ww hw 62 rfl))) (mvT hZ (ww hw 62 rfl)) (mvT hZ (ww hw 61 rfl)) (by decide) (backOf (W := 0) (rm10_3 l Z a0 hw [] b437 ((mg0_410d p1 p2 p3 p4 p5 p6 z0 z1 z2 z3 z4 z5).toInt32) B437 k437 (z0.toInt32) (z1.toInt32) (z2.toInt32) h437 n0 Z0 E_b437 F_numbers_b437 V_B437) hZ (ww hw 63 rfl) (ww hw 27 rfl) (by decide) (by decide)) q452a q452c (g := (mkF m 520 (lo0_70 p1 p2 p3 p4 p5 p6 z0 z1 z2 z3 z4 z5 b360 b437) [(.int ((mg0_410d p1 p2 p3 p4 p5 p6 z0 z1 z2 z3 z4 z5).toInt32)), (.ref b437)])) rfl (by rw [hml]; rfl) (Steps.refl _) (argsL := [(.int ((mg0_410d p1 p2 p3 p4 p5 p6 z0 z1 z2 z3 z4 z5).toInt32))]) (rest := []) (lenOf pd_11 rfl) rfl (by show 2 * 0 + _ ≤ _; exact Nat.le_of_eq rfl) (hb hby at_520) (fun _ _ => ⟨rfl, e450, (by decide : 4 + 0 ≤ _), (by decide : 11 + 0 ≤ _)⟩)
            dsimp only [Pt.U, Pt.locs, Pt.cells, Pt.slots] at X452 l452 y452 z452 st452 hQ452
            subst l452 y452 z452
            obtain ⟨rfl, N452q, e452⟩ := hQ452
            have N452 := Fr.app N450 N452q
            obtain ⟨fs, hr, hrun, hended, hW, hsame⟩ := X452.leave (v := some (.int (1 : Int32))) (fun h => by rw [Bd.returns] at h; cases h)
            refine ⟨_, _, pre451 _ ?_, hrun, hended, _, _, rfl, ?_, ⟨_, rfl⟩, hW, hsame.mono (by decide) (by decide)⟩
            · refine y_istore X450 hx hby at_513 (l' := (lo0_70 p1 p2 p3 p4 p5 p6 z0 z1 z2 z3 z4 z5 b360 b437)) rfl ?_
              refine y_aload X450 hx hby at_515 rfl rfl ?_
              refine y_lload X450 hx hby at_517 rfl ?_
              refine y_l2i X450 hx hby at_519 ?_
              refine st452.trans ?_
              show Steps p.tables e below (T452.setTop (mkF m 523 (lo0_70 p1 p2 p3 p4 p5 p6 z0 z1 z2 z3 z4 z5 b360 b437) [(.int (ct_3 ((mg0_410d p1 p2 p3 p4 p5 p6 z0 z1 z2 z3 z4 z5).toInt32) (z0.toInt32) (z1.toInt32) (z2.toInt32)))])) _
              refine y_iload X452 hx hby at_523 rfl ?_
              refine y_icmpNo X452 hx hby at_525 (teq (own_fin3 _ z0 z1 z2 z3 z4 z5 o1 o2 o3 o4 o5 lo hi hp)).2 ?_
              refine y_iconst X452 hx hby (v := (1 : Int32)) at_528 rfl ?_
              refine y_goto X452 hx hby (pc' := 533) at_529 (by decide) (by decide) ?_
              exact retN X452 hx (t := .boolean) Bd.returns (by simp) (hb hby at_533) hr
            · exact ⟨rfl, N452⟩
          · have pre453 : GO p e below (T441.setTop (mkF m 425 (lo0_71 p1 p2 p3 p4 p5 p6 z0 z1 z2 z3 z4 z5 b360 b437) [])) (s₁.setTop (entryFrame m #[(.int p1), (.int p2), (.int p3), (.int p4), (.int p5), (.int p6)] maxLocals)) := fun t k => by
              refine pre443 _ ?_
              refine y_ifNo X441 hx hby at_348 ((if0 _ _).trans (feq hc442).1) ?_
              refine y_iload X441 hx hby at_351 rfl ?_
              refine y_i2l X441 hx hby at_353 ?_
              refine y_lstore X441 hx hby at_354 (l' := (lo0_71 p1 p2 p3 p4 p5 p6 z0 z1 z2 z3 z4 z5 b360 b437)) rfl ?_
              refine y_goto X441 hx hby (pc' := 425) at_356 (by decide) (by decide) ?_
              exact k
            have hp : -2147483648 ≤ ((p6.toInt64)).toInt ∧ ((p6.toInt64)).toInt ≤ 2147483647 := by rw [c_i2l]; have := rng32 p6; omega
            have pre454 : GO p e below (T441.setTop (mkF m 513 (lo0_71 p1 p2 p3 p4 p5 p6 z0 z1 z2 z3 z4 z5 b360 b437) [(.int (ex0 (3 : Int32) (p6.toInt64) z0 z1 z2 z3 z4 z5))])) (s₁.setTop (entryFrame m #[(.int p1), (.int p2), (.int p3), (.int p4), (.int p5), (.int p6)] maxLocals)) := fun t k => pre453 _ (own_ex0 X441 hx hby rfl rfl rfl rfl rfl rfl rfl rfl k)
            obtain ⟨cq455, kq455, q455a, q455b, q455c⟩ := isOf hZ e441 E_b437
            obtain ⟨_, _, ⟨T455, L455, k455, n455⟩, -, X455, ⟨Lc455, hQ455, l455, y455, z455⟩, st455⟩ := X441.virtualBack hx (y := mn12) (z := mn12) hown (mvT hZ (ww hw 59 rfl)) (mvT hZ (ww hw 60 rfl)) (notFace_of_selects (args := #[]) (mvT hZ (ww hw 62 rfl))) (mvT hZ (ww hw 62 rfl)) (mvT hZ (ww hw 61 rfl)) (by decide) (backOf (W := 0) (rm10_3 l Z a0 hw [] b437 ((p6.toInt64).toInt32) B437 k437 (z0.toInt32) (z1.toInt32) (z2.toInt32) h437 n0 Z0 E_b437 F_numbers_b437 V_B437) hZ (ww hw 63 rfl) (ww hw 27 rfl) (by decide) (by decide)) q455a q455c (g := (mkF m 520 (lo0_72 p1 p2 p3 p4 p5 p6 z0 z1 z2 z3 z4 z5 b360 b437) [(.int ((p6.toInt64).toInt32)), (.ref b437)])) rfl (by rw [hml]; rfl) (Steps.refl _) (argsL := [(.int ((p6.toInt64).toInt32))]) (rest := []) (lenOf pd_11 rfl) rfl (by show 2 * 0 + _ ≤ _; exact Nat.le_of_eq rfl) (hb hby at_520) (fun _ _ => ⟨rfl, e441, (by decide : 4 + 0 ≤ _), (by decide : 11 + 0 ≤ _)⟩)
            dsimp only [Pt.U, Pt.locs, Pt.cells, Pt.slots] at X455 l455 y455 z455 st455 hQ455
            subst l455 y455 z455
            obtain ⟨rfl, N455q, e455⟩ := hQ455
            have N455 := Fr.app N441 N455q
            obtain ⟨fs, hr, hrun, hended, hW, hsame⟩ := X455.leave (v := some (.int (1 : Int32))) (fun h => by rw [Bd.returns] at h; cases h)
            refine ⟨_, _, pre454 _ ?_, hrun, hended, _, _, rfl, ?_, ⟨_, rfl⟩, hW, hsame.mono (by decide) (by decide)⟩
            · refine y_istore X441 hx hby at_513 (l' := (lo0_72 p1 p2 p3 p4 p5 p6 z0 z1 z2 z3 z4 z5 b360 b437)) rfl ?_
              refine y_aload X441 hx hby at_515 rfl rfl ?_
              refine y_lload X441 hx hby at_517 rfl ?_
              refine y_l2i X441 hx hby at_519 ?_
              refine st455.trans ?_
              show Steps p.tables e below (T455.setTop (mkF m 523 (lo0_72 p1 p2 p3 p4 p5 p6 z0 z1 z2 z3 z4 z5 b360 b437) [(.int (ct_3 ((p6.toInt64).toInt32) (z0.toInt32) (z1.toInt32) (z2.toInt32)))])) _
              refine y_iload X455 hx hby at_523 rfl ?_
              refine y_icmpNo X455 hx hby at_525 (teq (own_fin3 _ z0 z1 z2 z3 z4 z5 o1 o2 o3 o4 o5 lo hi hp)).2 ?_
              refine y_iconst X455 hx hby (v := (1 : Int32)) at_528 rfl ?_
              refine y_goto X455 hx hby (pc' := 533) at_529 (by decide) (by decide) ?_
              exact retN X455 hx (t := .boolean) Bd.returns (by simp) (hb hby at_533) hr
            · exact ⟨rfl, N455⟩
      · obtain ⟨rfl, hi⟩ := own_fix2 hcnt hc365 hc368
        obtain ⟨cq456, kq456, q456a, q456b, q456c⟩ := isOf hZ e367 E_b360
        obtain ⟨_, _, ⟨T456, L456, k456, n456⟩, -, X456, ⟨Lc456, hQ456, l456, y456, z456⟩, st456⟩ := X367.virtualBack hx (y := mn7) (z := mn7) hown (mvT hZ (ww hw 20 rfl)) (mvT hZ (ww hw 21 rfl)) (notFace_of_selects (args := #[]) (mvT hZ (ww hw 23 rfl))) (mvT hZ (ww hw 23 rfl)) (mvT hZ (ww hw 22 rfl)) (by decide) (backOf (W := 0) (rm4_2 l Z a0 hw [] b360 A361 k361 (z0.toInt32) (z1.toInt32) h367 n0 Z0 E_b360 F_numbers_b360 F_size_b360 E_A361 V_A361 ne_b360_A361) hZ (ww hw 24 rfl) (ww hw 10 rfl) (by decide) (by decide)) q456a q456c (g := (mkF m 267 (lo0_73 p1 p2 p3 p4 p5 p6 z0 z1 z2 z3 z4 z5 b360) [(.ref b360)])) rfl (by rw [hml]; rfl) (Steps.refl _) (argsL := []) (rest := []) (lenOf pd_8 rfl) rfl (by show 2 * 0 + _ ≤ _; exact Nat.le_of_eq rfl) (hb hby at_267) (fun _ _ => ⟨rfl, e367, (by decide : 2 + 2 ≤ _), (by decide : 6 + 4 ≤ _)⟩)
        dsimp only [Pt.U, Pt.locs, Pt.cells, Pt.slots] at X456 l456 y456 z456 st456 hQ456
        subst l456 y456 z456
        obtain ⟨h456, e456⟩ : ∃ z, T456.heap = z := ⟨_, rfl⟩
        rw [e456] at hQ456
        obtain ⟨b456, B456, k456, rfl, N456q, K456, s456, t456, En456, Fn456, Vn456⟩ := hQ456
        have g_b456 : n0 ≤ b456 := Nat.le_trans Z0 s456
        have ne_b360_b456 : b360 ≠ b456 := Nat.ne_of_lt (Nat.lt_of_lt_of_le E_b360.lt s456)
        have ne_A361_b456 : A361 ≠ b456 := Nat.ne_of_lt (Nat.lt_of_lt_of_le V_A361.lt s456)
        replace E_b360 := E_b360.keep K456
        replace F_numbers_b360 := F_numbers_b360.keep K456 nin0
        replace F_size_b360 := F_size_b360.keep K456 nin0
        replace V_A361 := V_A361.keep K456 nin0
        replace E_A361 := E_A361.keep K456
        replace Z0 := Nat.le_trans Z0 K456.1
        have E_b456 : Exa Z h456 b456 "com/example/hard_delay_bounds/harddelaybounds/analysis/FlowSet" := En456
        have F_numbers_b456 : Fld Z h456 b456 "com/example/hard_delay_bounds/harddelaybounds/analysis/FlowSet" "numbers" "[I" (.ref B456) := Fn456
        have V_B456 : Arv Z h456 B456 k456 .int (2 : Int32) [(.int (z0.toInt32)), (.int (z1.toInt32))] (.int (0 : Int32)) := Vn456
        have N456 := Fr.app N367 N456q
        obtain ⟨cq457, kq457, q457a, q457b, q457c⟩ := isOf hZ e456 E_b456
        obtain ⟨_, _, ⟨T457, L457, k457, n457⟩, -, X457, ⟨Lc457, hQ457, l457, y457, z457⟩, st457⟩ := X456.virtualBack hx (y := mn8) (z := mn8) hown (mvT hZ (ww hw 47 rfl)) (mvT hZ (ww hw 48 rfl)) (notFace_of_selects (args := #[]) (mvT hZ (ww hw 50 rfl))) (mvT hZ (ww hw 50 rfl)) (mvT hZ (ww hw 49 rfl)) (by decide) (backOf (W := 0) (rm7_2 l Z a0 hw [] b456 B456 k456 (z0.toInt32) (z1.toInt32) h456 n0 Z0 F_numbers_b456 V_B456) hZ (ww hw 51 rfl) (ww hw 27 rfl) (by decide) (by decide)) q457a q457c (g := (mkF m 274 (lo0_74 p1 p2 p3 p4 p5 p6 z0 z1 z2 z3 z4 z5 b360 b456) [(.ref b456)])) rfl (by rw [hml]; rfl) (Steps.refl _) (argsL := []) (rest := []) (lenOf pd_9 rfl) rfl (by show 2 * 0 + _ ≤ _; exact Nat.le_of_eq rfl) (hb hby at_274) (fun _ _ => ⟨rfl, e456, (by decide : 4 + 0 ≤ _), (by decide : 10 + 0 ≤ _)⟩)
        dsimp only [Pt.U, Pt.locs, Pt.cells, Pt.slots] at X457 l457 y457 z457 st457 hQ457
        subst l457 y457 z457
        obtain ⟨rfl, N457q, e457⟩ := hQ457
        have N457 := Fr.app N456 N457q
        obtain ⟨_, _, ⟨T458, L458, k458, n458⟩, -, X458, ⟨Lc458, hQ458, l458, y458, z458⟩, st458⟩ := Jvm.LawKit.callS X457 hx (y := mn2) hown (mvT hZ (ww hw 52 rfl)) (mvT hZ (ww hw 53 rfl)) (mvT hZ (ww hw 6 rfl)) (mvT hZ (ww hw 54 rfl)) (by decide) (backOf (W := 0) (rm8 l Z a0 hw [] (2 : Int32) (1 : Int32) h456 n0 Z0) hZ (ww hw 54 rfl) (ww hw 6 rfl) (by decide) (by decide)) (g := (mkF m 287 (lo0_74 p1 p2 p3 p4 p5 p6 z0 z1 z2 z3 z4 z5 b360 b456) [(.int (1 : Int32)), (.int (2 : Int32))])) rfl (by rw [hml]; rfl) (argsL := [(.int (2 : Int32)), (.int (1 : Int32))]) (rest := []) (lenOf pd_0 rfl) rfl (by show 2 * 0 + _ ≤ _; exact Nat.le_of_eq rfl) (hb hby at_287) (fun _ _ => ⟨rfl, e457, (by decide : 4 + 0 ≤ _), (by decide : 10 + 0 ≤ _)⟩)
        dsimp only [Pt.U, Pt.locs, Pt.cells, Pt.slots] at X458 l458 y458 z458 st458 hQ458
        subst l458 y458 z458
        obtain ⟨rfl, N458q, e458⟩ := hQ458
        rw [show f8 (2 : Int32) (1 : Int32) = (2 : Int32) from by decide] at st458
        have N458 := Fr.app N457 N458q
        obtain ⟨_, _, ⟨T459, L459, k459, n459⟩, -, X459, ⟨Lc459, hQ459, l459, y459, z459⟩, st459⟩ := Jvm.LawKit.callS X458 hx (y := mn1) hown (mvT hZ (ww hw 55 rfl)) (mvT hZ (ww hw 56 rfl)) (mvT hZ (ww hw 57 rfl)) (mvT hZ (ww hw 58 rfl)) (by decide) (backOf (W := 0) (rm9 l Z a0 hw [] ((((p1.toUInt32 >>> ((8 : Int32) &&& 31).toUInt32).toInt32) &&& (255 : Int32)) % (2 : Int32)) z0 z1 z2 z3 z4 z5 h456 n0 Z0) hZ (ww hw 58 rfl) (ww hw 57 rfl) (by decide) (by decide)) (g := (mkF m 324 (lo0_76 p1 p2 p3 p4 p5 p6 z0 z1 z2 z3 z4 z5 b360 b456) [(.long z5), (.long z4), (.long z3), (.long z2), (.long z1), (.long z0), (.int ((((p1.toUInt32 >>> ((8 : Int32) &&& 31).toUInt32).toInt32) &&& (255 : Int32)) % (2 : Int32)))])) rfl (by rw [hml]; rfl) (argsL := [(.int ((((p1.toUInt32 >>> ((8 : Int32) &&& 31).toUInt32).toInt32) &&& (255 : Int32)) % (2 : Int32))), (.long z0), (.long z1), (.long z2), (.long z3), (.long z4), (.long z5)]) (rest := []) (lenOf pd_10 rfl) rfl (by show 2 * 0 + _ ≤ _; exact Nat.le_of_eq rfl) (hb hby at_324) (fun _ _ => ⟨rfl, e458, (by decide : 4 + 0 ≤ _), (by decide : 10 + 0 ≤ _)⟩)
        dsimp only [Pt.U, Pt.locs, Pt.cells, Pt.slots] at X459 l459 y459 z459 st459 hQ459
        subst l459 y459 z459
        obtain ⟨rfl, N459q, e459⟩ := hQ459
        have N459 := Fr.app N458 N459q
        have ng := own_nuget_2 (p2 := ((((p1.toUInt32 >>> ((8 : Int32) &&& 31).toUInt32).toInt32) &&& (255 : Int32)) % (2 : Int32))) (x0 := (z0.toInt32)) (x1 := (z1.toInt32)) (own_rem2 _ (own_and _))
        obtain ⟨cq460, kq460, q460a, q460b, q460c⟩ := isOf hZ e459 E_b456
        obtain ⟨_, _, ⟨T460, L460, k460, n460⟩, -, X460, ⟨Lc460, hQ460, l460, y460, z460⟩, st460⟩ := X459.virtualBack hx (y := mn13) (z := mn13) hown (mvT hZ (ww hw 90 rfl)) (mvT hZ (ww hw 91 rfl)) (notFace_of_selects (args := #[]) (mvT hZ (ww hw 93 rfl))) (mvT hZ (ww hw 93 rfl)) (mvT hZ (ww hw 92 rfl)) (by decide) (backOf (W := 0) (rm15_any l Z a0 hw [] b456 ((((p1.toUInt32 >>> ((8 : Int32) &&& 31).toUInt32).toInt32) &&& (255 : Int32)) % (2 : Int32)) B456 k456 _ _ _ h456 n0 Z0 ng.1 ng.2.1 ng.2.2 F_numbers_b456 V_B456) hZ (ww hw 94 rfl) (ww hw 27 rfl) (by decide) (by decide)) q460a q460c (g := (mkF m 333 (lo0_77 p1 p2 p3 p4 p5 p6 z0 z1 z2 z3 z4 z5 b360 b456) [(.int ((((p1.toUInt32 >>> ((8 : Int32) &&& 31).toUInt32).toInt32) &&& (255 : Int32)) % (2 : Int32))), (.ref b456)])) rfl (by rw [hml]; rfl) (Steps.refl _) (argsL := [(.int ((((p1.toUInt32 >>> ((8 : Int32) &&& 31).toUInt32).toInt32) &&& (255 : Int32)) % (2 : Int32)))]) (rest := []) (lenOf pd_5 rfl) rfl (by show 2 * 0 + _ ≤ _; exact Nat.le_of_eq rfl) (hb hby at_333) (fun _ _ => ⟨rfl, e459, (by decide : 4 + 0 ≤ _), (by decide : 10 + 0 ≤ _)⟩)
        dsimp only [Pt.U, Pt.locs, Pt.cells, Pt.slots] at X460 l460 y460 z460 st460 hQ460
        subst l460 y460 z460
        obtain ⟨rfl, N460q, e460⟩ := hQ460
        have N460 := Fr.app N459 N460q
        have pre462 : GO p e below (T460.setTop (mkF m 348 (lo0_77 p1 p2 p3 p4 p5 p6 z0 z1 z2 z3 z4 z5 b360 b456) [(.int (p6 &&& (4 : Int32)))])) (s₁.setTop (entryFrame m #[(.int p1), (.int p2), (.int p3), (.int p4), (.int p5), (.int p6)] maxLocals)) := fun t k => by
          refine pre369 _ ?_
          refine y_icmpYes X367 hx hby (pc' := 220) at_208 (flt hc368).2.2.2 (by decide) (by decide) ?_
          refine y_iload X367 hx hby at_220 rfl ?_
          refine y_iconst X367 hx hby (v := (3 : Int32)) at_222 rfl ?_
          refine y_icmpYes X367 hx hby (pc' := 235) at_223 (flt (by decide)).2.2.2 (by decide) (by decide) ?_
          refine y_iload X367 hx hby at_235 rfl ?_
          refine y_iconst X367 hx hby (v := (4 : Int32)) at_237 rfl ?_
          refine y_icmpYes X367 hx hby (pc' := 250) at_238 (flt (by decide)).2.2.2 (by decide) (by decide) ?_
          refine y_iload X367 hx hby at_250 rfl ?_
          refine y_iconst X367 hx hby (v := (5 : Int32)) at_252 rfl ?_
          refine y_icmpYes X367 hx hby (pc' := 265) at_253 (flt (by decide)).2.2.2 (by decide) (by decide) ?_
          refine y_aload X367 hx hby at_265 rfl rfl ?_
          refine st456.trans ?_
          show Steps p.tables e below (T456.setTop (mkF m 270 (lo0_73 p1 p2 p3 p4 p5 p6 z0 z1 z2 z3 z4 z5 b360) [(.ref b456)])) _
          refine y_astore X456 hx hby at_270 rfl (l' := (lo0_74 p1 p2 p3 p4 p5 p6 z0 z1 z2 z3 z4 z5 b360 b456)) rfl ?_
          refine y_aload X456 hx hby at_272 rfl rfl ?_
          refine st457.trans ?_
          show Steps p.tables e below (T457.setTop (mkF m 277 (lo0_74 p1 p2 p3 p4 p5 p6 z0 z1 z2 z3 z4 z5 b360 b456) [(.int (2 : Int32))])) _
          refine y_iload X457 hx hby at_277 rfl ?_
          refine y_icmpYes X457 hx hby (pc' := 284) at_279 (teq rfl).1 (by decide) (by decide) ?_
          refine y_iload X457 hx hby at_284 rfl ?_
          refine y_iconst X457 hx hby (v := (1 : Int32)) at_286 rfl ?_
          refine st458 _ ?_
          show Steps p.tables e below (T458.setTop (mkF m 290 (lo0_74 p1 p2 p3 p4 p5 p6 z0 z1 z2 z3 z4 z5 b360 b456) [(.int (2 : Int32))])) _
          refine y_istore X458 hx hby at_290 (l' := (lo0_75 p1 p2 p3 p4 p5 p6 z0 z1 z2 z3 z4 z5 b360 b456)) rfl ?_
          refine y_iloadN X458 hx hby at_292 rfl ?_
          refine y_bipush X458 hx hby (v := (8 : Int32)) at_293 rfl ?_
          refine y_iushr X458 hx hby at_295 ?_
          refine y_sipush X458 hx hby (v := (255 : Int32)) at_296 rfl ?_
          refine y_iand X458 hx hby at_299 ?_
          refine y_iload X458 hx hby at_300 rfl ?_
          refine Jvm.RoadKit.iremM X458 hx rfl (hb hby at_302) rfl (by decide) ?_
          show Steps p.tables e below (T458.setTop (mkF m 303 (lo0_75 p1 p2 p3 p4 p5 p6 z0 z1 z2 z3 z4 z5 b360 b456) [(.int ((((p1.toUInt32 >>> ((8 : Int32) &&& 31).toUInt32).toInt32) &&& (255 : Int32)) % (2 : Int32)))])) _
          refine y_istore X458 hx hby at_303 (l' := (lo0_76 p1 p2 p3 p4 p5 p6 z0 z1 z2 z3 z4 z5 b360 b456)) rfl ?_
          refine y_iload X458 hx hby at_305 rfl ?_
          refine y_ifNo X458 hx hby at_307 ((if0 _ _).trans (tlt (by decide)).2.2.2) ?_
          refine y_iload X458 hx hby at_310 rfl ?_
          refine y_lload X458 hx hby at_312 rfl ?_
          refine y_lload X458 hx hby at_314 rfl ?_
          refine y_lload X458 hx hby at_316 rfl ?_
          refine y_lload X458 hx hby at_318 rfl ?_
          refine y_lload X458 hx hby at_320 rfl ?_
          refine y_lload X458 hx hby at_322 rfl ?_
          refine st459 _ ?_
          show Steps p.tables e below (T459.setTop (mkF m 327 (lo0_76 p1 p2 p3 p4 p5 p6 z0 z1 z2 z3 z4 z5 b360 b456) [(.long (f9 ((((p1.toUInt32 >>> ((8 : Int32) &&& 31).toUInt32).toInt32) &&& (255 : Int32)) % (2 : Int32)) z0 z1 z2 z3 z4 z5))])) _
          refine y_lstore X459 hx hby at_327 (l' := (lo0_77 p1 p2 p3 p4 p5 p6 z0 z1 z2 z3 z4 z5 b360 b456)) rfl ?_
          refine y_aload X459 hx hby at_329 rfl rfl ?_
          refine y_iload X459 hx hby at_331 rfl ?_
          refine st460.trans ?_
          show Steps p.tables e below (T460.setTop (mkF m 336 (lo0_77 p1 p2 p3 p4 p5 p6 z0 z1 z2 z3 z4 z5 b360 b456) [(.int (nu_2 ((((p1.toUInt32 >>> ((8 : Int32) &&& 31).toUInt32).toInt32) &&& (255 : Int32)) % (2 : Int32)) (z0.toInt32) (z1.toInt32)))])) _
          refine y_lload X460 hx hby at_336 rfl ?_
          refine y_l2i X460 hx hby at_338 ?_
          refine y_icmpYes X460 hx hby (pc' := 344) at_339 (teq (own_nup2 _ z0 z1 z2 z3 z4 z5 (own_rem2 _ (own_and _)))).1 (by decide) (by decide) ?_
          refine y_iload X460 hx hby at_344 rfl ?_
          refine y_iconst X460 hx hby (v := (4 : Int32)) at_346 rfl ?_
          refine y_iand X460 hx hby at_347 ?_
          exact k
        by_cases hc461 : (p6 &&& (4 : Int32)) = (0 : Int32)
        · obtain ⟨_, _, ⟨T463, L463, k463, n463⟩, -, X463, ⟨Lc463, hQ463, l463, y463, z463⟩, st463⟩ := Jvm.LawKit.callS X460 hx (y := mn1) hown (mvT hZ (ww hw 55 rfl)) (mvT hZ (ww hw 56 rfl)) (mvT hZ (ww hw 57 rfl)) (mvT hZ (ww hw 58 rfl)) (by decide) (backOf (W := 0) (rm9 l Z a0 hw [] ((((p6.toUInt32 >>> ((3 : Int32) &&& 31).toUInt32).toInt32) &&& (255 : Int32)) % (2 : Int32)) z0 z1 z2 z3 z4 z5 h456 n0 Z0) hZ (ww hw 58 rfl) (ww hw 57 rfl) (by decide) (by decide)) (g := (mkF m 386 (lo0_78 p1 p2 p3 p4 p5 p6 z0 z1 z2 z3 z4 z5 b360 b456) [(.long z5), (.long z4), (.long z3), (.long z2), (.long z1), (.long z0), (.int ((((p6.toUInt32 >>> ((3 : Int32) &&& 31).toUInt32).toInt32) &&& (255 : Int32)) % (2 : Int32)))])) rfl (by rw [hml]; rfl) (argsL := [(.int ((((p6.toUInt32 >>> ((3 : Int32) &&& 31).toUInt32).toInt32) &&& (255 : Int32)) % (2 : Int32))), (.long z0), (.long z1), (.long z2), (.long z3), (.long z4), (.long z5)]) (rest := []) (lenOf pd_10 rfl) rfl (by show 2 * 0 + _ ≤ _; exact Nat.le_of_eq rfl) (hb hby at_386) (fun _ _ => ⟨rfl, e460, (by decide : 4 + 0 ≤ _), (by decide : 10 + 0 ≤ _)⟩)
          dsimp only [Pt.U, Pt.locs, Pt.cells, Pt.slots] at X463 l463 y463 z463 st463 hQ463
          subst l463 y463 z463
          obtain ⟨rfl, N463q, e463⟩ := hQ463
          have N463 := Fr.app N460 N463q
          have pre465 : GO p e below (T463.setTop (mkF m 410 (lo0_80 p1 p2 p3 p4 p5 p6 z0 z1 z2 z3 z4 z5 b360 b456) [(.int (lcmpW (((f9 ((((p6.toUInt32 >>> ((3 : Int32) &&& 31).toUInt32).toInt32) &&& (255 : Int32)) % (2 : Int32)) z0 z1 z2 z3 z4 z5) + (((p6 &&& (3 : Int32)) % (3 : Int32)).toInt64)) - (1 : Int64)) (2147483647 : Int64)))])) (s₁.setTop (entryFrame m #[(.int p1), (.int p2), (.int p3), (.int p4), (.int p5), (.int p6)] maxLocals)) := fun t k => by
            refine pre462 _ ?_
            refine y_ifYes X460 hx hby (pc' := 359) at_348 ((if0 _ _).trans (teq hc461).1) (by decide) (by decide) ?_
            refine y_iload X460 hx hby at_359 rfl ?_
            refine y_iconst X460 hx hby (v := (3 : Int32)) at_361 rfl ?_
            refine y_iushr X460 hx hby at_362 ?_
            refine y_sipush X460 hx hby (v := (255 : Int32)) at_363 rfl ?_
            refine y_iand X460 hx hby at_366 ?_
            refine y_iload X460 hx hby at_367 rfl ?_
            refine Jvm.RoadKit.iremM X460 hx rfl (hb hby at_369) rfl (by decide) ?_
            show Steps p.tables e below (T460.setTop (mkF m 370 (lo0_77 p1 p2 p3 p4 p5 p6 z0 z1 z2 z3 z4 z5 b360 b456) [(.int ((((p6.toUInt32 >>> ((3 : Int32) &&& 31).toUInt32).toInt32) &&& (255 : Int32)) % (2 : Int32)))])) _
            refine y_istore X460 hx hby at_370 (l' := (lo0_78 p1 p2 p3 p4 p5 p6 z0 z1 z2 z3 z4 z5 b360 b456)) rfl ?_
            refine y_iload X460 hx hby at_372 rfl ?_
            refine y_lload X460 hx hby at_374 rfl ?_
            refine y_lload X460 hx hby at_376 rfl ?_
            refine y_lload X460 hx hby at_378 rfl ?_
            refine y_lload X460 hx hby at_380 rfl ?_
            refine y_lload X460 hx hby at_382 rfl ?_
            refine y_lload X460 hx hby at_384 rfl ?_
            refine st463 _ ?_
            show Steps p.tables e below (T463.setTop (mkF m 389 (lo0_78 p1 p2 p3 p4 p5 p6 z0 z1 z2 z3 z4 z5 b360 b456) [(.long (f9 ((((p6.toUInt32 >>> ((3 : Int32) &&& 31).toUInt32).toInt32) &&& (255 : Int32)) % (2 : Int32)) z0 z1 z2 z3 z4 z5))])) _
            refine y_lstore X463 hx hby at_389 (l' := (lo0_79 p1 p2 p3 p4 p5 p6 z0 z1 z2 z3 z4 z5 b360 b456)) rfl ?_
            refine y_lload X463 hx hby at_391 rfl ?_
            refine y_iload X463 hx hby at_393 rfl ?_
            refine y_iconst X463 hx hby (v := (3 : Int32)) at_395 rfl ?_
            refine y_iand X463 hx hby at_396 ?_
            refine y_iconst X463 hx hby (v := (3 : Int32)) at_397 rfl ?_
            refine Jvm.RoadKit.iremM X463 hx rfl (hb hby at_398) rfl (by decide) ?_
            show Steps p.tables e below (T463.setTop (mkF m 399 (lo0_79 p1 p2 p3 p4 p5 p6 z0 z1 z2 z3 z4 z5 b360 b456) [(.int ((p6 &&& (3 : Int32)) % (3 : Int32))), (.long (f9 ((((p6.toUInt32 >>> ((3 : Int32) &&& 31).toUInt32).toInt32) &&& (255 : Int32)) % (2 : Int32)) z0 z1 z2 z3 z4 z5))])) _
            refine y_i2l X463 hx hby at_399 ?_
            refine y_ladd X463 hx hby at_400 ?_
            refine y_lconst X463 hx hby (v := (1 : Int64)) at_401 rfl ?_
            refine y_lsub X463 hx hby at_402 ?_
            refine y_lstore X463 hx hby at_403 (l' := (lo0_80 p1 p2 p3 p4 p5 p6 z0 z1 z2 z3 z4 z5 b360 b456)) rfl ?_
            refine y_lload X463 hx hby at_405 rfl ?_
            refine y_lload X463 hx hby at_407 rfl ?_
            refine y_lcmp X463 hx hby at_409 ?_
            exact k
          obtain ⟨T469, L469, X469, N469, e469, pre469⟩ : ∃ T' L', Stand p l e room_1 s m #[(.int p1), (.int p2), (.int p3), (.int p4), (.int p5), (.int p6)] below meth c T' L' 4 10 ∧ Fr n0 L' ∧ T'.heap = h456 ∧ ∀ t, Steps p.tables e below (T'.setTop (mkF m 425 #[.val (.int p1), .val (.int p2), .val (.int p3), .val (.int p4), .val (.int p5), .val (.int p6), .val (.long (2147483647 : Int64)), .second, .val (.long (-2147483648 : Int64)), .second, .val (.long z0), .second, .val (.long z1), .second, .val (.long z2), .second, .val (.long z3), .second, .val (.long z4), .second, .val (.long z5), .second, .val (.int (mg0_80a p1 p2 p3 p4 p5 p6 z1 z2 z3 z4 z5)), .val (.int ((p1 &&& (2147483647 : Int32)) % (7 : Int32))), .val (.int (2 : Int32)), .val (.ref b360), .val (.ref b456), .val (.int (2 : Int32)), .val (.int ((((p1.toUInt32 >>> ((8 : Int32) &&& 31).toUInt32).toInt32) &&& (255 : Int32)) % (2 : Int32))), .val (.long (mg0_410e p1 p2 p3 p4 p5 p6 z0 z1 z2 z3 z4 z5)), .second, .val (.int ((((p6.toUInt32 >>> ((3 : Int32) &&& 31).toUInt32).toInt32) &&& (255 : Int32)) % (2 : Int32))), .val (.long (f9 ((((p6.toUInt32 >>> ((3 : Int32) &&& 31).toUInt32).toInt32) &&& (255 : Int32)) % (2 : Int32)) z0 z1 z2 z3 z4 z5)), .second] [])) t → Steps p.tables e below (s₁.setTop (entryFrame m #[(.int p1), (.int p2), (.int p3), (.int p4), (.int p5), (.int p6)] maxLocals)) t := by
            by_cases hc464 : (2147483647 : Int64) < (((f9 ((((p6.toUInt32 >>> ((3 : Int32) &&& 31).toUInt32).toInt32) &&& (255 : Int32)) % (2 : Int32)) z0 z1 z2 z3 z4 z5) + (((p6 &&& (3 : Int32)) % (3 : Int32)).toInt64)) - (1 : Int64))
            · rw [show mg0_410e p1 p2 p3 p4 p5 p6 z0 z1 z2 z3 z4 z5 = (f9 ((((p6.toUInt32 >>> ((3 : Int32) &&& 31).toUInt32).toInt32) &&& (255 : Int32)) % (2 : Int32)) z0 z1 z2 z3 z4 z5) from if_pos hc464]
              refine ⟨T463, _, X463, N463, e463, fun t k => ?_⟩
              refine pre465 _ ?_
              refine y_ifYes X463 hx hby (pc' := 421) at_410 ((if0 _ _).trans (tlt ((lw_gt (((f9 ((((p6.toUInt32 >>> ((3 : Int32) &&& 31).toUInt32).toInt32) &&& (255 : Int32)) % (2 : Int32)) z0 z1 z2 z3 z4 z5) + (((p6 &&& (3 : Int32)) % (3 : Int32)).toInt64)) - (1 : Int64)) (2147483647 : Int64)).mpr hc464)).2.2.1) (by decide) (by decide) ?_
              refine y_lload X463 hx hby at_421 rfl ?_
              refine y_lstore X463 hx hby at_423 (l' := (lo0_81 p1 p2 p3 p4 p5 p6 z0 z1 z2 z3 z4 z5 b360 b456)) rfl ?_
              exact k
            · rw [show mg0_410e p1 p2 p3 p4 p5 p6 z0 z1 z2 z3 z4 z5 = (mg0_418e p1 p2 p3 p4 p5 p6 z0 z1 z2 z3 z4 z5) from if_neg hc464]
              have pre467 : GO p e below (T463.setTop (mkF m 418 (lo0_80 p1 p2 p3 p4 p5 p6 z0 z1 z2 z3 z4 z5 b360 b456) [(.int (lcmpW (((f9 ((((p6.toUInt32 >>> ((3 : Int32) &&& 31).toUInt32).toInt32) &&& (255 : Int32)) % (2 : Int32)) z0 z1 z2 z3 z4 z5) + (((p6 &&& (3 : Int32)) % (3 : Int32)).toInt64)) - (1 : Int64)) (-2147483648 : Int64)))])) (s₁.setTop (entryFrame m #[(.int p1), (.int p2), (.int p3), (.int p4), (.int p5), (.int p6)] maxLocals)) := fun t k => by
                refine pre465 _ ?_
                refine y_ifNo X463 hx hby at_410 ((if0 _ _).trans (flt (fun q => hc464 ((lw_gt (((f9 ((((p6.toUInt32 >>> ((3 : Int32) &&& 31).toUInt32).toInt32) &&& (255 : Int32)) % (2 : Int32)) z0 z1 z2 z3 z4 z5) + (((p6 &&& (3 : Int32)) % (3 : Int32)).toInt64)) - (1 : Int64)) (2147483647 : Int64)).mp q))).2.2.1) ?_
                refine y_lload X463 hx hby at_413 rfl ?_
                refine y_lload X463 hx hby at_415 rfl ?_
                refine y_lcmp X463 hx hby at_417 ?_
                exact k
              obtain ⟨T468, L468, X468, N468, e468, pre468⟩ : ∃ T' L', Stand p l e room_1 s m #[(.int p1), (.int p2), (.int p3), (.int p4), (.int p5), (.int p6)] below meth c T' L' 4 10 ∧ Fr n0 L' ∧ T'.heap = h456 ∧ ∀ t, Steps p.tables e below (T'.setTop (mkF m 425 #[.val (.int p1), .val (.int p2), .val (.int p3), .val (.int p4), .val (.int p5), .val (.int p6), .val (.long (2147483647 : Int64)), .second, .val (.long (-2147483648 : Int64)), .second, .val (.long z0), .second, .val (.long z1), .second, .val (.long z2), .second, .val (.long z3), .second, .val (.long z4), .second, .val (.long z5), .second, .val (.int (mg0_80a p1 p2 p3 p4 p5 p6 z1 z2 z3 z4 z5)), .val (.int ((p1 &&& (2147483647 : Int32)) % (7 : Int32))), .val (.int (2 : Int32)), .val (.ref b360), .val (.ref b456), .val (.int (2 : Int32)), .val (.int ((((p1.toUInt32 >>> ((8 : Int32) &&& 31).toUInt32).toInt32) &&& (255 : Int32)) % (2 : Int32))), .val (.long (mg0_418e p1 p2 p3 p4 p5 p6 z0 z1 z2 z3 z4 z5)), .second, .val (.int ((((p6.toUInt32 >>> ((3 : Int32) &&& 31).toUInt32).toInt32) &&& (255 : Int32)) % (2 : Int32))), .val (.long (f9 ((((p6.toUInt32 >>> ((3 : Int32) &&& 31).toUInt32).toInt32) &&& (255 : Int32)) % (2 : Int32)) z0 z1 z2 z3 z4 z5)), .second] [])) t → Steps p.tables e below (s₁.setTop (entryFrame m #[(.int p1), (.int p2), (.int p3), (.int p4), (.int p5), (.int p6)] maxLocals)) t := by
                by_cases hc466 : (((f9 ((((p6.toUInt32 >>> ((3 : Int32) &&& 31).toUInt32).toInt32) &&& (255 : Int32)) % (2 : Int32)) z0 z1 z2 z3 z4 z5) + (((p6 &&& (3 : Int32)) % (3 : Int32)).toInt64)) - (1 : Int64)) < (-2147483648 : Int64)
                · rw [show mg0_418e p1 p2 p3 p4 p5 p6 z0 z1 z2 z3 z4 z5 = (f9 ((((p6.toUInt32 >>> ((3 : Int32) &&& 31).toUInt32).toInt32) &&& (255 : Int32)) % (2 : Int32)) z0 z1 z2 z3 z4 z5) from if_pos hc466]
                  refine ⟨T463, _, X463, N463, e463, fun t k => ?_⟩
                  refine pre467 _ ?_
                  refine y_ifNo X463 hx hby at_418 ((if0 _ _).trans (tlt ((lw_lt (((f9 ((((p6.toUInt32 >>> ((3 : Int32) &&& 31).toUInt32).toInt32) &&& (255 : Int32)) % (2 : Int32)) z0 z1 z2 z3 z4 z5) + (((p6 &&& (3 : Int32)) % (3 : Int32)).toInt64)) - (1 : Int64)) (-2147483648 : Int64)).mpr hc466)).2.1) ?_
                  refine y_lload X463 hx hby at_421 rfl ?_
                  refine y_lstore X463 hx hby at_423 (l' := (lo0_81 p1 p2 p3 p4 p5 p6 z0 z1 z2 z3 z4 z5 b360 b456)) rfl ?_
                  exact k
                · rw [show mg0_418e p1 p2 p3 p4 p5 p6 z0 z1 z2 z3 z4 z5 = (((f9 ((((p6.toUInt32 >>> ((3 : Int32) &&& 31).toUInt32).toInt32) &&& (255 : Int32)) % (2 : Int32)) z0 z1 z2 z3 z4 z5) + (((p6 &&& (3 : Int32)) % (3 : Int32)).toInt64)) - (1 : Int64)) from if_neg hc466]
                  refine ⟨T463, _, X463, N463, e463, fun t k => ?_⟩
                  refine pre467 _ ?_
                  refine y_ifYes X463 hx hby (pc' := 425) at_418 ((if0 _ _).trans (flt (fun q => hc466 ((lw_lt (((f9 ((((p6.toUInt32 >>> ((3 : Int32) &&& 31).toUInt32).toInt32) &&& (255 : Int32)) % (2 : Int32)) z0 z1 z2 z3 z4 z5) + (((p6 &&& (3 : Int32)) % (3 : Int32)).toInt64)) - (1 : Int64)) (-2147483648 : Int64)).mp q))).2.1) (by decide) (by decide) ?_
                  exact k
              refine ⟨T468, _, X468, N468, e468, fun t k => ?_⟩
              refine pre468 _ ?_
              exact k
          have hp := own_rg4 p1 p2 p3 p4 p5 p6 z0 z1 z2 z3 z4 z5 o1 o2 o3 o4 o5 lo hi
          have pre470 : GO p e below (T469.setTop (mkF m 513 (lo0_82 p1 p2 p3 p4 p5 p6 z0 z1 z2 z3 z4 z5 b360 b456) [(.int (ex0 (2 : Int32) (mg0_410e p1 p2 p3 p4 p5 p6 z0 z1 z2 z3 z4 z5) z0 z1 z2 z3 z4 z5))])) (s₁.setTop (entryFrame m #[(.int p1), (.int p2), (.int p3), (.int p4), (.int p5), (.int p6)] maxLocals)) := fun t k => pre469 _ (own_ex0 X469 hx hby rfl rfl rfl rfl rfl rfl rfl rfl k)
          obtain ⟨cq471, kq471, q471a, q471b, q471c⟩ := isOf hZ e469 E_b456
          obtain ⟨_, _, ⟨T471, L471, k471, n471⟩, -, X471, ⟨Lc471, hQ471, l471, y471, z471⟩, st471⟩ := X469.virtualBack hx (y := mn12) (z := mn12) hown (mvT hZ (ww hw 59 rfl)) (mvT hZ (ww hw 60 rfl)) (notFace_of_selects (args := #[]) (mvT hZ (ww hw 62 rfl))) (mvT hZ (ww hw 62 rfl)) (mvT hZ (ww hw 61 rfl)) (by decide) (backOf (W := 0) (rm10_2 l Z a0 hw [] b456 ((mg0_410e p1 p2 p3 p4 p5 p6 z0 z1 z2 z3 z4 z5).toInt32) B456 k456 (z0.toInt32) (z1.toInt32) h456 n0 Z0 E_b456 F_numbers_b456 V_B456) hZ (ww hw 63 rfl) (ww hw 27 rfl) (by decide) (by decide)) q471a q471c (g := (mkF m 520 (lo0_83 p1 p2 p3 p4 p5 p6 z0 z1 z2 z3 z4 z5 b360 b456) [(.int ((mg0_410e p1 p2 p3 p4 p5 p6 z0 z1 z2 z3 z4 z5).toInt32)), (.ref b456)])) rfl (by rw [hml]; rfl) (Steps.refl _) (argsL := [(.int ((mg0_410e p1 p2 p3 p4 p5 p6 z0 z1 z2 z3 z4 z5).toInt32))]) (rest := []) (lenOf pd_11 rfl) rfl (by show 2 * 0 + _ ≤ _; exact Nat.le_of_eq rfl) (hb hby at_520) (fun _ _ => ⟨rfl, e469, (by decide : 4 + 0 ≤ _), (by decide : 10 + 0 ≤ _)⟩)
          dsimp only [Pt.U, Pt.locs, Pt.cells, Pt.slots] at X471 l471 y471 z471 st471 hQ471
          subst l471 y471 z471
          obtain ⟨rfl, N471q, e471⟩ := hQ471
          have N471 := Fr.app N469 N471q
          obtain ⟨fs, hr, hrun, hended, hW, hsame⟩ := X471.leave (v := some (.int (1 : Int32))) (fun h => by rw [Bd.returns] at h; cases h)
          refine ⟨_, _, pre470 _ ?_, hrun, hended, _, _, rfl, ?_, ⟨_, rfl⟩, hW, hsame.mono (by decide) (by decide)⟩
          · refine y_istore X469 hx hby at_513 (l' := (lo0_83 p1 p2 p3 p4 p5 p6 z0 z1 z2 z3 z4 z5 b360 b456)) rfl ?_
            refine y_aload X469 hx hby at_515 rfl rfl ?_
            refine y_lload X469 hx hby at_517 rfl ?_
            refine y_l2i X469 hx hby at_519 ?_
            refine st471.trans ?_
            show Steps p.tables e below (T471.setTop (mkF m 523 (lo0_83 p1 p2 p3 p4 p5 p6 z0 z1 z2 z3 z4 z5 b360 b456) [(.int (ct_2 ((mg0_410e p1 p2 p3 p4 p5 p6 z0 z1 z2 z3 z4 z5).toInt32) (z0.toInt32) (z1.toInt32)))])) _
            refine y_iload X471 hx hby at_523 rfl ?_
            refine y_icmpNo X471 hx hby at_525 (teq (own_fin2 _ z0 z1 z2 z3 z4 z5 o1 o2 o3 o4 o5 lo hi hp)).2 ?_
            refine y_iconst X471 hx hby (v := (1 : Int32)) at_528 rfl ?_
            refine y_goto X471 hx hby (pc' := 533) at_529 (by decide) (by decide) ?_
            exact retN X471 hx (t := .boolean) Bd.returns (by simp) (hb hby at_533) hr
          · exact ⟨rfl, N471⟩
        · have pre472 : GO p e below (T460.setTop (mkF m 425 (lo0_84 p1 p2 p3 p4 p5 p6 z0 z1 z2 z3 z4 z5 b360 b456) [])) (s₁.setTop (entryFrame m #[(.int p1), (.int p2), (.int p3), (.int p4), (.int p5), (.int p6)] maxLocals)) := fun t k => by
            refine pre462 _ ?_
            refine y_ifNo X460 hx hby at_348 ((if0 _ _).trans (feq hc461).1) ?_
            refine y_iload X460 hx hby at_351 rfl ?_
            refine y_i2l X460 hx hby at_353 ?_
            refine y_lstore X460 hx hby at_354 (l' := (lo0_84 p1 p2 p3 p4 p5 p6 z0 z1 z2 z3 z4 z5 b360 b456)) rfl ?_
            refine y_goto X460 hx hby (pc' := 425) at_356 (by decide) (by decide) ?_
            exact k
          have hp : -2147483648 ≤ ((p6.toInt64)).toInt ∧ ((p6.toInt64)).toInt ≤ 2147483647 := by rw [c_i2l]; have := rng32 p6; omega
          have pre473 : GO p e below (T460.setTop (mkF m 513 (lo0_84 p1 p2 p3 p4 p5 p6 z0 z1 z2 z3 z4 z5 b360 b456) [(.int (ex0 (2 : Int32) (p6.toInt64) z0 z1 z2 z3 z4 z5))])) (s₁.setTop (entryFrame m #[(.int p1), (.int p2), (.int p3), (.int p4), (.int p5), (.int p6)] maxLocals)) := fun t k => pre472 _ (own_ex0 X460 hx hby rfl rfl rfl rfl rfl rfl rfl rfl k)
          obtain ⟨cq474, kq474, q474a, q474b, q474c⟩ := isOf hZ e460 E_b456
          obtain ⟨_, _, ⟨T474, L474, k474, n474⟩, -, X474, ⟨Lc474, hQ474, l474, y474, z474⟩, st474⟩ := X460.virtualBack hx (y := mn12) (z := mn12) hown (mvT hZ (ww hw 59 rfl)) (mvT hZ (ww hw 60 rfl)) (notFace_of_selects (args := #[]) (mvT hZ (ww hw 62 rfl))) (mvT hZ (ww hw 62 rfl)) (mvT hZ (ww hw 61 rfl)) (by decide) (backOf (W := 0) (rm10_2 l Z a0 hw [] b456 ((p6.toInt64).toInt32) B456 k456 (z0.toInt32) (z1.toInt32) h456 n0 Z0 E_b456 F_numbers_b456 V_B456) hZ (ww hw 63 rfl) (ww hw 27 rfl) (by decide) (by decide)) q474a q474c (g := (mkF m 520 (lo0_85 p1 p2 p3 p4 p5 p6 z0 z1 z2 z3 z4 z5 b360 b456) [(.int ((p6.toInt64).toInt32)), (.ref b456)])) rfl (by rw [hml]; rfl) (Steps.refl _) (argsL := [(.int ((p6.toInt64).toInt32))]) (rest := []) (lenOf pd_11 rfl) rfl (by show 2 * 0 + _ ≤ _; exact Nat.le_of_eq rfl) (hb hby at_520) (fun _ _ => ⟨rfl, e460, (by decide : 4 + 0 ≤ _), (by decide : 10 + 0 ≤ _)⟩)
          dsimp only [Pt.U, Pt.locs, Pt.cells, Pt.slots] at X474 l474 y474 z474 st474 hQ474
          subst l474 y474 z474
          obtain ⟨rfl, N474q, e474⟩ := hQ474
          have N474 := Fr.app N460 N474q
          obtain ⟨fs, hr, hrun, hended, hW, hsame⟩ := X474.leave (v := some (.int (1 : Int32))) (fun h => by rw [Bd.returns] at h; cases h)
          refine ⟨_, _, pre473 _ ?_, hrun, hended, _, _, rfl, ?_, ⟨_, rfl⟩, hW, hsame.mono (by decide) (by decide)⟩
          · refine y_istore X460 hx hby at_513 (l' := (lo0_85 p1 p2 p3 p4 p5 p6 z0 z1 z2 z3 z4 z5 b360 b456)) rfl ?_
            refine y_aload X460 hx hby at_515 rfl rfl ?_
            refine y_lload X460 hx hby at_517 rfl ?_
            refine y_l2i X460 hx hby at_519 ?_
            refine st474.trans ?_
            show Steps p.tables e below (T474.setTop (mkF m 523 (lo0_85 p1 p2 p3 p4 p5 p6 z0 z1 z2 z3 z4 z5 b360 b456) [(.int (ct_2 ((p6.toInt64).toInt32) (z0.toInt32) (z1.toInt32)))])) _
            refine y_iload X474 hx hby at_523 rfl ?_
            refine y_icmpNo X474 hx hby at_525 (teq (own_fin2 _ z0 z1 z2 z3 z4 z5 o1 o2 o3 o4 o5 lo hi hp)).2 ?_
            refine y_iconst X474 hx hby (v := (1 : Int32)) at_528 rfl ?_
            refine y_goto X474 hx hby (pc' := 533) at_529 (by decide) (by decide) ?_
            exact retN X474 hx (t := .boolean) Bd.returns (by simp) (hb hby at_533) hr
          · exact ⟨rfl, N474⟩
    · obtain ⟨rfl, hi⟩ := own_fix1 hcnt hc362 hc365
      obtain ⟨cq475, kq475, q475a, q475b, q475c⟩ := isOf hZ e364 E_b360
      obtain ⟨_, _, ⟨T475, L475, k475, n475⟩, -, X475, ⟨Lc475, hQ475, l475, y475, z475⟩, st475⟩ := X364.virtualBack hx (y := mn7) (z := mn7) hown (mvT hZ (ww hw 20 rfl)) (mvT hZ (ww hw 21 rfl)) (notFace_of_selects (args := #[]) (mvT hZ (ww hw 23 rfl))) (mvT hZ (ww hw 23 rfl)) (mvT hZ (ww hw 22 rfl)) (by decide) (backOf (W := 0) (rm4_1 l Z a0 hw [] b360 A361 k361 (z0.toInt32) h364 n0 Z0 E_b360 F_numbers_b360 F_size_b360 E_A361 V_A361 ne_b360_A361) hZ (ww hw 24 rfl) (ww hw 10 rfl) (by decide) (by decide)) q475a q475c (g := (mkF m 267 (lo0_86 p1 p2 p3 p4 p5 p6 z0 z1 z2 z3 z4 z5 b360) [(.ref b360)])) rfl (by rw [hml]; rfl) (Steps.refl _) (argsL := []) (rest := []) (lenOf pd_8 rfl) rfl (by show 2 * 0 + _ ≤ _; exact Nat.le_of_eq rfl) (hb hby at_267) (fun _ _ => ⟨rfl, e364, (by decide : 2 + 2 ≤ _), (by decide : 6 + 3 ≤ _)⟩)
      dsimp only [Pt.U, Pt.locs, Pt.cells, Pt.slots] at X475 l475 y475 z475 st475 hQ475
      subst l475 y475 z475
      obtain ⟨h475, e475⟩ : ∃ z, T475.heap = z := ⟨_, rfl⟩
      rw [e475] at hQ475
      obtain ⟨b475, B475, k475, rfl, N475q, K475, s475, t475, En475, Fn475, Vn475⟩ := hQ475
      have g_b475 : n0 ≤ b475 := Nat.le_trans Z0 s475
      have ne_b360_b475 : b360 ≠ b475 := Nat.ne_of_lt (Nat.lt_of_lt_of_le E_b360.lt s475)
      have ne_A361_b475 : A361 ≠ b475 := Nat.ne_of_lt (Nat.lt_of_lt_of_le V_A361.lt s475)
      replace E_b360 := E_b360.keep K475
      replace F_numbers_b360 := F_numbers_b360.keep K475 nin0
      replace F_size_b360 := F_size_b360.keep K475 nin0
      replace V_A361 := V_A361.keep K475 nin0
      replace E_A361 := E_A361.keep K475
      replace Z0 := Nat.le_trans Z0 K475.1
      have E_b475 : Exa Z h475 b475 "com/example/hard_delay_bounds/harddelaybounds/analysis/FlowSet" := En475
      have F_numbers_b475 : Fld Z h475 b475 "com/example/hard_delay_bounds/harddelaybounds/analysis/FlowSet" "numbers" "[I" (.ref B475) := Fn475
      have V_B475 : Arv Z h475 B475 k475 .int (1 : Int32) [(.int (z0.toInt32))] (.int (0 : Int32)) := Vn475
      have N475 := Fr.app N364 N475q
      obtain ⟨cq476, kq476, q476a, q476b, q476c⟩ := isOf hZ e475 E_b475
      obtain ⟨_, _, ⟨T476, L476, k476, n476⟩, -, X476, ⟨Lc476, hQ476, l476, y476, z476⟩, st476⟩ := X475.virtualBack hx (y := mn8) (z := mn8) hown (mvT hZ (ww hw 47 rfl)) (mvT hZ (ww hw 48 rfl)) (notFace_of_selects (args := #[]) (mvT hZ (ww hw 50 rfl))) (mvT hZ (ww hw 50 rfl)) (mvT hZ (ww hw 49 rfl)) (by decide) (backOf (W := 0) (rm7_1 l Z a0 hw [] b475 B475 k475 (z0.toInt32) h475 n0 Z0 F_numbers_b475 V_B475) hZ (ww hw 51 rfl) (ww hw 27 rfl) (by decide) (by decide)) q476a q476c (g := (mkF m 274 (lo0_87 p1 p2 p3 p4 p5 p6 z0 z1 z2 z3 z4 z5 b360 b475) [(.ref b475)])) rfl (by rw [hml]; rfl) (Steps.refl _) (argsL := []) (rest := []) (lenOf pd_9 rfl) rfl (by show 2 * 0 + _ ≤ _; exact Nat.le_of_eq rfl) (hb hby at_274) (fun _ _ => ⟨rfl, e475, (by decide : 4 + 0 ≤ _), (by decide : 9 + 0 ≤ _)⟩)
      dsimp only [Pt.U, Pt.locs, Pt.cells, Pt.slots] at X476 l476 y476 z476 st476 hQ476
      subst l476 y476 z476
      obtain ⟨rfl, N476q, e476⟩ := hQ476
      have N476 := Fr.app N475 N476q
      obtain ⟨_, _, ⟨T477, L477, k477, n477⟩, -, X477, ⟨Lc477, hQ477, l477, y477, z477⟩, st477⟩ := Jvm.LawKit.callS X476 hx (y := mn2) hown (mvT hZ (ww hw 52 rfl)) (mvT hZ (ww hw 53 rfl)) (mvT hZ (ww hw 6 rfl)) (mvT hZ (ww hw 54 rfl)) (by decide) (backOf (W := 0) (rm8 l Z a0 hw [] (1 : Int32) (1 : Int32) h475 n0 Z0) hZ (ww hw 54 rfl) (ww hw 6 rfl) (by decide) (by decide)) (g := (mkF m 287 (lo0_87 p1 p2 p3 p4 p5 p6 z0 z1 z2 z3 z4 z5 b360 b475) [(.int (1 : Int32)), (.int (1 : Int32))])) rfl (by rw [hml]; rfl) (argsL := [(.int (1 : Int32)), (.int (1 : Int32))]) (rest := []) (lenOf pd_0 rfl) rfl (by show 2 * 0 + _ ≤ _; exact Nat.le_of_eq rfl) (hb hby at_287) (fun _ _ => ⟨rfl, e476, (by decide : 4 + 0 ≤ _), (by decide : 9 + 0 ≤ _)⟩)
      dsimp only [Pt.U, Pt.locs, Pt.cells, Pt.slots] at X477 l477 y477 z477 st477 hQ477
      subst l477 y477 z477
      obtain ⟨rfl, N477q, e477⟩ := hQ477
      rw [show f8 (1 : Int32) (1 : Int32) = (1 : Int32) from by decide] at st477
      have N477 := Fr.app N476 N477q
      obtain ⟨_, _, ⟨T478, L478, k478, n478⟩, -, X478, ⟨Lc478, hQ478, l478, y478, z478⟩, st478⟩ := Jvm.LawKit.callS X477 hx (y := mn1) hown (mvT hZ (ww hw 55 rfl)) (mvT hZ (ww hw 56 rfl)) (mvT hZ (ww hw 57 rfl)) (mvT hZ (ww hw 58 rfl)) (by decide) (backOf (W := 0) (rm9 l Z a0 hw [] ((((p1.toUInt32 >>> ((8 : Int32) &&& 31).toUInt32).toInt32) &&& (255 : Int32)) % (1 : Int32)) z0 z1 z2 z3 z4 z5 h475 n0 Z0) hZ (ww hw 58 rfl) (ww hw 57 rfl) (by decide) (by decide)) (g := (mkF m 324 (lo0_89 p1 p2 p3 p4 p5 p6 z0 z1 z2 z3 z4 z5 b360 b475) [(.long z5), (.long z4), (.long z3), (.long z2), (.long z1), (.long z0), (.int ((((p1.toUInt32 >>> ((8 : Int32) &&& 31).toUInt32).toInt32) &&& (255 : Int32)) % (1 : Int32)))])) rfl (by rw [hml]; rfl) (argsL := [(.int ((((p1.toUInt32 >>> ((8 : Int32) &&& 31).toUInt32).toInt32) &&& (255 : Int32)) % (1 : Int32))), (.long z0), (.long z1), (.long z2), (.long z3), (.long z4), (.long z5)]) (rest := []) (lenOf pd_10 rfl) rfl (by show 2 * 0 + _ ≤ _; exact Nat.le_of_eq rfl) (hb hby at_324) (fun _ _ => ⟨rfl, e477, (by decide : 4 + 0 ≤ _), (by decide : 9 + 0 ≤ _)⟩)
      dsimp only [Pt.U, Pt.locs, Pt.cells, Pt.slots] at X478 l478 y478 z478 st478 hQ478
      subst l478 y478 z478
      obtain ⟨rfl, N478q, e478⟩ := hQ478
      have N478 := Fr.app N477 N478q
      have ng := own_nuget_1 (p2 := ((((p1.toUInt32 >>> ((8 : Int32) &&& 31).toUInt32).toInt32) &&& (255 : Int32)) % (1 : Int32))) (x0 := (z0.toInt32)) (own_rem1 _ (own_and _))
      obtain ⟨cq479, kq479, q479a, q479b, q479c⟩ := isOf hZ e478 E_b475
      obtain ⟨_, _, ⟨T479, L479, k479, n479⟩, -, X479, ⟨Lc479, hQ479, l479, y479, z479⟩, st479⟩ := X478.virtualBack hx (y := mn13) (z := mn13) hown (mvT hZ (ww hw 90 rfl)) (mvT hZ (ww hw 91 rfl)) (notFace_of_selects (args := #[]) (mvT hZ (ww hw 93 rfl))) (mvT hZ (ww hw 93 rfl)) (mvT hZ (ww hw 92 rfl)) (by decide) (backOf (W := 0) (rm15_any l Z a0 hw [] b475 ((((p1.toUInt32 >>> ((8 : Int32) &&& 31).toUInt32).toInt32) &&& (255 : Int32)) % (1 : Int32)) B475 k475 _ _ _ h475 n0 Z0 ng.1 ng.2.1 ng.2.2 F_numbers_b475 V_B475) hZ (ww hw 94 rfl) (ww hw 27 rfl) (by decide) (by decide)) q479a q479c (g := (mkF m 333 (lo0_90 p1 p2 p3 p4 p5 p6 z0 z1 z2 z3 z4 z5 b360 b475) [(.int ((((p1.toUInt32 >>> ((8 : Int32) &&& 31).toUInt32).toInt32) &&& (255 : Int32)) % (1 : Int32))), (.ref b475)])) rfl (by rw [hml]; rfl) (Steps.refl _) (argsL := [(.int ((((p1.toUInt32 >>> ((8 : Int32) &&& 31).toUInt32).toInt32) &&& (255 : Int32)) % (1 : Int32)))]) (rest := []) (lenOf pd_5 rfl) rfl (by show 2 * 0 + _ ≤ _; exact Nat.le_of_eq rfl) (hb hby at_333) (fun _ _ => ⟨rfl, e478, (by decide : 4 + 0 ≤ _), (by decide : 9 + 0 ≤ _)⟩)
      dsimp only [Pt.U, Pt.locs, Pt.cells, Pt.slots] at X479 l479 y479 z479 st479 hQ479
      subst l479 y479 z479
      obtain ⟨rfl, N479q, e479⟩ := hQ479
      have N479 := Fr.app N478 N479q
      have pre481 : GO p e below (T479.setTop (mkF m 348 (lo0_90 p1 p2 p3 p4 p5 p6 z0 z1 z2 z3 z4 z5 b360 b475) [(.int (p6 &&& (4 : Int32)))])) (s₁.setTop (entryFrame m #[(.int p1), (.int p2), (.int p3), (.int p4), (.int p5), (.int p6)] maxLocals)) := fun t k => by
        refine pre366 _ ?_
        refine y_icmpYes X364 hx hby (pc' := 205) at_193 (flt hc365).2.2.2 (by decide) (by decide) ?_
        refine y_iload X364 hx hby at_205 rfl ?_
        refine y_iconst X364 hx hby (v := (2 : Int32)) at_207 rfl ?_
        refine y_icmpYes X364 hx hby (pc' := 220) at_208 (flt (by decide)).2.2.2 (by decide) (by decide) ?_
        refine y_iload X364 hx hby at_220 rfl ?_
        refine y_iconst X364 hx hby (v := (3 : Int32)) at_222 rfl ?_
        refine y_icmpYes X364 hx hby (pc' := 235) at_223 (flt (by decide)).2.2.2 (by decide) (by decide) ?_
        refine y_iload X364 hx hby at_235 rfl ?_
        refine y_iconst X364 hx hby (v := (4 : Int32)) at_237 rfl ?_
        refine y_icmpYes X364 hx hby (pc' := 250) at_238 (flt (by decide)).2.2.2 (by decide) (by decide) ?_
        refine y_iload X364 hx hby at_250 rfl ?_
        refine y_iconst X364 hx hby (v := (5 : Int32)) at_252 rfl ?_
        refine y_icmpYes X364 hx hby (pc' := 265) at_253 (flt (by decide)).2.2.2 (by decide) (by decide) ?_
        refine y_aload X364 hx hby at_265 rfl rfl ?_
        refine st475.trans ?_
        show Steps p.tables e below (T475.setTop (mkF m 270 (lo0_86 p1 p2 p3 p4 p5 p6 z0 z1 z2 z3 z4 z5 b360) [(.ref b475)])) _
        refine y_astore X475 hx hby at_270 rfl (l' := (lo0_87 p1 p2 p3 p4 p5 p6 z0 z1 z2 z3 z4 z5 b360 b475)) rfl ?_
        refine y_aload X475 hx hby at_272 rfl rfl ?_
        refine st476.trans ?_
        show Steps p.tables e below (T476.setTop (mkF m 277 (lo0_87 p1 p2 p3 p4 p5 p6 z0 z1 z2 z3 z4 z5 b360 b475) [(.int (1 : Int32))])) _
        refine y_iload X476 hx hby at_277 rfl ?_
        refine y_icmpYes X476 hx hby (pc' := 284) at_279 (teq rfl).1 (by decide) (by decide) ?_
        refine y_iload X476 hx hby at_284 rfl ?_
        refine y_iconst X476 hx hby (v := (1 : Int32)) at_286 rfl ?_
        refine st477 _ ?_
        show Steps p.tables e below (T477.setTop (mkF m 290 (lo0_87 p1 p2 p3 p4 p5 p6 z0 z1 z2 z3 z4 z5 b360 b475) [(.int (1 : Int32))])) _
        refine y_istore X477 hx hby at_290 (l' := (lo0_88 p1 p2 p3 p4 p5 p6 z0 z1 z2 z3 z4 z5 b360 b475)) rfl ?_
        refine y_iloadN X477 hx hby at_292 rfl ?_
        refine y_bipush X477 hx hby (v := (8 : Int32)) at_293 rfl ?_
        refine y_iushr X477 hx hby at_295 ?_
        refine y_sipush X477 hx hby (v := (255 : Int32)) at_296 rfl ?_
        refine y_iand X477 hx hby at_299 ?_
        refine y_iload X477 hx hby at_300 rfl ?_
        refine Jvm.RoadKit.iremM X477 hx rfl (hb hby at_302) rfl (by decide) ?_
        show Steps p.tables e below (T477.setTop (mkF m 303 (lo0_88 p1 p2 p3 p4 p5 p6 z0 z1 z2 z3 z4 z5 b360 b475) [(.int ((((p1.toUInt32 >>> ((8 : Int32) &&& 31).toUInt32).toInt32) &&& (255 : Int32)) % (1 : Int32)))])) _
        refine y_istore X477 hx hby at_303 (l' := (lo0_89 p1 p2 p3 p4 p5 p6 z0 z1 z2 z3 z4 z5 b360 b475)) rfl ?_
        refine y_iload X477 hx hby at_305 rfl ?_
        refine y_ifNo X477 hx hby at_307 ((if0 _ _).trans (tlt (by decide)).2.2.2) ?_
        refine y_iload X477 hx hby at_310 rfl ?_
        refine y_lload X477 hx hby at_312 rfl ?_
        refine y_lload X477 hx hby at_314 rfl ?_
        refine y_lload X477 hx hby at_316 rfl ?_
        refine y_lload X477 hx hby at_318 rfl ?_
        refine y_lload X477 hx hby at_320 rfl ?_
        refine y_lload X477 hx hby at_322 rfl ?_
        refine st478 _ ?_
        show Steps p.tables e below (T478.setTop (mkF m 327 (lo0_89 p1 p2 p3 p4 p5 p6 z0 z1 z2 z3 z4 z5 b360 b475) [(.long (f9 ((((p1.toUInt32 >>> ((8 : Int32) &&& 31).toUInt32).toInt32) &&& (255 : Int32)) % (1 : Int32)) z0 z1 z2 z3 z4 z5))])) _
        refine y_lstore X478 hx hby at_327 (l' := (lo0_90 p1 p2 p3 p4 p5 p6 z0 z1 z2 z3 z4 z5 b360 b475)) rfl ?_
        refine y_aload X478 hx hby at_329 rfl rfl ?_
        refine y_iload X478 hx hby at_331 rfl ?_
        refine st479.trans ?_
        show Steps p.tables e below (T479.setTop (mkF m 336 (lo0_90 p1 p2 p3 p4 p5 p6 z0 z1 z2 z3 z4 z5 b360 b475) [(.int (nu_1 ((((p1.toUInt32 >>> ((8 : Int32) &&& 31).toUInt32).toInt32) &&& (255 : Int32)) % (1 : Int32)) (z0.toInt32)))])) _
        refine y_lload X479 hx hby at_336 rfl ?_
        refine y_l2i X479 hx hby at_338 ?_
        refine y_icmpYes X479 hx hby (pc' := 344) at_339 (teq (own_nup1 _ z0 z1 z2 z3 z4 z5 (own_rem1 _ (own_and _)))).1 (by decide) (by decide) ?_
        refine y_iload X479 hx hby at_344 rfl ?_
        refine y_iconst X479 hx hby (v := (4 : Int32)) at_346 rfl ?_
        refine y_iand X479 hx hby at_347 ?_
        exact k
      by_cases hc480 : (p6 &&& (4 : Int32)) = (0 : Int32)
      · obtain ⟨_, _, ⟨T482, L482, k482, n482⟩, -, X482, ⟨Lc482, hQ482, l482, y482, z482⟩, st482⟩ := Jvm.LawKit.callS X479 hx (y := mn1) hown (mvT hZ (ww hw 55 rfl)) (mvT hZ (ww hw 56 rfl)) (mvT hZ (ww hw 57 rfl)) (mvT hZ (ww hw 58 rfl)) (by decide) (backOf (W := 0) (rm9 l Z a0 hw [] ((((p6.toUInt32 >>> ((3 : Int32) &&& 31).toUInt32).toInt32) &&& (255 : Int32)) % (1 : Int32)) z0 z1 z2 z3 z4 z5 h475 n0 Z0) hZ (ww hw 58 rfl) (ww hw 57 rfl) (by decide) (by decide)) (g := (mkF m 386 (lo0_91 p1 p2 p3 p4 p5 p6 z0 z1 z2 z3 z4 z5 b360 b475) [(.long z5), (.long z4), (.long z3), (.long z2), (.long z1), (.long z0), (.int ((((p6.toUInt32 >>> ((3 : Int32) &&& 31).toUInt32).toInt32) &&& (255 : Int32)) % (1 : Int32)))])) rfl (by rw [hml]; rfl) (argsL := [(.int ((((p6.toUInt32 >>> ((3 : Int32) &&& 31).toUInt32).toInt32) &&& (255 : Int32)) % (1 : Int32))), (.long z0), (.long z1), (.long z2), (.long z3), (.long z4), (.long z5)]) (rest := []) (lenOf pd_10 rfl) rfl (by show 2 * 0 + _ ≤ _; exact Nat.le_of_eq rfl) (hb hby at_386) (fun _ _ => ⟨rfl, e479, (by decide : 4 + 0 ≤ _), (by decide : 9 + 0 ≤ _)⟩)
        dsimp only [Pt.U, Pt.locs, Pt.cells, Pt.slots] at X482 l482 y482 z482 st482 hQ482
        subst l482 y482 z482
        obtain ⟨rfl, N482q, e482⟩ := hQ482
        have N482 := Fr.app N479 N482q
        have pre484 : GO p e below (T482.setTop (mkF m 410 (lo0_93 p1 p2 p3 p4 p5 p6 z0 z1 z2 z3 z4 z5 b360 b475) [(.int (lcmpW (((f9 ((((p6.toUInt32 >>> ((3 : Int32) &&& 31).toUInt32).toInt32) &&& (255 : Int32)) % (1 : Int32)) z0 z1 z2 z3 z4 z5) + (((p6 &&& (3 : Int32)) % (3 : Int32)).toInt64)) - (1 : Int64)) (2147483647 : Int64)))])) (s₁.setTop (entryFrame m #[(.int p1), (.int p2), (.int p3), (.int p4), (.int p5), (.int p6)] maxLocals)) := fun t k => by
          refine pre481 _ ?_
          refine y_ifYes X479 hx hby (pc' := 359) at_348 ((if0 _ _).trans (teq hc480).1) (by decide) (by decide) ?_
          refine y_iload X479 hx hby at_359 rfl ?_
          refine y_iconst X479 hx hby (v := (3 : Int32)) at_361 rfl ?_
          refine y_iushr X479 hx hby at_362 ?_
          refine y_sipush X479 hx hby (v := (255 : Int32)) at_363 rfl ?_
          refine y_iand X479 hx hby at_366 ?_
          refine y_iload X479 hx hby at_367 rfl ?_
          refine Jvm.RoadKit.iremM X479 hx rfl (hb hby at_369) rfl (by decide) ?_
          show Steps p.tables e below (T479.setTop (mkF m 370 (lo0_90 p1 p2 p3 p4 p5 p6 z0 z1 z2 z3 z4 z5 b360 b475) [(.int ((((p6.toUInt32 >>> ((3 : Int32) &&& 31).toUInt32).toInt32) &&& (255 : Int32)) % (1 : Int32)))])) _
          refine y_istore X479 hx hby at_370 (l' := (lo0_91 p1 p2 p3 p4 p5 p6 z0 z1 z2 z3 z4 z5 b360 b475)) rfl ?_
          refine y_iload X479 hx hby at_372 rfl ?_
          refine y_lload X479 hx hby at_374 rfl ?_
          refine y_lload X479 hx hby at_376 rfl ?_
          refine y_lload X479 hx hby at_378 rfl ?_
          refine y_lload X479 hx hby at_380 rfl ?_
          refine y_lload X479 hx hby at_382 rfl ?_
          refine y_lload X479 hx hby at_384 rfl ?_
          refine st482 _ ?_
          show Steps p.tables e below (T482.setTop (mkF m 389 (lo0_91 p1 p2 p3 p4 p5 p6 z0 z1 z2 z3 z4 z5 b360 b475) [(.long (f9 ((((p6.toUInt32 >>> ((3 : Int32) &&& 31).toUInt32).toInt32) &&& (255 : Int32)) % (1 : Int32)) z0 z1 z2 z3 z4 z5))])) _
          refine y_lstore X482 hx hby at_389 (l' := (lo0_92 p1 p2 p3 p4 p5 p6 z0 z1 z2 z3 z4 z5 b360 b475)) rfl ?_
          refine y_lload X482 hx hby at_391 rfl ?_
          refine y_iload X482 hx hby at_393 rfl ?_
          refine y_iconst X482 hx hby (v := (3 : Int32)) at_395 rfl ?_
          refine y_iand X482 hx hby at_396 ?_
          refine y_iconst X482 hx hby (v := (3 : Int32)) at_397 rfl ?_
          refine Jvm.RoadKit.iremM X482 hx rfl (hb hby at_398) rfl (by decide) ?_
          show Steps p.tables e below (T482.setTop (mkF m 399 (lo0_92 p1 p2 p3 p4 p5 p6 z0 z1 z2 z3 z4 z5 b360 b475) [(.int ((p6 &&& (3 : Int32)) % (3 : Int32))), (.long (f9 ((((p6.toUInt32 >>> ((3 : Int32) &&& 31).toUInt32).toInt32) &&& (255 : Int32)) % (1 : Int32)) z0 z1 z2 z3 z4 z5))])) _
          refine y_i2l X482 hx hby at_399 ?_
          refine y_ladd X482 hx hby at_400 ?_
          refine y_lconst X482 hx hby (v := (1 : Int64)) at_401 rfl ?_
          refine y_lsub X482 hx hby at_402 ?_
          refine y_lstore X482 hx hby at_403 (l' := (lo0_93 p1 p2 p3 p4 p5 p6 z0 z1 z2 z3 z4 z5 b360 b475)) rfl ?_
          refine y_lload X482 hx hby at_405 rfl ?_
          refine y_lload X482 hx hby at_407 rfl ?_
          refine y_lcmp X482 hx hby at_409 ?_
          exact k
        obtain ⟨T488, L488, X488, N488, e488, pre488⟩ : ∃ T' L', Stand p l e room_1 s m #[(.int p1), (.int p2), (.int p3), (.int p4), (.int p5), (.int p6)] below meth c T' L' 4 9 ∧ Fr n0 L' ∧ T'.heap = h475 ∧ ∀ t, Steps p.tables e below (T'.setTop (mkF m 425 #[.val (.int p1), .val (.int p2), .val (.int p3), .val (.int p4), .val (.int p5), .val (.int p6), .val (.long (2147483647 : Int64)), .second, .val (.long (-2147483648 : Int64)), .second, .val (.long z0), .second, .val (.long z1), .second, .val (.long z2), .second, .val (.long z3), .second, .val (.long z4), .second, .val (.long z5), .second, .val (.int (mg0_80a p1 p2 p3 p4 p5 p6 z1 z2 z3 z4 z5)), .val (.int ((p1 &&& (2147483647 : Int32)) % (7 : Int32))), .val (.int (1 : Int32)), .val (.ref b360), .val (.ref b475), .val (.int (1 : Int32)), .val (.int ((((p1.toUInt32 >>> ((8 : Int32) &&& 31).toUInt32).toInt32) &&& (255 : Int32)) % (1 : Int32))), .val (.long (mg0_410f p1 p2 p3 p4 p5 p6 z0 z1 z2 z3 z4 z5)), .second, .val (.int ((((p6.toUInt32 >>> ((3 : Int32) &&& 31).toUInt32).toInt32) &&& (255 : Int32)) % (1 : Int32))), .val (.long (f9 ((((p6.toUInt32 >>> ((3 : Int32) &&& 31).toUInt32).toInt32) &&& (255 : Int32)) % (1 : Int32)) z0 z1 z2 z3 z4 z5)), .second] [])) t → Steps p.tables e below (s₁.setTop (entryFrame m #[(.int p1), (.int p2), (.int p3), (.int p4), (.int p5), (.int p6)] maxLocals)) t := by
          by_cases hc483 : (2147483647 : Int64) < (((f9 ((((p6.toUInt32 >>> ((3 : Int32) &&& 31).toUInt32).toInt32) &&& (255 : Int32)) % (1 : Int32)) z0 z1 z2 z3 z4 z5) + (((p6 &&& (3 : Int32)) % (3 : Int32)).toInt64)) - (1 : Int64))
          · rw [show mg0_410f p1 p2 p3 p4 p5 p6 z0 z1 z2 z3 z4 z5 = (f9 ((((p6.toUInt32 >>> ((3 : Int32) &&& 31).toUInt32).toInt32) &&& (255 : Int32)) % (1 : Int32)) z0 z1 z2 z3 z4 z5) from if_pos hc483]
            refine ⟨T482, _, X482, N482, e482, fun t k => ?_⟩
            refine pre484 _ ?_
            refine y_ifYes X482 hx hby (pc' := 421) at_410 ((if0 _ _).trans (tlt ((lw_gt (((f9 ((((p6.toUInt32 >>> ((3 : Int32) &&& 31).toUInt32).toInt32) &&& (255 : Int32)) % (1 : Int32)) z0 z1 z2 z3 z4 z5) + (((p6 &&& (3 : Int32)) % (3 : Int32)).toInt64)) - (1 : Int64)) (2147483647 : Int64)).mpr hc483)).2.2.1) (by decide) (by decide) ?_
            refine y_lload X482 hx hby at_421 rfl ?_
            refine y_lstore X482 hx hby at_423 (l' := (lo0_94 p1 p2 p3 p4 p5 p6 z0 z1 z2 z3 z4 z5 b360 b475)) rfl ?_
            exact k
          · rw [show mg0_410f p1 p2 p3 p4 p5 p6 z0 z1 z2 z3 z4 z5 = (mg0_418f p1 p2 p3 p4 p5 p6 z0 z1 z2 z3 z4 z5) from if_neg hc483]
            have pre486 : GO p e below (T482.setTop (mkF m 418 (lo0_93 p1 p2 p3 p4 p5 p6 z0 z1 z2 z3 z4 z5 b360 b475) [(.int (lcmpW (((f9 ((((p6.toUInt32 >>> ((3 : Int32) &&& 31).toUInt32).toInt32) &&& (255 : Int32)) % (1 : Int32)) z0 z1 z2 z3 z4 z5) + (((p6 &&& (3 : Int32)) % (3 : Int32)).toInt64)) - (1 : Int64)) (-2147483648 : Int64)))])) (s₁.setTop (entryFrame m #[(.int p1), (.int p2), (.int p3), (.int p4), (.int p5), (.int p6)] maxLocals)) := fun t k => by
              refine pre484 _ ?_
              refine y_ifNo X482 hx hby at_410 ((if0 _ _).trans (flt (fun q => hc483 ((lw_gt (((f9 ((((p6.toUInt32 >>> ((3 : Int32) &&& 31).toUInt32).toInt32) &&& (255 : Int32)) % (1 : Int32)) z0 z1 z2 z3 z4 z5) + (((p6 &&& (3 : Int32)) % (3 : Int32)).toInt64)) - (1 : Int64)) (2147483647 : Int64)).mp q))).2.2.1) ?_
              refine y_lload X482 hx hby at_413 rfl ?_
              refine y_lload X482 hx hby at_415 rfl ?_
              refine y_lcmp X482 hx hby at_417 ?_
              exact k
            obtain ⟨T487, L487, X487, N487, e487, pre487⟩ : ∃ T' L', Stand p l e room_1 s m #[(.int p1), (.int p2), (.int p3), (.int p4), (.int p5), (.int p6)] below meth c T' L' 4 9 ∧ Fr n0 L' ∧ T'.heap = h475 ∧ ∀ t, Steps p.tables e below (T'.setTop (mkF m 425 #[.val (.int p1), .val (.int p2), .val (.int p3), .val (.int p4), .val (.int p5), .val (.int p6), .val (.long (2147483647 : Int64)), .second, .val (.long (-2147483648 : Int64)), .second, .val (.long z0), .second, .val (.long z1), .second, .val (.long z2), .second, .val (.long z3), .second, .val (.long z4), .second, .val (.long z5), .second, .val (.int (mg0_80a p1 p2 p3 p4 p5 p6 z1 z2 z3 z4 z5)), .val (.int ((p1 &&& (2147483647 : Int32)) % (7 : Int32))), .val (.int (1 : Int32)), .val (.ref b360), .val (.ref b475), .val (.int (1 : Int32)), .val (.int ((((p1.toUInt32 >>> ((8 : Int32) &&& 31).toUInt32).toInt32) &&& (255 : Int32)) % (1 : Int32))), .val (.long (mg0_418f p1 p2 p3 p4 p5 p6 z0 z1 z2 z3 z4 z5)), .second, .val (.int ((((p6.toUInt32 >>> ((3 : Int32) &&& 31).toUInt32).toInt32) &&& (255 : Int32)) % (1 : Int32))), .val (.long (f9 ((((p6.toUInt32 >>> ((3 : Int32) &&& 31).toUInt32).toInt32) &&& (255 : Int32)) % (1 : Int32)) z0 z1 z2 z3 z4 z5)), .second] [])) t → Steps p.tables e below (s₁.setTop (entryFrame m #[(.int p1), (.int p2), (.int p3), (.int p4), (.int p5), (.int p6)] maxLocals)) t := by
              by_cases hc485 : (((f9 ((((p6.toUInt32 >>> ((3 : Int32) &&& 31).toUInt32).toInt32) &&& (255 : Int32)) % (1 : Int32)) z0 z1 z2 z3 z4 z5) + (((p6 &&& (3 : Int32)) % (3 : Int32)).toInt64)) - (1 : Int64)) < (-2147483648 : Int64)
              · rw [show mg0_418f p1 p2 p3 p4 p5 p6 z0 z1 z2 z3 z4 z5 = (f9 ((((p6.toUInt32 >>> ((3 : Int32) &&& 31).toUInt32).toInt32) &&& (255 : Int32)) % (1 : Int32)) z0 z1 z2 z3 z4 z5) from if_pos hc485]
                refine ⟨T482, _, X482, N482, e482, fun t k => ?_⟩
                refine pre486 _ ?_
                refine y_ifNo X482 hx hby at_418 ((if0 _ _).trans (tlt ((lw_lt (((f9 ((((p6.toUInt32 >>> ((3 : Int32) &&& 31).toUInt32).toInt32) &&& (255 : Int32)) % (1 : Int32)) z0 z1 z2 z3 z4 z5) + (((p6 &&& (3 : Int32)) % (3 : Int32)).toInt64)) - (1 : Int64)) (-2147483648 : Int64)).mpr hc485)).2.1) ?_
                refine y_lload X482 hx hby at_421 rfl ?_
                refine y_lstore X482 hx hby at_423 (l' := (lo0_94 p1 p2 p3 p4 p5 p6 z0 z1 z2 z3 z4 z5 b360 b475)) rfl ?_
                exact k
              · rw [show mg0_418f p1 p2 p3 p4 p5 p6 z0 z1 z2 z3 z4 z5 = (((f9 ((((p6.toUInt32 >>> ((3 : Int32) &&& 31).toUInt32).toInt32) &&& (255 : Int32)) % (1 : Int32)) z0 z1 z2 z3 z4 z5) + (((p6 &&& (3 : Int32)) % (3 : Int32)).toInt64)) - (1 : Int64)) from if_neg hc485]
                refine ⟨T482, _, X482, N482, e482, fun t k => ?_⟩
                refine pre486 _ ?_
                refine y_ifYes X482 hx hby (pc' := 425) at_418 ((if0 _ _).trans (flt (fun q => hc485 ((lw_lt (((f9 ((((p6.toUInt32 >>> ((3 : Int32) &&& 31).toUInt32).toInt32) &&& (255 : Int32)) % (1 : Int32)) z0 z1 z2 z3 z4 z5) + (((p6 &&& (3 : Int32)) % (3 : Int32)).toInt64)) - (1 : Int64)) (-2147483648 : Int64)).mp q))).2.1) (by decide) (by decide) ?_
                exact k
            refine ⟨T487, _, X487, N487, e487, fun t k => ?_⟩
            refine pre487 _ ?_
            exact k
        have hp := own_rg5 p1 p2 p3 p4 p5 p6 z0 z1 z2 z3 z4 z5 o1 o2 o3 o4 o5 lo hi
        have pre489 : GO p e below (T488.setTop (mkF m 513 (lo0_95 p1 p2 p3 p4 p5 p6 z0 z1 z2 z3 z4 z5 b360 b475) [(.int (ex0 (1 : Int32) (mg0_410f p1 p2 p3 p4 p5 p6 z0 z1 z2 z3 z4 z5) z0 z1 z2 z3 z4 z5))])) (s₁.setTop (entryFrame m #[(.int p1), (.int p2), (.int p3), (.int p4), (.int p5), (.int p6)] maxLocals)) := fun t k => pre488 _ (own_ex0 X488 hx hby rfl rfl rfl rfl rfl rfl rfl rfl k)
        obtain ⟨cq490, kq490, q490a, q490b, q490c⟩ := isOf hZ e488 E_b475
        obtain ⟨_, _, ⟨T490, L490, k490, n490⟩, -, X490, ⟨Lc490, hQ490, l490, y490, z490⟩, st490⟩ := X488.virtualBack hx (y := mn12) (z := mn12) hown (mvT hZ (ww hw 59 rfl)) (mvT hZ (ww hw 60 rfl)) (notFace_of_selects (args := #[]) (mvT hZ (ww hw 62 rfl))) (mvT hZ (ww hw 62 rfl)) (mvT hZ (ww hw 61 rfl)) (by decide) (backOf (W := 0) (rm10_1 l Z a0 hw [] b475 ((mg0_410f p1 p2 p3 p4 p5 p6 z0 z1 z2 z3 z4 z5).toInt32) B475 k475 (z0.toInt32) h475 n0 Z0 E_b475 F_numbers_b475 V_B475) hZ (ww hw 63 rfl) (ww hw 27 rfl) (by decide) (by decide)) q490a q490c (g := (mkF m 520 (lo0_96 p1 p2 p3 p4 p5 p6 z0 z1 z2 z3 z4 z5 b360 b475) [(.int ((mg0_410f p1 p2 p3 p4 p5 p6 z0 z1 z2 z3 z4 z5).toInt32)), (.ref b475)])) rfl (by rw [hml]; rfl) (Steps.refl _) (argsL := [(.int ((mg0_410f p1 p2 p3 p4 p5 p6 z0 z1 z2 z3 z4 z5).toInt32))]) (rest := []) (lenOf pd_11 rfl) rfl (by show 2 * 0 + _ ≤ _; exact Nat.le_of_eq rfl) (hb hby at_520) (fun _ _ => ⟨rfl, e488, (by decide : 4 + 0 ≤ _), (by decide : 9 + 0 ≤ _)⟩)
        dsimp only [Pt.U, Pt.locs, Pt.cells, Pt.slots] at X490 l490 y490 z490 st490 hQ490
        subst l490 y490 z490
        obtain ⟨rfl, N490q, e490⟩ := hQ490
        have N490 := Fr.app N488 N490q
        obtain ⟨fs, hr, hrun, hended, hW, hsame⟩ := X490.leave (v := some (.int (1 : Int32))) (fun h => by rw [Bd.returns] at h; cases h)
        refine ⟨_, _, pre489 _ ?_, hrun, hended, _, _, rfl, ?_, ⟨_, rfl⟩, hW, hsame.mono (by decide) (by decide)⟩
        · refine y_istore X488 hx hby at_513 (l' := (lo0_96 p1 p2 p3 p4 p5 p6 z0 z1 z2 z3 z4 z5 b360 b475)) rfl ?_
          refine y_aload X488 hx hby at_515 rfl rfl ?_
          refine y_lload X488 hx hby at_517 rfl ?_
          refine y_l2i X488 hx hby at_519 ?_
          refine st490.trans ?_
          show Steps p.tables e below (T490.setTop (mkF m 523 (lo0_96 p1 p2 p3 p4 p5 p6 z0 z1 z2 z3 z4 z5 b360 b475) [(.int (ct_1 ((mg0_410f p1 p2 p3 p4 p5 p6 z0 z1 z2 z3 z4 z5).toInt32) (z0.toInt32)))])) _
          refine y_iload X490 hx hby at_523 rfl ?_
          refine y_icmpNo X490 hx hby at_525 (teq (own_fin1 _ z0 z1 z2 z3 z4 z5 o1 o2 o3 o4 o5 lo hi hp)).2 ?_
          refine y_iconst X490 hx hby (v := (1 : Int32)) at_528 rfl ?_
          refine y_goto X490 hx hby (pc' := 533) at_529 (by decide) (by decide) ?_
          exact retN X490 hx (t := .boolean) Bd.returns (by simp) (hb hby at_533) hr
        · exact ⟨rfl, N490⟩
      · have pre491 : GO p e below (T479.setTop (mkF m 425 (lo0_97 p1 p2 p3 p4 p5 p6 z0 z1 z2 z3 z4 z5 b360 b475) [])) (s₁.setTop (entryFrame m #[(.int p1), (.int p2), (.int p3), (.int p4), (.int p5), (.int p6)] maxLocals)) := fun t k => by
          refine pre481 _ ?_
          refine y_ifNo X479 hx hby at_348 ((if0 _ _).trans (feq hc480).1) ?_
          refine y_iload X479 hx hby at_351 rfl ?_
          refine y_i2l X479 hx hby at_353 ?_
          refine y_lstore X479 hx hby at_354 (l' := (lo0_97 p1 p2 p3 p4 p5 p6 z0 z1 z2 z3 z4 z5 b360 b475)) rfl ?_
          refine y_goto X479 hx hby (pc' := 425) at_356 (by decide) (by decide) ?_
          exact k
        have hp : -2147483648 ≤ ((p6.toInt64)).toInt ∧ ((p6.toInt64)).toInt ≤ 2147483647 := by rw [c_i2l]; have := rng32 p6; omega
        have pre492 : GO p e below (T479.setTop (mkF m 513 (lo0_97 p1 p2 p3 p4 p5 p6 z0 z1 z2 z3 z4 z5 b360 b475) [(.int (ex0 (1 : Int32) (p6.toInt64) z0 z1 z2 z3 z4 z5))])) (s₁.setTop (entryFrame m #[(.int p1), (.int p2), (.int p3), (.int p4), (.int p5), (.int p6)] maxLocals)) := fun t k => pre491 _ (own_ex0 X479 hx hby rfl rfl rfl rfl rfl rfl rfl rfl k)
        obtain ⟨cq493, kq493, q493a, q493b, q493c⟩ := isOf hZ e479 E_b475
        obtain ⟨_, _, ⟨T493, L493, k493, n493⟩, -, X493, ⟨Lc493, hQ493, l493, y493, z493⟩, st493⟩ := X479.virtualBack hx (y := mn12) (z := mn12) hown (mvT hZ (ww hw 59 rfl)) (mvT hZ (ww hw 60 rfl)) (notFace_of_selects (args := #[]) (mvT hZ (ww hw 62 rfl))) (mvT hZ (ww hw 62 rfl)) (mvT hZ (ww hw 61 rfl)) (by decide) (backOf (W := 0) (rm10_1 l Z a0 hw [] b475 ((p6.toInt64).toInt32) B475 k475 (z0.toInt32) h475 n0 Z0 E_b475 F_numbers_b475 V_B475) hZ (ww hw 63 rfl) (ww hw 27 rfl) (by decide) (by decide)) q493a q493c (g := (mkF m 520 (lo0_98 p1 p2 p3 p4 p5 p6 z0 z1 z2 z3 z4 z5 b360 b475) [(.int ((p6.toInt64).toInt32)), (.ref b475)])) rfl (by rw [hml]; rfl) (Steps.refl _) (argsL := [(.int ((p6.toInt64).toInt32))]) (rest := []) (lenOf pd_11 rfl) rfl (by show 2 * 0 + _ ≤ _; exact Nat.le_of_eq rfl) (hb hby at_520) (fun _ _ => ⟨rfl, e479, (by decide : 4 + 0 ≤ _), (by decide : 9 + 0 ≤ _)⟩)
        dsimp only [Pt.U, Pt.locs, Pt.cells, Pt.slots] at X493 l493 y493 z493 st493 hQ493
        subst l493 y493 z493
        obtain ⟨rfl, N493q, e493⟩ := hQ493
        have N493 := Fr.app N479 N493q
        obtain ⟨fs, hr, hrun, hended, hW, hsame⟩ := X493.leave (v := some (.int (1 : Int32))) (fun h => by rw [Bd.returns] at h; cases h)
        refine ⟨_, _, pre492 _ ?_, hrun, hended, _, _, rfl, ?_, ⟨_, rfl⟩, hW, hsame.mono (by decide) (by decide)⟩
        · refine y_istore X479 hx hby at_513 (l' := (lo0_98 p1 p2 p3 p4 p5 p6 z0 z1 z2 z3 z4 z5 b360 b475)) rfl ?_
          refine y_aload X479 hx hby at_515 rfl rfl ?_
          refine y_lload X479 hx hby at_517 rfl ?_
          refine y_l2i X479 hx hby at_519 ?_
          refine st493.trans ?_
          show Steps p.tables e below (T493.setTop (mkF m 523 (lo0_98 p1 p2 p3 p4 p5 p6 z0 z1 z2 z3 z4 z5 b360 b475) [(.int (ct_1 ((p6.toInt64).toInt32) (z0.toInt32)))])) _
          refine y_iload X493 hx hby at_523 rfl ?_
          refine y_icmpNo X493 hx hby at_525 (teq (own_fin1 _ z0 z1 z2 z3 z4 z5 o1 o2 o3 o4 o5 lo hi hp)).2 ?_
          refine y_iconst X493 hx hby (v := (1 : Int32)) at_528 rfl ?_
          refine y_goto X493 hx hby (pc' := 533) at_529 (by decide) (by decide) ?_
          exact retN X493 hx (t := .boolean) Bd.returns (by simp) (hb hby at_533) hr
        · exact ⟨rfl, N493⟩
  · obtain rfl := own_fix0 hcnt  hc362
    obtain ⟨cq494, kq494, q494a, q494b, q494c⟩ := isOf hZ e361 E_b360
    obtain ⟨_, _, ⟨T494, L494, k494, n494⟩, -, X494, ⟨Lc494, hQ494, l494, y494, z494⟩, st494⟩ := X361.virtualBack hx (y := mn7) (z := mn7) hown (mvT hZ (ww hw 20 rfl)) (mvT hZ (ww hw 21 rfl)) (notFace_of_selects (args := #[]) (mvT hZ (ww hw 23 rfl))) (mvT hZ (ww hw 23 rfl)) (mvT hZ (ww hw 22 rfl)) (by decide) (backOf (W := 0) (rm4_0 l Z a0 hw [] b360 A361 k361  h361 n0 Z0 E_b360 F_numbers_b360 F_size_b360 E_A361 V_A361 ne_b360_A361) hZ (ww hw 24 rfl) (ww hw 10 rfl) (by decide) (by decide)) q494a q494c (g := (mkF m 267 (lo0_99 p1 p2 p3 p4 p5 p6 z0 z1 z2 z3 z4 z5 b360) [(.ref b360)])) rfl (by rw [hml]; rfl) (Steps.refl _) (argsL := []) (rest := []) (lenOf pd_8 rfl) rfl (by show 2 * 0 + _ ≤ _; exact Nat.le_of_eq rfl) (hb hby at_267) (fun _ _ => ⟨rfl, e361, (by decide : 2 + 2 ≤ _), (by decide : 6 + 2 ≤ _)⟩)
    dsimp only [Pt.U, Pt.locs, Pt.cells, Pt.slots] at X494 l494 y494 z494 st494 hQ494
    subst l494 y494 z494
    obtain ⟨h494, e494⟩ : ∃ z, T494.heap = z := ⟨_, rfl⟩
    rw [e494] at hQ494
    obtain ⟨b494, B494, k494, rfl, N494q, K494, s494, t494, En494, Fn494, Vn494⟩ := hQ494
    have g_b494 : n0 ≤ b494 := Nat.le_trans Z0 s494
    have ne_b360_b494 : b360 ≠ b494 := Nat.ne_of_lt (Nat.lt_of_lt_of_le E_b360.lt s494)
    have ne_A361_b494 : A361 ≠ b494 := Nat.ne_of_lt (Nat.lt_of_lt_of_le V_A361.lt s494)
    replace E_b360 := E_b360.keep K494
    replace F_numbers_b360 := F_numbers_b360.keep K494 nin0
    replace F_size_b360 := F_size_b360.keep K494 nin0
    replace V_A361 := V_A361.keep K494 nin0
    replace E_A361 := E_A361.keep K494
    replace Z0 := Nat.le_trans Z0 K494.1
    have E_b494 : Exa Z h494 b494 "com/example/hard_delay_bounds/harddelaybounds/analysis/FlowSet" := En494
    have F_numbers_b494 : Fld Z h494 b494 "com/example/hard_delay_bounds/harddelaybounds/analysis/FlowSet" "numbers" "[I" (.ref B494) := Fn494
    have V_B494 : Arv Z h494 B494 k494 .int (0 : Int32) [] (.int (0 : Int32)) := Vn494
    have N494 := Fr.app N361 N494q
    obtain ⟨cq495, kq495, q495a, q495b, q495c⟩ := isOf hZ e494 E_b494
    obtain ⟨_, _, ⟨T495, L495, k495, n495⟩, -, X495, ⟨Lc495, hQ495, l495, y495, z495⟩, st495⟩ := X494.virtualBack hx (y := mn8) (z := mn8) hown (mvT hZ (ww hw 47 rfl)) (mvT hZ (ww hw 48 rfl)) (notFace_of_selects (args := #[]) (mvT hZ (ww hw 50 rfl))) (mvT hZ (ww hw 50 rfl)) (mvT hZ (ww hw 49 rfl)) (by decide) (backOf (W := 0) (rm7_0 l Z a0 hw [] b494 B494 k494  h494 n0 Z0 F_numbers_b494 V_B494) hZ (ww hw 51 rfl) (ww hw 27 rfl) (by decide) (by decide)) q495a q495c (g := (mkF m 274 (lo0_100 p1 p2 p3 p4 p5 p6 z0 z1 z2 z3 z4 z5 b360 b494) [(.ref b494)])) rfl (by rw [hml]; rfl) (Steps.refl _) (argsL := []) (rest := []) (lenOf pd_9 rfl) rfl (by show 2 * 0 + _ ≤ _; exact Nat.le_of_eq rfl) (hb hby at_274) (fun _ _ => ⟨rfl, e494, (by decide : 4 + 0 ≤ _), (by decide : 8 + 0 ≤ _)⟩)
    dsimp only [Pt.U, Pt.locs, Pt.cells, Pt.slots] at X495 l495 y495 z495 st495 hQ495
    subst l495 y495 z495
    obtain ⟨rfl, N495q, e495⟩ := hQ495
    have N495 := Fr.app N494 N495q
    obtain ⟨_, _, ⟨T496, L496, k496, n496⟩, -, X496, ⟨Lc496, hQ496, l496, y496, z496⟩, st496⟩ := Jvm.LawKit.callS X495 hx (y := mn2) hown (mvT hZ (ww hw 52 rfl)) (mvT hZ (ww hw 53 rfl)) (mvT hZ (ww hw 6 rfl)) (mvT hZ (ww hw 54 rfl)) (by decide) (backOf (W := 0) (rm8 l Z a0 hw [] (0 : Int32) (1 : Int32) h494 n0 Z0) hZ (ww hw 54 rfl) (ww hw 6 rfl) (by decide) (by decide)) (g := (mkF m 287 (lo0_100 p1 p2 p3 p4 p5 p6 z0 z1 z2 z3 z4 z5 b360 b494) [(.int (1 : Int32)), (.int (0 : Int32))])) rfl (by rw [hml]; rfl) (argsL := [(.int (0 : Int32)), (.int (1 : Int32))]) (rest := []) (lenOf pd_0 rfl) rfl (by show 2 * 0 + _ ≤ _; exact Nat.le_of_eq rfl) (hb hby at_287) (fun _ _ => ⟨rfl, e495, (by decide : 4 + 0 ≤ _), (by decide : 8 + 0 ≤ _)⟩)
    dsimp only [Pt.U, Pt.locs, Pt.cells, Pt.slots] at X496 l496 y496 z496 st496 hQ496
    subst l496 y496 z496
    obtain ⟨rfl, N496q, e496⟩ := hQ496
    rw [show f8 (0 : Int32) (1 : Int32) = (1 : Int32) from by decide] at st496
    have N496 := Fr.app N495 N496q
    have pre498 : GO p e below (T496.setTop (mkF m 348 (lo0_102 p1 p2 p3 p4 p5 p6 z0 z1 z2 z3 z4 z5 b360 b494) [(.int (p6 &&& (4 : Int32)))])) (s₁.setTop (entryFrame m #[(.int p1), (.int p2), (.int p3), (.int p4), (.int p5), (.int p6)] maxLocals)) := fun t k => by
      refine pre363 _ ?_
      refine y_ifYes X361 hx hby (pc' := 190) at_178 ((if0 _ _).trans (flt hc362).2.2.2) (by decide) (by decide) ?_
      refine y_iload X361 hx hby at_190 rfl ?_
      refine y_iconst X361 hx hby (v := (1 : Int32)) at_192 rfl ?_
      refine y_icmpYes X361 hx hby (pc' := 205) at_193 (flt (by decide)).2.2.2 (by decide) (by decide) ?_
      refine y_iload X361 hx hby at_205 rfl ?_
      refine y_iconst X361 hx hby (v := (2 : Int32)) at_207 rfl ?_
      refine y_icmpYes X361 hx hby (pc' := 220) at_208 (flt (by decide)).2.2.2 (by decide) (by decide) ?_
      refine y_iload X361 hx hby at_220 rfl ?_
      refine y_iconst X361 hx hby (v := (3 : Int32)) at_222 rfl ?_
      refine y_icmpYes X361 hx hby (pc' := 235) at_223 (flt (by decide)).2.2.2 (by decide) (by decide) ?_
      refine y_iload X361 hx hby at_235 rfl ?_
      refine y_iconst X361 hx hby (v := (4 : Int32)) at_237 rfl ?_
      refine y_icmpYes X361 hx hby (pc' := 250) at_238 (flt (by decide)).2.2.2 (by decide) (by decide) ?_
      refine y_iload X361 hx hby at_250 rfl ?_
      refine y_iconst X361 hx hby (v := (5 : Int32)) at_252 rfl ?_
      refine y_icmpYes X361 hx hby (pc' := 265) at_253 (flt (by decide)).2.2.2 (by decide) (by decide) ?_
      refine y_aload X361 hx hby at_265 rfl rfl ?_
      refine st494.trans ?_
      show Steps p.tables e below (T494.setTop (mkF m 270 (lo0_99 p1 p2 p3 p4 p5 p6 z0 z1 z2 z3 z4 z5 b360) [(.ref b494)])) _
      refine y_astore X494 hx hby at_270 rfl (l' := (lo0_100 p1 p2 p3 p4 p5 p6 z0 z1 z2 z3 z4 z5 b360 b494)) rfl ?_
      refine y_aload X494 hx hby at_272 rfl rfl ?_
      refine st495.trans ?_
      show Steps p.tables e below (T495.setTop (mkF m 277 (lo0_100 p1 p2 p3 p4 p5 p6 z0 z1 z2 z3 z4 z5 b360 b494) [(.int (0 : Int32))])) _
      refine y_iload X495 hx hby at_277 rfl ?_
      refine y_icmpYes X495 hx hby (pc' := 284) at_279 (teq rfl).1 (by decide) (by decide) ?_
      refine y_iload X495 hx hby at_284 rfl ?_
      refine y_iconst X495 hx hby (v := (1 : Int32)) at_286 rfl ?_
      refine st496 _ ?_
      show Steps p.tables e below (T496.setTop (mkF m 290 (lo0_100 p1 p2 p3 p4 p5 p6 z0 z1 z2 z3 z4 z5 b360 b494) [(.int (1 : Int32))])) _
      refine y_istore X496 hx hby at_290 (l' := (lo0_101 p1 p2 p3 p4 p5 p6 z0 z1 z2 z3 z4 z5 b360 b494)) rfl ?_
      refine y_iloadN X496 hx hby at_292 rfl ?_
      refine y_bipush X496 hx hby (v := (8 : Int32)) at_293 rfl ?_
      refine y_iushr X496 hx hby at_295 ?_
      refine y_sipush X496 hx hby (v := (255 : Int32)) at_296 rfl ?_
      refine y_iand X496 hx hby at_299 ?_
      refine y_iload X496 hx hby at_300 rfl ?_
      refine Jvm.RoadKit.iremM X496 hx rfl (hb hby at_302) rfl (by decide) ?_
      show Steps p.tables e below (T496.setTop (mkF m 303 (lo0_101 p1 p2 p3 p4 p5 p6 z0 z1 z2 z3 z4 z5 b360 b494) [(.int ((((p1.toUInt32 >>> ((8 : Int32) &&& 31).toUInt32).toInt32) &&& (255 : Int32)) % (1 : Int32)))])) _
      refine y_istore X496 hx hby at_303 (l' := (lo0_102 p1 p2 p3 p4 p5 p6 z0 z1 z2 z3 z4 z5 b360 b494)) rfl ?_
      refine y_iload X496 hx hby at_305 rfl ?_
      refine y_ifYes X496 hx hby (pc' := 344) at_307 ((if0 _ _).trans (flt (by decide)).2.2.2) (by decide) (by decide) ?_
      refine y_iload X496 hx hby at_344 rfl ?_
      refine y_iconst X496 hx hby (v := (4 : Int32)) at_346 rfl ?_
      refine y_iand X496 hx hby at_347 ?_
      exact k
    by_cases hc497 : (p6 &&& (4 : Int32)) = (0 : Int32)
    · obtain ⟨_, _, ⟨T499, L499, k499, n499⟩, -, X499, ⟨Lc499, hQ499, l499, y499, z499⟩, st499⟩ := Jvm.LawKit.callS X496 hx (y := mn1) hown (mvT hZ (ww hw 55 rfl)) (mvT hZ (ww hw 56 rfl)) (mvT hZ (ww hw 57 rfl)) (mvT hZ (ww hw 58 rfl)) (by decide) (backOf (W := 0) (rm9 l Z a0 hw [] ((((p6.toUInt32 >>> ((3 : Int32) &&& 31).toUInt32).toInt32) &&& (255 : Int32)) % (1 : Int32)) z0 z1 z2 z3 z4 z5 h494 n0 Z0) hZ (ww hw 58 rfl) (ww hw 57 rfl) (by decide) (by decide)) (g := (mkF m 386 (lo0_103 p1 p2 p3 p4 p5 p6 z0 z1 z2 z3 z4 z5 b360 b494) [(.long z5), (.long z4), (.long z3), (.long z2), (.long z1), (.long z0), (.int ((((p6.toUInt32 >>> ((3 : Int32) &&& 31).toUInt32).toInt32) &&& (255 : Int32)) % (1 : Int32)))])) rfl (by rw [hml]; rfl) (argsL := [(.int ((((p6.toUInt32 >>> ((3 : Int32) &&& 31).toUInt32).toInt32) &&& (255 : Int32)) % (1 : Int32))), (.long z0), (.long z1), (.long z2), (.long z3), (.long z4), (.long z5)]) (rest := []) (lenOf pd_10 rfl) rfl (by show 2 * 0 + _ ≤ _; exact Nat.le_of_eq rfl) (hb hby at_386) (fun _ _ => ⟨rfl, e496, (by decide : 4 + 0 ≤ _), (by decide : 8 + 0 ≤ _)⟩)
      dsimp only [Pt.U, Pt.locs, Pt.cells, Pt.slots] at X499 l499 y499 z499 st499 hQ499
      subst l499 y499 z499
      obtain ⟨rfl, N499q, e499⟩ := hQ499
      have N499 := Fr.app N496 N499q
      have pre501 : GO p e below (T499.setTop (mkF m 410 (lo0_105 p1 p2 p3 p4 p5 p6 z0 z1 z2 z3 z4 z5 b360 b494) [(.int (lcmpW (((f9 ((((p6.toUInt32 >>> ((3 : Int32) &&& 31).toUInt32).toInt32) &&& (255 : Int32)) % (1 : Int32)) z0 z1 z2 z3 z4 z5) + (((p6 &&& (3 : Int32)) % (3 : Int32)).toInt64)) - (1 : Int64)) (2147483647 : Int64)))])) (s₁.setTop (entryFrame m #[(.int p1), (.int p2), (.int p3), (.int p4), (.int p5), (.int p6)] maxLocals)) := fun t k => by
        refine pre498 _ ?_
        refine y_ifYes X496 hx hby (pc' := 359) at_348 ((if0 _ _).trans (teq hc497).1) (by decide) (by decide) ?_
        refine y_iload X496 hx hby at_359 rfl ?_
        refine y_iconst X496 hx hby (v := (3 : Int32)) at_361 rfl ?_
        refine y_iushr X496 hx hby at_362 ?_
        refine y_sipush X496 hx hby (v := (255 : Int32)) at_363 rfl ?_
        refine y_iand X496 hx hby at_366 ?_
        refine y_iload X496 hx hby at_367 rfl ?_
        refine Jvm.RoadKit.iremM X496 hx rfl (hb hby at_369) rfl (by decide) ?_
        show Steps p.tables e below (T496.setTop (mkF m 370 (lo0_102 p1 p2 p3 p4 p5 p6 z0 z1 z2 z3 z4 z5 b360 b494) [(.int ((((p6.toUInt32 >>> ((3 : Int32) &&& 31).toUInt32).toInt32) &&& (255 : Int32)) % (1 : Int32)))])) _
        refine y_istore X496 hx hby at_370 (l' := (lo0_103 p1 p2 p3 p4 p5 p6 z0 z1 z2 z3 z4 z5 b360 b494)) rfl ?_
        refine y_iload X496 hx hby at_372 rfl ?_
        refine y_lload X496 hx hby at_374 rfl ?_
        refine y_lload X496 hx hby at_376 rfl ?_
        refine y_lload X496 hx hby at_378 rfl ?_
        refine y_lload X496 hx hby at_380 rfl ?_
        refine y_lload X496 hx hby at_382 rfl ?_
        refine y_lload X496 hx hby at_384 rfl ?_
        refine st499 _ ?_
        show Steps p.tables e below (T499.setTop (mkF m 389 (lo0_103 p1 p2 p3 p4 p5 p6 z0 z1 z2 z3 z4 z5 b360 b494) [(.long (f9 ((((p6.toUInt32 >>> ((3 : Int32) &&& 31).toUInt32).toInt32) &&& (255 : Int32)) % (1 : Int32)) z0 z1 z2 z3 z4 z5))])) _
        refine y_lstore X499 hx hby at_389 (l' := (lo0_104 p1 p2 p3 p4 p5 p6 z0 z1 z2 z3 z4 z5 b360 b494)) rfl ?_
        refine y_lload X499 hx hby at_391 rfl ?_
        refine y_iload X499 hx hby at_393 rfl ?_
        refine y_iconst X499 hx hby (v := (3 : Int32)) at_395 rfl ?_
        refine y_iand X499 hx hby at_396 ?_
        refine y_iconst X499 hx hby (v := (3 : Int32)) at_397 rfl ?_
        refine Jvm.RoadKit.iremM X499 hx rfl (hb hby at_398) rfl (by decide) ?_
        show Steps p.tables e below (T499.setTop (mkF m 399 (lo0_104 p1 p2 p3 p4 p5 p6 z0 z1 z2 z3 z4 z5 b360 b494) [(.int ((p6 &&& (3 : Int32)) % (3 : Int32))), (.long (f9 ((((p6.toUInt32 >>> ((3 : Int32) &&& 31).toUInt32).toInt32) &&& (255 : Int32)) % (1 : Int32)) z0 z1 z2 z3 z4 z5))])) _
        refine y_i2l X499 hx hby at_399 ?_
        refine y_ladd X499 hx hby at_400 ?_
        refine y_lconst X499 hx hby (v := (1 : Int64)) at_401 rfl ?_
        refine y_lsub X499 hx hby at_402 ?_
        refine y_lstore X499 hx hby at_403 (l' := (lo0_105 p1 p2 p3 p4 p5 p6 z0 z1 z2 z3 z4 z5 b360 b494)) rfl ?_
        refine y_lload X499 hx hby at_405 rfl ?_
        refine y_lload X499 hx hby at_407 rfl ?_
        refine y_lcmp X499 hx hby at_409 ?_
        exact k
      obtain ⟨T505, L505, X505, N505, e505, pre505⟩ : ∃ T' L', Stand p l e room_1 s m #[(.int p1), (.int p2), (.int p3), (.int p4), (.int p5), (.int p6)] below meth c T' L' 4 8 ∧ Fr n0 L' ∧ T'.heap = h494 ∧ ∀ t, Steps p.tables e below (T'.setTop (mkF m 425 #[.val (.int p1), .val (.int p2), .val (.int p3), .val (.int p4), .val (.int p5), .val (.int p6), .val (.long (2147483647 : Int64)), .second, .val (.long (-2147483648 : Int64)), .second, .val (.long z0), .second, .val (.long z1), .second, .val (.long z2), .second, .val (.long z3), .second, .val (.long z4), .second, .val (.long z5), .second, .val (.int (mg0_80a p1 p2 p3 p4 p5 p6 z1 z2 z3 z4 z5)), .val (.int ((p1 &&& (2147483647 : Int32)) % (7 : Int32))), .val (.int (0 : Int32)), .val (.ref b360), .val (.ref b494), .val (.int (1 : Int32)), .val (.int ((((p1.toUInt32 >>> ((8 : Int32) &&& 31).toUInt32).toInt32) &&& (255 : Int32)) % (1 : Int32))), .val (.long (mg0_410g p1 p2 p3 p4 p5 p6 z0 z1 z2 z3 z4 z5)), .second, .val (.int ((((p6.toUInt32 >>> ((3 : Int32) &&& 31).toUInt32).toInt32) &&& (255 : Int32)) % (1 : Int32))), .val (.long (f9 ((((p6.toUInt32 >>> ((3 : Int32) &&& 31).toUInt32).toInt32) &&& (255 : Int32)) % (1 : Int32)) z0 z1 z2 z3 z4 z5)), .second] [])) t → Steps p.tables e below (s₁.setTop (entryFrame m #[(.int p1), (.int p2), (.int p3), (.int p4), (.int p5), (.int p6)] maxLocals)) t := by
        by_cases hc500 : (2147483647 : Int64) < (((f9 ((((p6.toUInt32 >>> ((3 : Int32) &&& 31).toUInt32).toInt32) &&& (255 : Int32)) % (1 : Int32)) z0 z1 z2 z3 z4 z5) + (((p6 &&& (3 : Int32)) % (3 : Int32)).toInt64)) - (1 : Int64))
        · rw [show mg0_410g p1 p2 p3 p4 p5 p6 z0 z1 z2 z3 z4 z5 = (f9 ((((p6.toUInt32 >>> ((3 : Int32) &&& 31).toUInt32).toInt32) &&& (255 : Int32)) % (1 : Int32)) z0 z1 z2 z3 z4 z5) from if_pos hc500]
          refine ⟨T499, _, X499, N499, e499, fun t k => ?_⟩
          refine pre501 _ ?_
          refine y_ifYes X499 hx hby (pc' := 421) at_410 ((if0 _ _).trans (tlt ((lw_gt (((f9 ((((p6.toUInt32 >>> ((3 : Int32) &&& 31).toUInt32).toInt32) &&& (255 : Int32)) % (1 : Int32)) z0 z1 z2 z3 z4 z5) + (((p6 &&& (3 : Int32)) % (3 : Int32)).toInt64)) - (1 : Int64)) (2147483647 : Int64)).mpr hc500)).2.2.1) (by decide) (by decide) ?_
          refine y_lload X499 hx hby at_421 rfl ?_
          refine y_lstore X499 hx hby at_423 (l' := (lo0_106 p1 p2 p3 p4 p5 p6 z0 z1 z2 z3 z4 z5 b360 b494)) rfl ?_
          exact k
        · rw [show mg0_410g p1 p2 p3 p4 p5 p6 z0 z1 z2 z3 z4 z5 = (mg0_418g p1 p2 p3 p4 p5 p6 z0 z1 z2 z3 z4 z5) from if_neg hc500]
          have pre503 : GO p e below (T499.setTop (mkF m 418 (lo0_105 p1 p2 p3 p4 p5 p6 z0 z1 z2 z3 z4 z5 b360 b494) [(.int (lcmpW (((f9 ((((p6.toUInt32 >>> ((3 : Int32) &&& 31).toUInt32).toInt32) &&& (255 : Int32)) % (1 : Int32)) z0 z1 z2 z3 z4 z5) + (((p6 &&& (3 : Int32)) % (3 : Int32)).toInt64)) - (1 : Int64)) (-2147483648 : Int64)))])) (s₁.setTop (entryFrame m #[(.int p1), (.int p2), (.int p3), (.int p4), (.int p5), (.int p6)] maxLocals)) := fun t k => by
            refine pre501 _ ?_
            refine y_ifNo X499 hx hby at_410 ((if0 _ _).trans (flt (fun q => hc500 ((lw_gt (((f9 ((((p6.toUInt32 >>> ((3 : Int32) &&& 31).toUInt32).toInt32) &&& (255 : Int32)) % (1 : Int32)) z0 z1 z2 z3 z4 z5) + (((p6 &&& (3 : Int32)) % (3 : Int32)).toInt64)) - (1 : Int64)) (2147483647 : Int64)).mp q))).2.2.1) ?_
            refine y_lload X499 hx hby at_413 rfl ?_
            refine y_lload X499 hx hby at_415 rfl ?_
            refine y_lcmp X499 hx hby at_417 ?_
            exact k
          obtain ⟨T504, L504, X504, N504, e504, pre504⟩ : ∃ T' L', Stand p l e room_1 s m #[(.int p1), (.int p2), (.int p3), (.int p4), (.int p5), (.int p6)] below meth c T' L' 4 8 ∧ Fr n0 L' ∧ T'.heap = h494 ∧ ∀ t, Steps p.tables e below (T'.setTop (mkF m 425 #[.val (.int p1), .val (.int p2), .val (.int p3), .val (.int p4), .val (.int p5), .val (.int p6), .val (.long (2147483647 : Int64)), .second, .val (.long (-2147483648 : Int64)), .second, .val (.long z0), .second, .val (.long z1), .second, .val (.long z2), .second, .val (.long z3), .second, .val (.long z4), .second, .val (.long z5), .second, .val (.int (mg0_80a p1 p2 p3 p4 p5 p6 z1 z2 z3 z4 z5)), .val (.int ((p1 &&& (2147483647 : Int32)) % (7 : Int32))), .val (.int (0 : Int32)), .val (.ref b360), .val (.ref b494), .val (.int (1 : Int32)), .val (.int ((((p1.toUInt32 >>> ((8 : Int32) &&& 31).toUInt32).toInt32) &&& (255 : Int32)) % (1 : Int32))), .val (.long (mg0_418g p1 p2 p3 p4 p5 p6 z0 z1 z2 z3 z4 z5)), .second, .val (.int ((((p6.toUInt32 >>> ((3 : Int32) &&& 31).toUInt32).toInt32) &&& (255 : Int32)) % (1 : Int32))), .val (.long (f9 ((((p6.toUInt32 >>> ((3 : Int32) &&& 31).toUInt32).toInt32) &&& (255 : Int32)) % (1 : Int32)) z0 z1 z2 z3 z4 z5)), .second] [])) t → Steps p.tables e below (s₁.setTop (entryFrame m #[(.int p1), (.int p2), (.int p3), (.int p4), (.int p5), (.int p6)] maxLocals)) t := by
            by_cases hc502 : (((f9 ((((p6.toUInt32 >>> ((3 : Int32) &&& 31).toUInt32).toInt32) &&& (255 : Int32)) % (1 : Int32)) z0 z1 z2 z3 z4 z5) + (((p6 &&& (3 : Int32)) % (3 : Int32)).toInt64)) - (1 : Int64)) < (-2147483648 : Int64)
            · rw [show mg0_418g p1 p2 p3 p4 p5 p6 z0 z1 z2 z3 z4 z5 = (f9 ((((p6.toUInt32 >>> ((3 : Int32) &&& 31).toUInt32).toInt32) &&& (255 : Int32)) % (1 : Int32)) z0 z1 z2 z3 z4 z5) from if_pos hc502]
              refine ⟨T499, _, X499, N499, e499, fun t k => ?_⟩
              refine pre503 _ ?_
              refine y_ifNo X499 hx hby at_418 ((if0 _ _).trans (tlt ((lw_lt (((f9 ((((p6.toUInt32 >>> ((3 : Int32) &&& 31).toUInt32).toInt32) &&& (255 : Int32)) % (1 : Int32)) z0 z1 z2 z3 z4 z5) + (((p6 &&& (3 : Int32)) % (3 : Int32)).toInt64)) - (1 : Int64)) (-2147483648 : Int64)).mpr hc502)).2.1) ?_
              refine y_lload X499 hx hby at_421 rfl ?_
              refine y_lstore X499 hx hby at_423 (l' := (lo0_106 p1 p2 p3 p4 p5 p6 z0 z1 z2 z3 z4 z5 b360 b494)) rfl ?_
              exact k
            · rw [show mg0_418g p1 p2 p3 p4 p5 p6 z0 z1 z2 z3 z4 z5 = (((f9 ((((p6.toUInt32 >>> ((3 : Int32) &&& 31).toUInt32).toInt32) &&& (255 : Int32)) % (1 : Int32)) z0 z1 z2 z3 z4 z5) + (((p6 &&& (3 : Int32)) % (3 : Int32)).toInt64)) - (1 : Int64)) from if_neg hc502]
              refine ⟨T499, _, X499, N499, e499, fun t k => ?_⟩
              refine pre503 _ ?_
              refine y_ifYes X499 hx hby (pc' := 425) at_418 ((if0 _ _).trans (flt (fun q => hc502 ((lw_lt (((f9 ((((p6.toUInt32 >>> ((3 : Int32) &&& 31).toUInt32).toInt32) &&& (255 : Int32)) % (1 : Int32)) z0 z1 z2 z3 z4 z5) + (((p6 &&& (3 : Int32)) % (3 : Int32)).toInt64)) - (1 : Int64)) (-2147483648 : Int64)).mp q))).2.1) (by decide) (by decide) ?_
              exact k
          refine ⟨T504, _, X504, N504, e504, fun t k => ?_⟩
          refine pre504 _ ?_
          exact k
      have hp := own_rg6 p1 p2 p3 p4 p5 p6 z0 z1 z2 z3 z4 z5 o1 o2 o3 o4 o5 lo
      have pre506 : GO p e below (T505.setTop (mkF m 513 (lo0_107 p1 p2 p3 p4 p5 p6 z0 z1 z2 z3 z4 z5 b360 b494) [(.int (ex0 (0 : Int32) (mg0_410g p1 p2 p3 p4 p5 p6 z0 z1 z2 z3 z4 z5) z0 z1 z2 z3 z4 z5))])) (s₁.setTop (entryFrame m #[(.int p1), (.int p2), (.int p3), (.int p4), (.int p5), (.int p6)] maxLocals)) := fun t k => pre505 _ (own_ex0 X505 hx hby rfl rfl rfl rfl rfl rfl rfl rfl k)
      obtain ⟨cq507, kq507, q507a, q507b, q507c⟩ := isOf hZ e505 E_b494
      obtain ⟨_, _, ⟨T507, L507, k507, n507⟩, -, X507, ⟨Lc507, hQ507, l507, y507, z507⟩, st507⟩ := X505.virtualBack hx (y := mn12) (z := mn12) hown (mvT hZ (ww hw 59 rfl)) (mvT hZ (ww hw 60 rfl)) (notFace_of_selects (args := #[]) (mvT hZ (ww hw 62 rfl))) (mvT hZ (ww hw 62 rfl)) (mvT hZ (ww hw 61 rfl)) (by decide) (backOf (W := 0) (rm10_0 l Z a0 hw [] b494 ((mg0_410g p1 p2 p3 p4 p5 p6 z0 z1 z2 z3 z4 z5).toInt32) B494 k494  h494 n0 Z0 E_b494 F_numbers_b494 V_B494) hZ (ww hw 63 rfl) (ww hw 27 rfl) (by decide) (by decide)) q507a q507c (g := (mkF m 520 (lo0_108 p1 p2 p3 p4 p5 p6 z0 z1 z2 z3 z4 z5 b360 b494) [(.int ((mg0_410g p1 p2 p3 p4 p5 p6 z0 z1 z2 z3 z4 z5).toInt32)), (.ref b494)])) rfl (by rw [hml]; rfl) (Steps.refl _) (argsL := [(.int ((mg0_410g p1 p2 p3 p4 p5 p6 z0 z1 z2 z3 z4 z5).toInt32))]) (rest := []) (lenOf pd_11 rfl) rfl (by show 2 * 0 + _ ≤ _; exact Nat.le_of_eq rfl) (hb hby at_520) (fun _ _ => ⟨rfl, e505, (by decide : 4 + 0 ≤ _), (by decide : 8 + 0 ≤ _)⟩)
      dsimp only [Pt.U, Pt.locs, Pt.cells, Pt.slots] at X507 l507 y507 z507 st507 hQ507
      subst l507 y507 z507
      obtain ⟨rfl, N507q, e507⟩ := hQ507
      have N507 := Fr.app N505 N507q
      obtain ⟨fs, hr, hrun, hended, hW, hsame⟩ := X507.leave (v := some (.int (1 : Int32))) (fun h => by rw [Bd.returns] at h; cases h)
      refine ⟨_, _, pre506 _ ?_, hrun, hended, _, _, rfl, ?_, ⟨_, rfl⟩, hW, hsame.mono (by decide) (by decide)⟩
      · refine y_istore X505 hx hby at_513 (l' := (lo0_108 p1 p2 p3 p4 p5 p6 z0 z1 z2 z3 z4 z5 b360 b494)) rfl ?_
        refine y_aload X505 hx hby at_515 rfl rfl ?_
        refine y_lload X505 hx hby at_517 rfl ?_
        refine y_l2i X505 hx hby at_519 ?_
        refine st507.trans ?_
        show Steps p.tables e below (T507.setTop (mkF m 523 (lo0_108 p1 p2 p3 p4 p5 p6 z0 z1 z2 z3 z4 z5 b360 b494) [(.int (ct_0 ((mg0_410g p1 p2 p3 p4 p5 p6 z0 z1 z2 z3 z4 z5).toInt32)))])) _
        refine y_iload X507 hx hby at_523 rfl ?_
        refine y_icmpNo X507 hx hby at_525 (teq (own_fin0 _ z0 z1 z2 z3 z4 z5 o1 o2 o3 o4 o5 lo hp)).2 ?_
        refine y_iconst X507 hx hby (v := (1 : Int32)) at_528 rfl ?_
        refine y_goto X507 hx hby (pc' := 533) at_529 (by decide) (by decide) ?_
        exact retN X507 hx (t := .boolean) Bd.returns (by simp) (hb hby at_533) hr
      · exact ⟨rfl, N507⟩
    · have pre508 : GO p e below (T496.setTop (mkF m 425 (lo0_109 p1 p2 p3 p4 p5 p6 z0 z1 z2 z3 z4 z5 b360 b494) [])) (s₁.setTop (entryFrame m #[(.int p1), (.int p2), (.int p3), (.int p4), (.int p5), (.int p6)] maxLocals)) := fun t k => by
        refine pre498 _ ?_
        refine y_ifNo X496 hx hby at_348 ((if0 _ _).trans (feq hc497).1) ?_
        refine y_iload X496 hx hby at_351 rfl ?_
        refine y_i2l X496 hx hby at_353 ?_
        refine y_lstore X496 hx hby at_354 (l' := (lo0_109 p1 p2 p3 p4 p5 p6 z0 z1 z2 z3 z4 z5 b360 b494)) rfl ?_
        refine y_goto X496 hx hby (pc' := 425) at_356 (by decide) (by decide) ?_
        exact k
      have hp : -2147483648 ≤ ((p6.toInt64)).toInt ∧ ((p6.toInt64)).toInt ≤ 2147483647 := by rw [c_i2l]; have := rng32 p6; omega
      have pre509 : GO p e below (T496.setTop (mkF m 513 (lo0_109 p1 p2 p3 p4 p5 p6 z0 z1 z2 z3 z4 z5 b360 b494) [(.int (ex0 (0 : Int32) (p6.toInt64) z0 z1 z2 z3 z4 z5))])) (s₁.setTop (entryFrame m #[(.int p1), (.int p2), (.int p3), (.int p4), (.int p5), (.int p6)] maxLocals)) := fun t k => pre508 _ (own_ex0 X496 hx hby rfl rfl rfl rfl rfl rfl rfl rfl k)
      obtain ⟨cq510, kq510, q510a, q510b, q510c⟩ := isOf hZ e496 E_b494
      obtain ⟨_, _, ⟨T510, L510, k510, n510⟩, -, X510, ⟨Lc510, hQ510, l510, y510, z510⟩, st510⟩ := X496.virtualBack hx (y := mn12) (z := mn12) hown (mvT hZ (ww hw 59 rfl)) (mvT hZ (ww hw 60 rfl)) (notFace_of_selects (args := #[]) (mvT hZ (ww hw 62 rfl))) (mvT hZ (ww hw 62 rfl)) (mvT hZ (ww hw 61 rfl)) (by decide) (backOf (W := 0) (rm10_0 l Z a0 hw [] b494 ((p6.toInt64).toInt32) B494 k494  h494 n0 Z0 E_b494 F_numbers_b494 V_B494) hZ (ww hw 63 rfl) (ww hw 27 rfl) (by decide) (by decide)) q510a q510c (g := (mkF m 520 (lo0_110 p1 p2 p3 p4 p5 p6 z0 z1 z2 z3 z4 z5 b360 b494) [(.int ((p6.toInt64).toInt32)), (.ref b494)])) rfl (by rw [hml]; rfl) (Steps.refl _) (argsL := [(.int ((p6.toInt64).toInt32))]) (rest := []) (lenOf pd_11 rfl) rfl (by show 2 * 0 + _ ≤ _; exact Nat.le_of_eq rfl) (hb hby at_520) (fun _ _ => ⟨rfl, e496, (by decide : 4 + 0 ≤ _), (by decide : 8 + 0 ≤ _)⟩)
      dsimp only [Pt.U, Pt.locs, Pt.cells, Pt.slots] at X510 l510 y510 z510 st510 hQ510
      subst l510 y510 z510
      obtain ⟨rfl, N510q, e510⟩ := hQ510
      have N510 := Fr.app N496 N510q
      obtain ⟨fs, hr, hrun, hended, hW, hsame⟩ := X510.leave (v := some (.int (1 : Int32))) (fun h => by rw [Bd.returns] at h; cases h)
      refine ⟨_, _, pre509 _ ?_, hrun, hended, _, _, rfl, ?_, ⟨_, rfl⟩, hW, hsame.mono (by decide) (by decide)⟩
      · refine y_istore X496 hx hby at_513 (l' := (lo0_110 p1 p2 p3 p4 p5 p6 z0 z1 z2 z3 z4 z5 b360 b494)) rfl ?_
        refine y_aload X496 hx hby at_515 rfl rfl ?_
        refine y_lload X496 hx hby at_517 rfl ?_
        refine y_l2i X496 hx hby at_519 ?_
        refine st510.trans ?_
        show Steps p.tables e below (T510.setTop (mkF m 523 (lo0_110 p1 p2 p3 p4 p5 p6 z0 z1 z2 z3 z4 z5 b360 b494) [(.int (ct_0 ((p6.toInt64).toInt32)))])) _
        refine y_iload X510 hx hby at_523 rfl ?_
        refine y_icmpNo X510 hx hby at_525 (teq (own_fin0 _ z0 z1 z2 z3 z4 z5 o1 o2 o3 o4 o5 lo hp)).2 ?_
        refine y_iconst X510 hx hby (v := (1 : Int32)) at_528 rfl ?_
        refine y_goto X510 hx hby (pc' := 533) at_529 (by decide) (by decide) ?_
        exact retN X510 hx (t := .boolean) Bd.returns (by simp) (hb hby at_533) hr
      · exact ⟨rfl, N510⟩
set_option maxRecDepth 65536 in
set_option maxHeartbeats 40000000 in
theorem comes_1 {Post : Tables → Env → Array Value → State → Outcome → State → Prop} (hpost : ∀ tb e args s v u, (limb_1_1.after args s (.returned v) u = true ∧ limb_1_2.after args s (.returned v) u = true ∧ True) → FrameEnd s (.returned v) u (Jvm.fieldLocs frame_1_writes args s ++ Jvm.arrayLocs frame_1_arrays args s ++ Jvm.staticLocs frame_1_statics s) 24 128 → Post tb e args s (.returned v) u) :
    ArmFor flags0 classFile x code maxLocals ret World_1 tables_1 room_1 Calls_1 rest_1 Pre_1 Post := by
  intro l hfl _ _ p e ha hc hk s m args below hf hA hF happ hP
  obtain ⟨hcalls, hrest, hpre⟩ := hP
  obtain ⟨-, -, -, hnamed, -, -, -, hat⟩ := (Spec.applies_iff hf).mp happ
  obtain ⟨hg, hn⟩ := and_e (Cond.before_iff.mp (show (Jvm.Cond.and given_1 narrow_1).before args s = true from hpre))
  obtain ⟨gc, gr0⟩ := and_e hg
  obtain ⟨g0, gr1⟩ := and_e gr0
  obtain ⟨g1, gr2⟩ := and_e gr1
  obtain ⟨g2, gr3⟩ := and_e gr2
  obtain ⟨g3, gr4⟩ := and_e gr3
  obtain ⟨g4, gr5⟩ := and_e gr4
  obtain ⟨w0, w1, w2, w3, w4, w5, rfl⟩ : ∃ w0 w1 w2 w3 w4 w5 : Value, args = #[w0, w1, w2, w3, w4, w5] := by
    have hs : args.size = 6 := by simpa [Cond.value, given_1] using gc
    obtain ⟨L⟩ := args
    match L, hs with
    | [w0, w1, w2, w3, w4, w5], _ => exact ⟨w0, w1, w2, w3, w4, w5, rfl⟩
  have hw := fun d (hd : d ∈ tables_1) => atoms_spec (ws := Jvm.Cond.code x code maxLocals ret :: tables_1) hat d (List.mem_cons_of_mem _ hd)
  have hfit : Fit s := fun {y c} hc i hi => by
    obtain ⟨ha, rfl⟩ := Array.getElem?_eq_some_iff.mp hc
    have q := List.all_eq_true.mp ((Array.all_eq_true_iff_forall_mem.mp hF) _ (Array.getElem_mem ha)) i (List.mem_range.mpr hi)
    simpa [Array.getElem?_eq_getElem hi] using q
  obtain ⟨i0, ei0⟩ := is_v g0
  obtain rfl : w0 = (.int i0) := Option.some.inj ei0
  obtain ⟨i1, ei1⟩ := is_v g1
  obtain rfl : w1 = (.int i1) := Option.some.inj ei1
  obtain ⟨i2, ei2⟩ := is_v g2
  obtain rfl : w2 = (.int i2) := Option.some.inj ei2
  obtain ⟨i3, ei3⟩ := is_v g3
  obtain rfl : w3 = (.int i3) := Option.some.inj ei3
  obtain ⟨i4, ei4⟩ := is_v g4
  obtain rfl : w4 = (.int i4) := Option.some.inj ei4
  obtain ⟨i5, ei5⟩ := is_v gr5
  obtain rfl : w5 = (.int i5) := Option.some.inj ei5
  obtain ⟨n, o, h1, h2, h3, _, L, rfl, ⟨rfl, N⟩, hq⟩ := rm0 l s _ hw tables_1 i0 i1 i2 i3 i4 i5 s.heap s.heap.size (Nat.le_refl _)  p e ha hc hk s m _ below hf ((Spec.applies_iff_loose hf).mp happ).1 ⟨rfl, State.Warmed39.refl s, rfl⟩ trivial
  refine ⟨n, _, h1, h2, h3, hpost _ _ _ _ _ _ ⟨Cond.after_iff.mpr rfl, Cond.after_iff.mpr (eq_i res_at (Term.int_eval (1)) rfl), trivial⟩ ⟨hq.1, hq.2.1, (hq.2.2.sift fun y hy => Or.inr (N y hy)).mono (by decide) (by decide)⟩⟩
theorem main_1_1 : Claimed_1_1 := comes_1 fun _ _ _ _ _ _ h hF => ⟨h.1, hF⟩
theorem main_1_2 : Claimed_1_2 := comes_1 fun _ _ _ _ _ _ h hF => ⟨h.2.1, hF⟩
end Jvm.Pilot.@@N@@
namespace Jvm.Pilot.@@N@@
open Jvm Jvm.ClassFile Sem Op Lib Jvm.Free Jvm.Stand Jvm.Pilot.@@N@@.Jvm.D
/-! MADE BY PROGRAM (witnessworld.py) out of the Statement's table words and the real class files: 13 classes; the members and pool entries that the words name. The judged class is class 1, her method 2. -/
namespace start1
open Jvm.ClassFile
def u (s : String) : CpInfo := .utf8 (stringToUtf16 s)
/-- a pool by its gaps: so many unusable entries, then the entry; so many at the end -/
def gap : Nat → List CpInfo → List CpInfo
  | 0, r => r
  | n + 1, r => .unusable :: gap n r
def poolList (es : List (Nat × CpInfo)) (last : Nat) : List CpInfo := es.foldr (fun e r => gap e.1 (e.2 :: r)) (gap last [])
def pool (es : List (Nat × CpInfo)) (last : Nat) : Array CpInfo := ⟨poolList es last⟩
def fileOf (pool : Array CpInfo) (this : Nat) (attrs : Array Attribute := #[]) (ms : Array MethodInfo := #[]) (fl : Nat := 33) (sup : Nat := 0) (ifs : Array Nat := #[]) (fds : Array FieldInfo := #[]) : ClassFile where
  minorVersion := 0
  majorVersion := 65
  constantPool := pool
  accessFlags := fl
  thisClass := this
  superClass := sup
  interfaces := ifs
  fields := fds
  methods := ms
  attributes := attrs
def plain (name : String) (sup : Option ClassId) : Class where
  name := name
  kind := .ordinary
  loader := none
  accessFlags := 33
  super := sup
  interfaces := #[]
  cf := none
  fields := #[]
  methods := #[]
  instanceTypes := #[]
  staticTypes := #[]
  resolved := #[]
  callSites := []
  init := .initialized
  statics := none
  mirror := none

def pool0 : Array CpInfo := pool [(5, u "<init>"), (0, u "()V"), (1, .class_ 10), (1, u "java/lang/Object"), (85, u "clone"), (0, u "()Ljava/lang/Object;")] 26

def k0c0 : Code := { maxStack := 0, maxLocals := 1, code := object_method_1_code, exceptionTable := #[], attributes := #[] }
def k0m0 : Method := { name := "<init>", desc := "()V", sig := { parameters := [], returnType := none }, accessFlags := 1, code := some k0c0 }
def k0m1 : Method := { name := "clone", desc := "()Ljava/lang/Object;", sig := { parameters := [], returnType := some (.object "java/lang/Object") }, accessFlags := 260, code := none }
/-- java/lang/Object -/
def k0 : Class := { plain "java/lang/Object" none with
  accessFlags := 33
  interfaces := #[]
  cf := some (fileOf pool0 8 #[] #[{ accessFlags := 1, nameIndex := 5, descriptorIndex := 6, attributes := #[] }, { accessFlags := 260, nameIndex := 96, descriptorIndex := 97, attributes := #[] }] 33 0 #[] #[])
  fields := #[]
  methods := #[k0m0, k0m1]
  instanceTypes := #[]
  staticTypes := #[]
  resolved := Array.replicate 124 none
  statics := none }

def pool1 : Array CpInfo := pool [(2, .class_ 4), (0, .nameAndType 5 6), (0, u "java/lang/Object"), (0, u "<init>"), (0, u "()V"), (2, .long 2147483647), (1, .long 18446744071562067968), (1, .integer 65535), (0, .integer 2147483647), (0, .methodref 16 17), (0, .class_ 18), (0, .nameAndType 19 20), (0, u "java/lang/Math"), (0, u "min"), (0, u "(II)I"), (0, .class_ 22), (0, u "com/example/hard_delay_bounds/harddelaybounds/analysis/FlowSet$Builder"), (0, .methodref 21 3), (0, .methodref 21 25), (0, .nameAndType 26 27), (0, u "add"), (0, u "(I)Lcom/example/hard_delay_bounds/harddelaybounds/analysis/FlowSet$Builder;"), (0, .methodref 21 29), (0, .nameAndType 30 31), (0, u "build"), (0, u "()Lcom/example/hard_delay_bounds/harddelaybounds/analysis/FlowSet;"), (0, .methodref 33 34), (0, .class_ 35), (0, .nameAndType 36 37), (0, u "com/example/hard_delay_bounds/harddelaybounds/analysis/FlowSet"), (0, u "size"), (0, u "()I"), (0, .methodref 16 39), (0, .nameAndType 40 20), (0, u "max"), (0, .methodref 42 43), (0, .class_ 44), (0, .nameAndType 45 46), (0, u "com/example/hard_delay_bounds/harddelaybounds/analysis/FlowSetBuildPinLaw"), (0, u "pick"), (0, u "(IJJJJJJ)J"), (0, .methodref 33 48), (0, .nameAndType 49 50), (0, u "number"), (0, u "(I)I"), (0, .methodref 33 52), (0, .nameAndType 53 54), (0, u "contains"), (0, u "(I)Z"), (3, u "law"), (0, u "(IIIIII)Z")] 4

def k1m0 : Method := { name := "<init>", desc := "()V", sig := { parameters := [], returnType := none }, accessFlags := 1, code := none }
def k1c1 : Code := { maxStack := 2, maxLocals := 13, code := method_2_code, exceptionTable := #[], attributes := #[] }
def k1m1 : Method := { name := "pick", desc := "(IJJJJJJ)J", sig := { parameters := [.int, .long, .long, .long, .long, .long, .long], returnType := some .long }, accessFlags := 10, code := some k1c1 }
def k1c2 : Code := { maxStack := 13, maxLocals := 34, code := code, exceptionTable := #[], attributes := #[] }
def k1m2 : Method := { name := "law", desc := "(IIIIII)Z", sig := { parameters := [.int, .int, .int, .int, .int, .int], returnType := some .boolean }, accessFlags := 9, code := some k1c2 }
/-- com/example/hard_delay_bounds/harddelaybounds/analysis/FlowSetBuildPinLaw -/
def k1 : Class := { plain "com/example/hard_delay_bounds/harddelaybounds/analysis/FlowSetBuildPinLaw" (some 0) with
  accessFlags := 49
  interfaces := #[]
  cf := some (fileOf pool1 42 #[] #[{ accessFlags := 1, nameIndex := 5, descriptorIndex := 6, attributes := #[] }, { accessFlags := 10, nameIndex := 45, descriptorIndex := 46, attributes := #[] }, { accessFlags := 9, nameIndex := 58, descriptorIndex := 59, attributes := #[] }] 49 2 #[] #[])
  fields := #[]
  methods := #[k1m0, k1m1, k1m2]
  instanceTypes := #[]
  staticTypes := #[]
  resolved := Array.replicate 64 none
  statics := none }

def pool2 : Array CpInfo := pool [(1, .class_ 2), (0, u "java/lang/Math"), (1, .class_ 6), (1, u "java/lang/Object"), (0, u "<init>"), (0, u "()V"), (89, .class_ 100), (1, u "java/lang/Math$RandomNumberGeneratorHolder"), (71, u "negativeZeroFloatBits"), (0, u "J"), (2, u "negativeZeroDoubleBits"), (21, u "max"), (2, u "min"), (43, u "$assertionsDisabled"), (0, u "Z"), (88, u "(II)I"), (2, u "twoToTheDoubleScaleDown"), (0, u "D"), (4, u "twoToTheDoubleScaleUp"), (9, u "E"), (3, u "PI"), (2, u "TAU"), (2, u "DEGREES_TO_RADIANS"), (0, u "RADIANS_TO_DEGREES")] 94

def k2m0 : Method := { name := "<init>", desc := "()V", sig := { parameters := [], returnType := none }, accessFlags := 2, code := none }
def k2c1 : Code := { maxStack := 2, maxLocals := 2, code := jdk_29_method_65_code, exceptionTable := #[], attributes := #[] }
def k2m1 : Method := { name := "max", desc := "(II)I", sig := { parameters := [.int, .int], returnType := some .int }, accessFlags := 9, code := some k2c1 }
def k2c2 : Code := { maxStack := 2, maxLocals := 2, code := jdk_29_method_69_code, exceptionTable := #[], attributes := #[] }
def k2m2 : Method := { name := "min", desc := "(II)I", sig := { parameters := [.int, .int], returnType := some .int }, accessFlags := 9, code := some k2c2 }
/-- java/lang/Math -/
def k2 : Class := { plain "java/lang/Math" (some 0) with
  accessFlags := 49
  interfaces := #[]
  cf := some (fileOf pool2 1 #[.nestMembers #[98]] #[{ accessFlags := 2, nameIndex := 7, descriptorIndex := 8, attributes := #[] }, { accessFlags := 9, nameIndex := 198, descriptorIndex := 335, attributes := #[] }, { accessFlags := 9, nameIndex := 201, descriptorIndex := 335, attributes := #[] }] 49 4 #[] #[{ accessFlags := 25, nameIndex := 354, descriptorIndex := 339, attributes := #[] }, { accessFlags := 25, nameIndex := 358, descriptorIndex := 339, attributes := #[] }, { accessFlags := 25, nameIndex := 361, descriptorIndex := 339, attributes := #[] }, { accessFlags := 26, nameIndex := 364, descriptorIndex := 339, attributes := #[] }, { accessFlags := 26, nameIndex := 365, descriptorIndex := 339, attributes := #[] }, { accessFlags := 26, nameIndex := 172, descriptorIndex := 173, attributes := #[] }, { accessFlags := 26, nameIndex := 176, descriptorIndex := 173, attributes := #[] }, { accessFlags := 8, nameIndex := 344, descriptorIndex := 339, attributes := #[] }, { accessFlags := 8, nameIndex := 338, descriptorIndex := 339, attributes := #[] }, { accessFlags := 4120, nameIndex := 245, descriptorIndex := 246, attributes := #[] }])
  fields := #[{ name := "E", type := .double, accessFlags := 25, slot := 0, constantValue := 0 }, { name := "PI", type := .double, accessFlags := 25, slot := 1, constantValue := 0 }, { name := "TAU", type := .double, accessFlags := 25, slot := 2, constantValue := 0 }, { name := "DEGREES_TO_RADIANS", type := .double, accessFlags := 26, slot := 3, constantValue := 0 }, { name := "RADIANS_TO_DEGREES", type := .double, accessFlags := 26, slot := 4, constantValue := 0 }, { name := "negativeZeroFloatBits", type := .long, accessFlags := 26, slot := 5, constantValue := 0 }, { name := "negativeZeroDoubleBits", type := .long, accessFlags := 26, slot := 6, constantValue := 0 }, { name := "twoToTheDoubleScaleUp", type := .double, accessFlags := 8, slot := 7, constantValue := 0 }, { name := "twoToTheDoubleScaleDown", type := .double, accessFlags := 8, slot := 8, constantValue := 0 }, { name := "$assertionsDisabled", type := .boolean, accessFlags := 4120, slot := 9, constantValue := 0 }]
  methods := #[k2m0, k2m1, k2m2]
  instanceTypes := #[]
  staticTypes := #[.double, .double, .double, .double, .double, .long, .long, .double, .double, .boolean]
  resolved := Array.replicate 460 none
  statics := none }

def pool3 : Array CpInfo := pool [(1, .methodref 2 3), (0, .class_ 4), (0, .nameAndType 5 6), (0, u "java/lang/Object"), (0, u "<init>"), (0, u "()V"), (0, .fieldref 8 9), (0, .class_ 10), (0, .nameAndType 11 12), (0, u "com/example/hard_delay_bounds/harddelaybounds/analysis/FlowSet$Builder"), (0, u "numbers"), (0, u "[I"), (0, .fieldref 8 14), (0, .nameAndType 15 16), (0, u "size"), (0, u "I"), (7, .methodref 25 26), (0, .class_ 27), (0, .nameAndType 28 29), (0, u "java/util/Arrays"), (0, u "copyOf"), (0, u "([II)[I"), (0, .class_ 31), (0, u "com/example/hard_delay_bounds/harddelaybounds/analysis/FlowSet"), (0, .methodref 30 33), (0, .nameAndType 5 34), (0, u "([I)V"), (2, u "add"), (0, u "(I)Lcom/example/hard_delay_bounds/harddelaybounds/analysis/FlowSet$Builder;"), (1, u "build"), (0, u "()Lcom/example/hard_delay_bounds/harddelaybounds/analysis/FlowSet;")] 5

def k3c0 : Code := { maxStack := 2, maxLocals := 1, code := prog_18_method_1_code, exceptionTable := #[], attributes := #[] }
def k3m0 : Method := { name := "<init>", desc := "()V", sig := { parameters := [], returnType := none }, accessFlags := 0, code := some k3c0 }
def k3c1 : Code := { maxStack := 5, maxLocals := 2, code := prog_18_method_2_code, exceptionTable := #[], attributes := #[] }
def k3m1 : Method := { name := "add", desc := "(I)Lcom/example/hard_delay_bounds/harddelaybounds/analysis/FlowSet$Builder;", sig := { parameters := [.int], returnType := some (.object "com/example/hard_delay_bounds/harddelaybounds/analysis/FlowSet$Builder") }, accessFlags := 0, code := some k3c1 }
def k3c2 : Code := { maxStack := 4, maxLocals := 1, code := prog_18_method_3_code, exceptionTable := #[], attributes := #[] }
def k3m2 : Method := { name := "build", desc := "()Lcom/example/hard_delay_bounds/harddelaybounds/analysis/FlowSet;", sig := { parameters := [], returnType := some (.object "com/example/hard_delay_bounds/harddelaybounds/analysis/FlowSet") }, accessFlags := 0, code := some k3c2 }
/-- com/example/hard_delay_bounds/harddelaybounds/analysis/FlowSet$Builder -/
def k3 : Class := { plain "com/example/hard_delay_bounds/harddelaybounds/analysis/FlowSet$Builder" (some 0) with
  accessFlags := 48
  interfaces := #[]
  cf := some (fileOf pool3 8 #[.nestHost 30] #[{ accessFlags := 0, nameIndex := 5, descriptorIndex := 6, attributes := #[] }, { accessFlags := 0, nameIndex := 37, descriptorIndex := 38, attributes := #[] }, { accessFlags := 0, nameIndex := 40, descriptorIndex := 41, attributes := #[] }] 48 2 #[] #[{ accessFlags := 2, nameIndex := 11, descriptorIndex := 12, attributes := #[] }, { accessFlags := 2, nameIndex := 15, descriptorIndex := 16, attributes := #[] }])
  fields := #[{ name := "numbers", type := (.array .int), accessFlags := 2, slot := 0, constantValue := 0 }, { name := "size", type := .int, accessFlags := 2, slot := 1, constantValue := 0 }]
  methods := #[k3m0, k3m1, k3m2]
  instanceTypes := #[(.array .int), .int]
  staticTypes := #[]
  resolved := Array.replicate 47 none
  statics := none }

def pool4 : Array CpInfo := pool [(1, .methodref 2 3), (0, .class_ 4), (0, .nameAndType 5 6), (0, u "java/lang/Object"), (0, u "<init>"), (0, u "()V"), (0, .fieldref 8 9), (0, .class_ 10), (0, .nameAndType 11 12), (0, u "com/example/hard_delay_bounds/harddelaybounds/analysis/FlowSet"), (0, u "numbers"), (0, u "[I"), (0, .integer 2654435761), (0, .fieldref 8 15), (0, .nameAndType 16 17), (0, u "hash"), (0, u "I"), (0, .methodref 19 20), (0, .class_ 21), (0, .nameAndType 22 23), (0, u "java/util/Arrays"), (0, u "binarySearch"), (0, u "([II)I"), (0, .methodref 8 25), (0, .nameAndType 26 27), (0, u "indexOf"), (0, u "(I)I"), (2, u "([I)V"), (12, u "size"), (0, u "()I"), (0, u "number"), (0, u "contains"), (0, u "(I)Z"), (9, .class_ 58), (0, u "com/example/hard_delay_bounds/harddelaybounds/analysis/FlowSet$Builder")] 2

def k4c0 : Code := { maxStack := 3, maxLocals := 7, code := prog_17_method_1_code, exceptionTable := #[], attributes := #[] }
def k4m0 : Method := { name := "<init>", desc := "([I)V", sig := { parameters := [(.array .int)], returnType := none }, accessFlags := 2, code := some k4c0 }
def k4c1 : Code := { maxStack := 1, maxLocals := 1, code := prog_17_method_2_code, exceptionTable := #[], attributes := #[] }
def k4m1 : Method := { name := "size", desc := "()I", sig := { parameters := [], returnType := some .int }, accessFlags := 0, code := some k4c1 }
def k4c2 : Code := { maxStack := 2, maxLocals := 2, code := prog_17_method_3_code, exceptionTable := #[], attributes := #[] }
def k4m2 : Method := { name := "number", desc := "(I)I", sig := { parameters := [.int], returnType := some .int }, accessFlags := 0, code := some k4c2 }
def k4c3 : Code := { maxStack := 2, maxLocals := 2, code := prog_17_method_4_code, exceptionTable := #[], attributes := #[] }
def k4m3 : Method := { name := "indexOf", desc := "(I)I", sig := { parameters := [.int], returnType := some .int }, accessFlags := 0, code := some k4c3 }
def k4c4 : Code := { maxStack := 2, maxLocals := 2, code := prog_17_method_5_code, exceptionTable := #[], attributes := #[] }
def k4m4 : Method := { name := "contains", desc := "(I)Z", sig := { parameters := [.int], returnType := some .boolean }, accessFlags := 0, code := some k4c4 }
/-- com/example/hard_delay_bounds/harddelaybounds/analysis/FlowSet -/
def k4 : Class := { plain "com/example/hard_delay_bounds/harddelaybounds/analysis/FlowSet" (some 0) with
  accessFlags := 48
  interfaces := #[]
  cf := some (fileOf pool4 8 #[.nestMembers #[57]] #[{ accessFlags := 2, nameIndex := 5, descriptorIndex := 30, attributes := #[] }, { accessFlags := 0, nameIndex := 43, descriptorIndex := 44, attributes := #[] }, { accessFlags := 0, nameIndex := 45, descriptorIndex := 27, attributes := #[] }, { accessFlags := 0, nameIndex := 26, descriptorIndex := 27, attributes := #[] }, { accessFlags := 0, nameIndex := 46, descriptorIndex := 47, attributes := #[] }] 48 2 #[] #[{ accessFlags := 18, nameIndex := 11, descriptorIndex := 12, attributes := #[] }, { accessFlags := 18, nameIndex := 16, descriptorIndex := 17, attributes := #[] }])
  fields := #[{ name := "numbers", type := (.array .int), accessFlags := 18, slot := 0, constantValue := 0 }, { name := "hash", type := .int, accessFlags := 18, slot := 1, constantValue := 0 }]
  methods := #[k4m0, k4m1, k4m2, k4m3, k4m4]
  instanceTypes := #[(.array .int), .int]
  staticTypes := #[]
  resolved := Array.replicate 61 none
  statics := none }

def pool5 : Array CpInfo := pool [(2, .class_ 4), (1, u "java/lang/Object"), (0, u "<init>"), (0, u "()V"), (7, .class_ 16), (1, u "java/util/Arrays"), (57, .class_ 76), (1, u "java/util/Arrays$NaturalOrder"), (32, u "()Ljava/lang/Object;"), (3, .class_ 115), (1, u "java/util/Arrays$LegacyMergeSort"), (1, u "Z"), (10, .nameAndType 129 109), (0, u "clone"), (20, .methodref 151 152), (0, .class_ 153), (0, .nameAndType 154 155), (0, u "java/lang/System"), (0, u "arraycopy"), (0, u "(Ljava/lang/Object;ILjava/lang/Object;II)V"), (51, u "binarySearch0"), (1, .methodref 14 210), (0, .nameAndType 207 211), (0, u "([IIII)I"), (90, u "copyOf"), (1, .methodref 305 306), (0, .class_ 307), (0, .nameAndType 308 309), (0, u "java/lang/Math"), (0, u "min"), (0, u "(II)I"), (6, .methodref 317 128), (0, .class_ 318), (0, u "[I"), (56, .class_ 376), (0, u "java/util/Arrays$ArrayList"), (68, u "$assertionsDisabled"), (269, u "MIN_ARRAY_SORT_GRAN"), (0, u "I"), (2, u "INSERTIONSORT_THRESHOLD"), (74, u "binarySearch"), (4, u "([II)I"), (71, u "([II)[I"), (103, .class_ 976), (0, u "java/util/Arrays$ArrayItr")] 52

def k5m0 : Method := { name := "<init>", desc := "()V", sig := { parameters := [], returnType := none }, accessFlags := 2, code := none }
def k5c1 : Code := { maxStack := 4, maxLocals := 2, code := jdk_65_method_57_code, exceptionTable := #[], attributes := #[] }
def k5m1 : Method := { name := "binarySearch", desc := "([II)I", sig := { parameters := [(.array .int), .int], returnType := some .int }, accessFlags := 9, code := some k5c1 }
def k5c2 : Code := { maxStack := 2, maxLocals := 8, code := jdk_65_method_59_code, exceptionTable := #[], attributes := #[] }
def k5m2 : Method := { name := "binarySearch0", desc := "([IIII)I", sig := { parameters := [(.array .int), .int, .int, .int], returnType := some .int }, accessFlags := 10, code := some k5c2 }
def k5c3 : Code := { maxStack := 6, maxLocals := 3, code := jdk_65_method_123_code, exceptionTable := #[], attributes := #[] }
def k5m3 : Method := { name := "copyOf", desc := "([II)[I", sig := { parameters := [(.array .int), .int], returnType := some (.array .int) }, accessFlags := 9, code := some k5c3 }
/-- java/util/Arrays -/
def k5 : Class := { plain "java/util/Arrays" (some 0) with
  accessFlags := 49
  interfaces := #[]
  cf := some (fileOf pool5 14 #[.nestMembers #[975, 375, 113, 74]] #[{ accessFlags := 2, nameIndex := 5, descriptorIndex := 6, attributes := #[] }, { accessFlags := 9, nameIndex := 794, descriptorIndex := 799, attributes := #[] }, { accessFlags := 10, nameIndex := 207, descriptorIndex := 211, attributes := #[] }, { accessFlags := 9, nameIndex := 302, descriptorIndex := 871, attributes := #[] }] 49 2 #[] #[{ accessFlags := 26, nameIndex := 715, descriptorIndex := 716, attributes := #[] }, { accessFlags := 26, nameIndex := 719, descriptorIndex := 716, attributes := #[] }, { accessFlags := 4120, nameIndex := 445, descriptorIndex := 117, attributes := #[] }])
  fields := #[{ name := "MIN_ARRAY_SORT_GRAN", type := .int, accessFlags := 26, slot := 0, constantValue := 0 }, { name := "INSERTIONSORT_THRESHOLD", type := .int, accessFlags := 26, slot := 1, constantValue := 0 }, { name := "$assertionsDisabled", type := .boolean, accessFlags := 4120, slot := 2, constantValue := 0 }]
  methods := #[k5m0, k5m1, k5m2, k5m3]
  instanceTypes := #[]
  staticTypes := #[.int, .int, .boolean]
  resolved := Array.replicate 1029 none
  statics := none }

def pool6 : Array CpInfo := pool [(2, .class_ 4), (1, u "java/lang/Object"), (0, u "<init>"), (0, u "()V"), (1, .class_ 10), (1, u "java/lang/System"), (0, u "allowSecurityManager"), (0, u "I"), (16, u "cons"), (0, u "Ljava/io/Console;"), (77, .class_ 110), (1, u "java/lang/System$CallersHolder"), (43, u "initialErrStream"), (0, u "Ljava/io/PrintStream;"), (19, u "security"), (0, u "Ljava/lang/SecurityManager;"), (31, .class_ 209), (0, u "java/lang/System$1"), (7, u "props"), (0, u "Ljava/util/Properties;"), (2, u "lineSeparator"), (0, u "Ljava/lang/String;"), (96, .class_ 321), (1, u "java/lang/System$LoggerFinder"), (5, .class_ 328), (0, u "java/lang/System$Logger"), (67, u "err"), (2, u "out"), (91, u "notSupportedJnuEncoding"), (15, u "in"), (17, u "initialIn"), (0, u "Ljava/io/InputStream;"), (35, u "bootLayer"), (0, u "Ljava/lang/ModuleLayer;"), (99, .class_ 664), (0, u "java/lang/System$2"), (9, u "NEVER"), (2, u "MAYBE"), (49, u "arraycopy"), (0, u "(Ljava/lang/Object;ILjava/lang/Object;II)V"), (72, .class_ 802), (0, u "java/lang/System$Logger$Level")] 31

def k6m0 : Method := { name := "<init>", desc := "()V", sig := { parameters := [], returnType := none }, accessFlags := 2, code := none }
def k6m1 : Method := { name := "arraycopy", desc := "(Ljava/lang/Object;ILjava/lang/Object;II)V", sig := { parameters := [(.object "java/lang/Object"), .int, (.object "java/lang/Object"), .int, .int], returnType := none }, accessFlags := 265, code := none }
/-- java/lang/System -/
def k6 : Class := { plain "java/lang/System" (some 0) with
  accessFlags := 49
  interfaces := #[]
  cf := some (fileOf pool6 8 #[.nestMembers #[319, 327, 801, 108, 663, 208]] #[{ accessFlags := 2, nameIndex := 5, descriptorIndex := 6, attributes := #[] }, { accessFlags := 265, nameIndex := 727, descriptorIndex := 728, attributes := #[] }] 49 2 #[] #[{ accessFlags := 25, nameIndex := 507, descriptorIndex := 526, attributes := #[] }, { accessFlags := 25, nameIndex := 399, descriptorIndex := 155, attributes := #[] }, { accessFlags := 25, nameIndex := 396, descriptorIndex := 155, attributes := #[] }, { accessFlags := 10, nameIndex := 525, descriptorIndex := 526, attributes := #[] }, { accessFlags := 26, nameIndex := 674, descriptorIndex := 12, attributes := #[] }, { accessFlags := 26, nameIndex := 677, descriptorIndex := 12, attributes := #[] }, { accessFlags := 10, nameIndex := 11, descriptorIndex := 12, attributes := #[] }, { accessFlags := 74, nameIndex := 175, descriptorIndex := 176, attributes := #[] }, { accessFlags := 10, nameIndex := 491, descriptorIndex := 222, attributes := #[] }, { accessFlags := 74, nameIndex := 29, descriptorIndex := 30, attributes := #[] }, { accessFlags := 74, nameIndex := 154, descriptorIndex := 155, attributes := #[] }, { accessFlags := 10, nameIndex := 217, descriptorIndex := 218, attributes := #[] }, { accessFlags := 10, nameIndex := 221, descriptorIndex := 222, attributes := #[] }, { accessFlags := 8, nameIndex := 562, descriptorIndex := 563, attributes := #[] }])
  fields := #[{ name := "in", type := (.object "java/io/InputStream"), accessFlags := 25, slot := 0, constantValue := 0 }, { name := "out", type := (.object "java/io/PrintStream"), accessFlags := 25, slot := 1, constantValue := 0 }, { name := "err", type := (.object "java/io/PrintStream"), accessFlags := 25, slot := 2, constantValue := 0 }, { name := "initialIn", type := (.object "java/io/InputStream"), accessFlags := 10, slot := 3, constantValue := 0 }, { name := "NEVER", type := .int, accessFlags := 26, slot := 4, constantValue := 0 }, { name := "MAYBE", type := .int, accessFlags := 26, slot := 5, constantValue := 0 }, { name := "allowSecurityManager", type := .int, accessFlags := 10, slot := 6, constantValue := 0 }, { name := "security", type := (.object "java/lang/SecurityManager"), accessFlags := 74, slot := 7, constantValue := 0 }, { name := "notSupportedJnuEncoding", type := (.object "java/lang/String"), accessFlags := 10, slot := 8, constantValue := 0 }, { name := "cons", type := (.object "java/io/Console"), accessFlags := 74, slot := 9, constantValue := 0 }, { name := "initialErrStream", type := (.object "java/io/PrintStream"), accessFlags := 74, slot := 10, constantValue := 0 }, { name := "props", type := (.object "java/util/Properties"), accessFlags := 10, slot := 11, constantValue := 0 }, { name := "lineSeparator", type := (.object "java/lang/String"), accessFlags := 10, slot := 12, constantValue := 0 }, { name := "bootLayer", type := (.object "java/lang/ModuleLayer"), accessFlags := 8, slot := 13, constantValue := 0 }]
  methods := #[k6m0, k6m1]
  instanceTypes := #[]
  staticTypes := #[(.object "java/io/InputStream"), (.object "java/io/PrintStream"), (.object "java/io/PrintStream"), (.object "java/io/InputStream"), .int, .int, .int, (.object "java/lang/SecurityManager"), (.object "java/lang/String"), (.object "java/io/Console"), (.object "java/io/PrintStream"), (.object "java/util/Properties"), (.object "java/lang/String"), (.object "java/lang/ModuleLayer")]
  resolved := Array.replicate 834 none
  statics := none }

def pool7 : Array CpInfo := pool [(1, .class_ 2), (0, u "java/lang/Cloneable"), (0, .class_ 4), (0, u "java/lang/Object")] 2

/-- java/lang/Cloneable -/
def k7 : Class := { plain "java/lang/Cloneable" (some 0) with
  accessFlags := 1537
  interfaces := #[]
  cf := some (fileOf pool7 1 #[] #[] 1537 3 #[] #[])
  fields := #[]
  methods := #[]
  instanceTypes := #[]
  staticTypes := #[]
  resolved := Array.replicate 7 none
  statics := none }

def pool8 : Array CpInfo := pool [(1, u "java/io/Serializable"), (0, .class_ 1), (0, u "java/lang/Object"), (0, .class_ 3)] 3

/-- java/io/Serializable -/
def k8 : Class := { plain "java/io/Serializable" (some 0) with
  accessFlags := 1537
  interfaces := #[]
  cf := some (fileOf pool8 2 #[] #[] 1537 4 #[] #[])
  fields := #[]
  methods := #[]
  instanceTypes := #[]
  staticTypes := #[]
  resolved := Array.replicate 8 none
  statics := none }

/-- the primitive byte -/
def k9 : Class := { plain "byte" none with kind := .primitive 'B', accessFlags := 0x411 }
/-- [B -/
def k10 : Class := { plain "[B" (some 0) with kind := .array 9 .byte, interfaces := #[7, 8], accessFlags := 1041 }

/-- the primitive int -/
def k11 : Class := { plain "int" none with kind := .primitive 'I', accessFlags := 0x411 }
/-- [I -/
def k12 : Class := { plain "[I" (some 0) with kind := .array 11 .int, interfaces := #[7, 8], accessFlags := 1041 }

def heap : Heap := #[]
def classes : Array Class := #[k0, k1, k2, k3, k4, k5, k6, k7, k8, k9, k10, k11, k12]
def interned : List (Array UInt16 × Addr) := []
def slotsUsed : Nat := 0
def theMethod : MethodId := ⟨1, 2⟩
def args0 : Array Value := #[.int 5, .int 7, .int 3, .int 4, .int 6, .int 3]
def aboutOver (below : List Frame) : State where
  vm := { classes := classes, interned := interned.toArray }
  heap := heap
  slotsUsed := slotsUsed
  threads := #[{ frames := .invoking theMethod args0 :: below }]
def below0 : List Frame := [.native { method := ⟨0, 0⟩, args := #[] }]
def about1 : State := aboutOver below0
def p0 : Program := .bare "" "" ""
def e0 : Env := launch0.env 0 0 0
theorem w_frames : about1.frames = Frame.invoking theMethod args0 :: below0 := rfl
set_option maxRecDepth 65536 in
theorem w_args : argsFit about1.vm theMethod args0 = true := by decide +kernel
set_option maxRecDepth 65536 in
theorem w_heap : heapFits about1 = true := by decide +kernel
set_option maxRecDepth 65536 in
theorem w_runnable : about1.curStatus? = some .runnable := by decide +kernel
set_option maxRecDepth 65536 in
theorem w_alone : about1.alone = true := by decide +kernel
set_option maxRecDepth 65536 in
theorem w_named : about1.methodNamed? x = some theMethod := by decide +kernel
set_option maxRecDepth 65536 in
theorem w_hears : about1.hears theMethod below0 = true := by decide +kernel
set_option maxRecDepth 65536 in
theorem w_ripe : about1.ripe theMethod args0 below0 = true := by decide +kernel
theorem w_running : about1.status = .running := rfl
set_option maxRecDepth 65536 in
theorem w_room : about1.hasRoom e0.platform room_1 = true :=
  launch0.hasRoom_least _ room_1 (by decide +kernel) (by decide +kernel) (by decide +kernel) (by decide +kernel) (by decide +kernel) (by decide +kernel)
theorem allAtoms_all (ts : List Jvm.Cond) (a : Array Jvm.Value) (st : Jvm.State) : (allAtoms ts).before a st = ts.all (fun c => c.before a st) := by
  induction ts with
  | nil => rfl
  | cons c t ih =>
    show (Jvm.Cond.and c (allAtoms t)).before a st = _
    rw [Jvm.Cond.before_and, ih, List.all_cons]
def words1 : List Jvm.Cond := Jvm.Cond.code x code maxLocals ret :: tables_1
/-- a 'code' word, met by the world's own term for the bytes: nothing is compared byte by byte -/
theorem code_word {y : MethodName} {bytes : ByteArray} {mx : Nat} {rt : Option FieldType} {a : Array Value} {s : State} {m : MethodId} {meth : Method} {c : Code} (h1 : s.methodNamed? y = some m) (h2 : s.vm.method? m = some meth) (h3 : meth.code = some c) (h4 : c.code = bytes)
    (h5 : (c.maxLocals == mx && c.exceptionTable.isEmpty && decide (c.maxStack ≤ mostOperands) && decide (meth.sig.returnType = rt) && !meth.locks && decide (parseMethodDescriptor y.desc = some meth.sig)) = true) : (Jvm.Cond.code y bytes mx rt).before a s = true := by
  simp only [Bool.and_eq_true, beq_iff_eq, Bool.not_eq_true', decide_eq_true_eq] at h5
  obtain ⟨⟨⟨⟨⟨g1, g2⟩, g3⟩, g4⟩, g5⟩, g6⟩ := h5
  simp [Cond.before, Cond.holds, Cond.value, h1, h2, h3, h4, g1, g2, g3, g4, g5, g6]
def isCode : Jvm.Cond → Bool
  | .code _ _ _ _ => true
  | _ => false
theorem all_split {L : List Jvm.Cond} {P : Jvm.Cond → Bool} (h1 : L.all (fun c => isCode c || P c) = true) (h2 : ∀ c ∈ L.filter isCode, P c = true) : L.all P = true := by
  refine List.all_eq_true.mpr fun c hc => ?_
  have h := List.all_eq_true.mp h1 c hc
  rcases Bool.eq_false_or_eq_true (isCode c) with hi | hi
  · exact h2 c (List.mem_filter.mpr ⟨hc, hi⟩)
  · simpa [hi] using h
set_option maxRecDepth 65536 in
theorem w_c0 : (Jvm.Cond.code x code maxLocals ret).before args0 about1 = true := code_word (m := ⟨1, 2⟩) (meth := k1m2) (c := k1c2) (by decide +kernel) rfl rfl rfl (by decide +kernel)
set_option maxRecDepth 65536 in
theorem w_c1 : (Jvm.Cond.code ({ cls := "java/lang/Math", name := "min", desc := "(II)I" } : Jvm.MethodName) jdk_29_method_69_code (2 : Nat) (Option.some Jvm.ClassFile.FieldType.int)).before args0 about1 = true := code_word (m := ⟨2, 2⟩) (meth := k2m2) (c := k2c2) (by decide +kernel) rfl rfl rfl (by decide +kernel)
set_option maxRecDepth 65536 in
theorem w_c2 : (Jvm.Cond.code ({ cls := "com/example/hard_delay_bounds/harddelaybounds/analysis/FlowSet$Builder", name := "<init>", desc := "()V" } : Jvm.MethodName) prog_18_method_1_code (1 : Nat) (Option.none : Option Jvm.ClassFile.FieldType)).before args0 about1 = true := code_word (m := ⟨3, 0⟩) (meth := k3m0) (c := k3c0) (by decide +kernel) rfl rfl rfl (by decide +kernel)
set_option maxRecDepth 65536 in
theorem w_c3 : (Jvm.Cond.code ({ cls := "java/lang/Object", name := "<init>", desc := "()V" } : Jvm.MethodName) object_method_1_code (1 : Nat) (Option.none : Option Jvm.ClassFile.FieldType)).before args0 about1 = true := code_word (m := ⟨0, 0⟩) (meth := k0m0) (c := k0c0) (by decide +kernel) rfl rfl rfl (by decide +kernel)
set_option maxRecDepth 65536 in
theorem w_c4 : (Jvm.Cond.code ({ cls := "com/example/hard_delay_bounds/harddelaybounds/analysis/FlowSet$Builder", name := "build", desc := "()Lcom/example/hard_delay_bounds/harddelaybounds/analysis/FlowSet;" } : Jvm.MethodName) prog_18_method_3_code (1 : Nat) (Option.some (Jvm.ClassFile.FieldType.object "com/example/hard_delay_bounds/harddelaybounds/analysis/FlowSet"))).before args0 about1 = true := code_word (m := ⟨3, 2⟩) (meth := k3m2) (c := k3c2) (by decide +kernel) rfl rfl rfl (by decide +kernel)
set_option maxRecDepth 65536 in
theorem w_c5 : (Jvm.Cond.code ({ cls := "java/util/Arrays", name := "copyOf", desc := "([II)[I" } : Jvm.MethodName) jdk_65_method_123_code (3 : Nat) (Option.some (Jvm.ClassFile.FieldType.array Jvm.ClassFile.FieldType.int))).before args0 about1 = true := code_word (m := ⟨5, 3⟩) (meth := k5m3) (c := k5c3) (by decide +kernel) rfl rfl rfl (by decide +kernel)
set_option maxRecDepth 65536 in
theorem w_c6 : (Jvm.Cond.code ({ cls := "com/example/hard_delay_bounds/harddelaybounds/analysis/FlowSet", name := "<init>", desc := "([I)V" } : Jvm.MethodName) prog_17_method_1_code (7 : Nat) (Option.none : Option Jvm.ClassFile.FieldType)).before args0 about1 = true := code_word (m := ⟨4, 0⟩) (meth := k4m0) (c := k4c0) (by decide +kernel) rfl rfl rfl (by decide +kernel)
set_option maxRecDepth 65536 in
theorem w_c7 : (Jvm.Cond.code ({ cls := "com/example/hard_delay_bounds/harddelaybounds/analysis/FlowSet", name := "size", desc := "()I" } : Jvm.MethodName) prog_17_method_2_code (1 : Nat) (Option.some Jvm.ClassFile.FieldType.int)).before args0 about1 = true := code_word (m := ⟨4, 1⟩) (meth := k4m1) (c := k4c1) (by decide +kernel) rfl rfl rfl (by decide +kernel)
set_option maxRecDepth 65536 in
theorem w_c8 : (Jvm.Cond.code ({ cls := "java/lang/Math", name := "max", desc := "(II)I" } : Jvm.MethodName) jdk_29_method_65_code (2 : Nat) (Option.some Jvm.ClassFile.FieldType.int)).before args0 about1 = true := code_word (m := ⟨2, 1⟩) (meth := k2m1) (c := k2c1) (by decide +kernel) rfl rfl rfl (by decide +kernel)
set_option maxRecDepth 65536 in
theorem w_c9 : (Jvm.Cond.code ({ cls := "com/example/hard_delay_bounds/harddelaybounds/analysis/FlowSetBuildPinLaw", name := "pick", desc := "(IJJJJJJ)J" } : Jvm.MethodName) method_2_code (13 : Nat) (Option.some Jvm.ClassFile.FieldType.long)).before args0 about1 = true := code_word (m := ⟨1, 1⟩) (meth := k1m1) (c := k1c1) (by decide +kernel) rfl rfl rfl (by decide +kernel)
set_option maxRecDepth 65536 in
theorem w_c10 : (Jvm.Cond.code ({ cls := "com/example/hard_delay_bounds/harddelaybounds/analysis/FlowSet", name := "contains", desc := "(I)Z" } : Jvm.MethodName) prog_17_method_5_code (2 : Nat) (Option.some Jvm.ClassFile.FieldType.boolean)).before args0 about1 = true := code_word (m := ⟨4, 4⟩) (meth := k4m4) (c := k4c4) (by decide +kernel) rfl rfl rfl (by decide +kernel)
set_option maxRecDepth 65536 in
theorem w_c11 : (Jvm.Cond.code ({ cls := "com/example/hard_delay_bounds/harddelaybounds/analysis/FlowSet", name := "indexOf", desc := "(I)I" } : Jvm.MethodName) prog_17_method_4_code (2 : Nat) (Option.some Jvm.ClassFile.FieldType.int)).before args0 about1 = true := code_word (m := ⟨4, 3⟩) (meth := k4m3) (c := k4c3) (by decide +kernel) rfl rfl rfl (by decide +kernel)
set_option maxRecDepth 65536 in
theorem w_c12 : (Jvm.Cond.code ({ cls := "java/util/Arrays", name := "binarySearch", desc := "([II)I" } : Jvm.MethodName) jdk_65_method_57_code (2 : Nat) (Option.some Jvm.ClassFile.FieldType.int)).before args0 about1 = true := code_word (m := ⟨5, 1⟩) (meth := k5m1) (c := k5c1) (by decide +kernel) rfl rfl rfl (by decide +kernel)
set_option maxRecDepth 65536 in
theorem w_c13 : (Jvm.Cond.code ({ cls := "java/util/Arrays", name := "binarySearch0", desc := "([IIII)I" } : Jvm.MethodName) jdk_65_method_59_code (8 : Nat) (Option.some Jvm.ClassFile.FieldType.int)).before args0 about1 = true := code_word (m := ⟨5, 2⟩) (meth := k5m2) (c := k5c2) (by decide +kernel) rfl rfl rfl (by decide +kernel)
set_option maxRecDepth 65536 in
theorem w_c14 : (Jvm.Cond.code ({ cls := "com/example/hard_delay_bounds/harddelaybounds/analysis/FlowSet$Builder", name := "add", desc := "(I)Lcom/example/hard_delay_bounds/harddelaybounds/analysis/FlowSet$Builder;" } : Jvm.MethodName) prog_18_method_2_code (2 : Nat) (Option.some (Jvm.ClassFile.FieldType.object "com/example/hard_delay_bounds/harddelaybounds/analysis/FlowSet$Builder"))).before args0 about1 = true := code_word (m := ⟨3, 1⟩) (meth := k3m1) (c := k3c1) (by decide +kernel) rfl rfl rfl (by decide +kernel)
set_option maxRecDepth 65536 in
theorem w_c15 : (Jvm.Cond.code ({ cls := "com/example/hard_delay_bounds/harddelaybounds/analysis/FlowSet", name := "number", desc := "(I)I" } : Jvm.MethodName) prog_17_method_3_code (2 : Nat) (Option.some Jvm.ClassFile.FieldType.int)).before args0 about1 = true := code_word (m := ⟨4, 2⟩) (meth := k4m2) (c := k4c2) (by decide +kernel) rfl rfl rfl (by decide +kernel)
def codes1 : List Jvm.Cond := [Jvm.Cond.code x code maxLocals ret, Jvm.Cond.code ({ cls := "java/lang/Math", name := "min", desc := "(II)I" } : Jvm.MethodName) jdk_29_method_69_code (2 : Nat) (Option.some Jvm.ClassFile.FieldType.int), Jvm.Cond.code ({ cls := "com/example/hard_delay_bounds/harddelaybounds/analysis/FlowSet$Builder", name := "<init>", desc := "()V" } : Jvm.MethodName) prog_18_method_1_code (1 : Nat) (Option.none : Option Jvm.ClassFile.FieldType), Jvm.Cond.code ({ cls := "java/lang/Object", name := "<init>", desc := "()V" } : Jvm.MethodName) object_method_1_code (1 : Nat) (Option.none : Option Jvm.ClassFile.FieldType), Jvm.Cond.code ({ cls := "com/example/hard_delay_bounds/harddelaybounds/analysis/FlowSet$Builder", name := "build", desc := "()Lcom/example/hard_delay_bounds/harddelaybounds/analysis/FlowSet;" } : Jvm.MethodName) prog_18_method_3_code (1 : Nat) (Option.some (Jvm.ClassFile.FieldType.object "com/example/hard_delay_bounds/harddelaybounds/analysis/FlowSet")), Jvm.Cond.code ({ cls := "java/util/Arrays", name := "copyOf", desc := "([II)[I" } : Jvm.MethodName) jdk_65_method_123_code (3 : Nat) (Option.some (Jvm.ClassFile.FieldType.array Jvm.ClassFile.FieldType.int)), Jvm.Cond.code ({ cls := "com/example/hard_delay_bounds/harddelaybounds/analysis/FlowSet", name := "<init>", desc := "([I)V" } : Jvm.MethodName) prog_17_method_1_code (7 : Nat) (Option.none : Option Jvm.ClassFile.FieldType), Jvm.Cond.code ({ cls := "com/example/hard_delay_bounds/harddelaybounds/analysis/FlowSet", name := "size", desc := "()I" } : Jvm.MethodName) prog_17_method_2_code (1 : Nat) (Option.some Jvm.ClassFile.FieldType.int), Jvm.Cond.code ({ cls := "java/lang/Math", name := "max", desc := "(II)I" } : Jvm.MethodName) jdk_29_method_65_code (2 : Nat) (Option.some Jvm.ClassFile.FieldType.int), Jvm.Cond.code ({ cls := "com/example/hard_delay_bounds/harddelaybounds/analysis/FlowSetBuildPinLaw", name := "pick", desc := "(IJJJJJJ)J" } : Jvm.MethodName) method_2_code (13 : Nat) (Option.some Jvm.ClassFile.FieldType.long), Jvm.Cond.code ({ cls := "com/example/hard_delay_bounds/harddelaybounds/analysis/FlowSet", name := "contains", desc := "(I)Z" } : Jvm.MethodName) prog_17_method_5_code (2 : Nat) (Option.some Jvm.ClassFile.FieldType.boolean), Jvm.Cond.code ({ cls := "com/example/hard_delay_bounds/harddelaybounds/analysis/FlowSet", name := "indexOf", desc := "(I)I" } : Jvm.MethodName) prog_17_method_4_code (2 : Nat) (Option.some Jvm.ClassFile.FieldType.int), Jvm.Cond.code ({ cls := "java/util/Arrays", name := "binarySearch", desc := "([II)I" } : Jvm.MethodName) jdk_65_method_57_code (2 : Nat) (Option.some Jvm.ClassFile.FieldType.int), Jvm.Cond.code ({ cls := "java/util/Arrays", name := "binarySearch0", desc := "([IIII)I" } : Jvm.MethodName) jdk_65_method_59_code (8 : Nat) (Option.some Jvm.ClassFile.FieldType.int), Jvm.Cond.code ({ cls := "com/example/hard_delay_bounds/harddelaybounds/analysis/FlowSet$Builder", name := "add", desc := "(I)Lcom/example/hard_delay_bounds/harddelaybounds/analysis/FlowSet$Builder;" } : Jvm.MethodName) prog_18_method_2_code (2 : Nat) (Option.some (Jvm.ClassFile.FieldType.object "com/example/hard_delay_bounds/harddelaybounds/analysis/FlowSet$Builder")), Jvm.Cond.code ({ cls := "com/example/hard_delay_bounds/harddelaybounds/analysis/FlowSet", name := "number", desc := "(I)I" } : Jvm.MethodName) prog_17_method_3_code (2 : Nat) (Option.some Jvm.ClassFile.FieldType.int)]
set_option maxRecDepth 65536 in
theorem codes_eq : words1.filter isCode = codes1 := rfl
theorem w_codes : ∀ c ∈ words1.filter isCode, c.before args0 about1 = true := by
  rw [codes_eq]
  intro c hc
  simp only [codes1, List.mem_cons, List.not_mem_nil, or_false] at hc
  rcases hc with rfl | rfl | rfl | rfl | rfl | rfl | rfl | rfl | rfl | rfl | rfl | rfl | rfl | rfl | rfl | rfl
  · exact w_c0
  · exact w_c1
  · exact w_c2
  · exact w_c3
  · exact w_c4
  · exact w_c5
  · exact w_c6
  · exact w_c7
  · exact w_c8
  · exact w_c9
  · exact w_c10
  · exact w_c11
  · exact w_c12
  · exact w_c13
  · exact w_c14
  · exact w_c15
set_option maxRecDepth 65536 in
theorem w_t1 : (words1.take 24).all (fun c => isCode c || c.before args0 about1) = true := by decide +kernel
set_option maxRecDepth 65536 in
theorem w_t2 : ((words1.drop 24).take 24).all (fun c => isCode c || c.before args0 about1) = true := by decide +kernel
set_option maxRecDepth 65536 in
theorem w_t3 : (((words1.drop 24).drop 24).take 24).all (fun c => isCode c || c.before args0 about1) = true := by decide +kernel
set_option maxRecDepth 65536 in
theorem w_t4 : (((words1.drop 24).drop 24).drop 24).all (fun c => isCode c || c.before args0 about1) = true := by decide +kernel
theorem w_tables : (allAtoms (Jvm.Cond.code x code maxLocals ret :: tables_1)).before args0 about1 = true := by
  rw [allAtoms_all]
  show words1.all (fun c => c.before args0 about1) = true
  refine all_split ?_ w_codes
  rw [← List.take_append_drop 24 words1, List.all_append, w_t1, ← List.take_append_drop 24 (words1.drop 24), List.all_append, w_t2, ← List.take_append_drop 24 ((words1.drop 24).drop 24), List.all_append, w_t3, w_t4]
  rfl
set_option maxRecDepth 65536 in
theorem w_case : (Jvm.Cond.and given_1 narrow_1).before args0 about1 = true := by decide +kernel
theorem w_applies : (headSpec (Jvm.Cond.code x code maxLocals ret :: tables_1) room_1).applies x e0.platform about1 = true :=
  (Spec.applies_iff w_frames).mpr ⟨w_running, w_runnable, w_alone, w_named, w_hears, w_ripe, w_room, w_tables⟩
theorem atStart : AtStart classFile x code maxLocals ret World_1 tables_1 room_1 Calls_1 rest_1 Pre_1 launch0 p0 e0 about1 theMethod args0 below0 :=
  ⟨lists_1, trivial, launch0.admits_env _ _ _, launch0.least_env, fairChoices_fair.cas, fairChoices_fair.clock, w_frames, w_args, w_heap, w_applies, trivial, trivial, w_case⟩
end start1
theorem witness_1 : WitnessClaimed_1 := ⟨start1.p0, start1.e0, start1.about1, start1.theMethod, start1.args0, start1.below0, start1.atStart⟩
end Jvm.Pilot.@@N@@
