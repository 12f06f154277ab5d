import JvmDerived
import JvmDerived.Pilot.@@N@@Statement
import JvmDerived.Pilot.@@N@@Code
set_option linter.unusedVariables false
set_option linter.unusedSimpArgs false
namespace Jvm.Pilot.@@N@@
open Jvm Jvm.ClassFile Sem Op Lib Jvm.Free Jvm.Stand Jvm.LawKit Jvm.RoadKit Bundle Jvm.Pilot.@@N@@.Jvm.D
/-- from A the run comes to B -/
abbrev Go (p : Program) (e : Env) (below : List Frame) (A B : State) : Prop := ∀ t, Steps p.tables e below B t → Steps p.tables e below A t
section Own
variable {p : Program} {l : Launch} {e : Env} {R : Room} {s : State} {m : MethodId} {args : Array Value} {below : List Frame} {meth : Method} {c : Code} {T : State} {locs : List Loc} {cells slots : Nat} {t : State} {A : ByteArray} {pc : Nat} {L : Array Slot} {S : List Value}
theorem o_iloadN (X : Stand p l e R s m args below meth c T locs cells slots) (hx : p.tables.exec = Jvm.exec) (hby : c.code = A) {k : Fin 4} {v : Int32} (hd : decode A pc = .ok (.iload_n k, 1)) (n : Nat) (hn : pc + 1 = n) (hl : L[k.val]? = some (.val (.int v))) (hr : Steps p.tables e below (T.setTop (mkF m n L (.int v :: S))) t) : Steps p.tables e below (T.setTop (mkF m pc L S)) t := by
  subst hn; exact XS.iloadN X.here hx rfl (hb hby hd) hl hr
theorem o_lloadN (X : Stand p l e R s m args below meth c T locs cells slots) (hx : p.tables.exec = Jvm.exec) (hby : c.code = A) {k : Fin 4} {v : Int64} (hd : decode A pc = .ok (.lload_n k, 1)) (n : Nat) (hn : pc + 1 = n) (hl : L[k.val]? = some (.val (.long v))) (hr : Steps p.tables e below (T.setTop (mkF m n L (.long v :: S))) t) : Steps p.tables e below (T.setTop (mkF m pc L S)) t := by
  subst hn; exact XS.lloadN X.here hx rfl (hb hby hd) hl hr
theorem o_aloadN (X : Stand p l e R s m args below meth c T locs cells slots) (hx : p.tables.exec = Jvm.exec) (hby : c.code = A) {k : Fin 4} {v : Value} (hd : decode A pc = .ok (.aload_n k, 1)) (n : Nat) (hn : pc + 1 = n) (hl : L[k.val]? = some (.val v)) (hv : v.isRef = true) (hr : Steps p.tables e below (T.setTop (mkF m n L (v :: S))) t) : Steps p.tables e below (T.setTop (mkF m pc L S)) t := by
  subst hn; exact XS.aloadN X.here hx rfl (hb hby hd) hl hv hr
theorem o_istoreN (X : Stand p l e R s m args below meth c T locs cells slots) (hx : p.tables.exec = Jvm.exec) (hby : c.code = A) {k : Fin 4} {v : Int32} {l' : Array Slot} (hd : decode A pc = .ok (.istore_n k, 1)) (n : Nat) (hn : pc + 1 = n) (hl : storeLocals L k.val (.int v) = some l') (hr : Steps p.tables e below (T.setTop (mkF m n l' S)) t) : Steps p.tables e below (T.setTop (mkF m pc L (.int v :: S))) t := by
  subst hn; exact XS.istoreN X.here hx rfl (hb hby hd) rfl hl hr
theorem o_lstoreN (X : Stand p l e R s m args below meth c T locs cells slots) (hx : p.tables.exec = Jvm.exec) (hby : c.code = A) {k : Fin 4} {v : Int64} {l' : Array Slot} (hd : decode A pc = .ok (.lstore_n k, 1)) (n : Nat) (hn : pc + 1 = n) (hl : storeLocals L k.val (.long v) = some l') (hr : Steps p.tables e below (T.setTop (mkF m n l' S)) t) : Steps p.tables e below (T.setTop (mkF m pc L (.long v :: S))) t := by
  subst hn; exact XS.lstoreN X.here hx rfl (hb hby hd) rfl hl hr
theorem o_astoreN (X : Stand p l e R s m args below meth c T locs cells slots) (hx : p.tables.exec = Jvm.exec) (hby : c.code = A) {k : Fin 4} {v : Value} {l' : Array Slot} (hd : decode A pc = .ok (.astore_n k, 1)) (n : Nat) (hn : pc + 1 = n) (hv : v.isRef = true) (hl : storeLocals L k.val v = some l') (hr : Steps p.tables e below (T.setTop (mkF m n l' S)) t) : Steps p.tables e below (T.setTop (mkF m pc L (v :: S))) t := by
  subst hn; exact XS.astoreN X.here hx rfl (hb hby hd) rfl hv hl hr
theorem o_iload (X : Stand p l e R s m args below meth c T locs cells slots) (hx : p.tables.exec = Jvm.exec) (hby : c.code = A) {k : Nat} {v : Int32} (hd : decode A pc = .ok (.iload k, 2)) (n : Nat) (hn : pc + 2 = n) (hl : L[k]? = some (.val (.int v))) (hr : Steps p.tables e below (T.setTop (mkF m n L (.int v :: S))) t) : Steps p.tables e below (T.setTop (mkF m pc L S)) t := by
  subst hn; exact XS.iload X.here hx rfl (hb hby hd) hl hr
theorem o_lload (X : Stand p l e R s m args below meth c T locs cells slots) (hx : p.tables.exec = Jvm.exec) (hby : c.code = A) {k : Nat} {v : Int64} (hd : decode A pc = .ok (.lload k, 2)) (n : Nat) (hn : pc + 2 = n) (hl : L[k]? = some (.val (.long v))) (hr : Steps p.tables e below (T.setTop (mkF m n L (.long v :: S))) t) : Steps p.tables e below (T.setTop (mkF m pc L S)) t := by
  subst hn; exact XS.lload X.here hx rfl (hb hby hd) hl hr
theorem o_aload (X : Stand p l e R s m args below meth c T locs cells slots) (hx : p.tables.exec = Jvm.exec) (hby : c.code = A) {k : Nat} {v : Value} (hd : decode A pc = .ok (.aload k, 2)) (n : Nat) (hn : pc + 2 = n) (hl : L[k]? = some (.val v)) (hv : v.isRef = true) (hr : Steps p.tables e below (T.setTop (mkF m n L (v :: S))) t) : Steps p.tables e below (T.setTop (mkF m pc L S)) t := by
  subst hn; exact XS.aload X.here hx rfl (hb hby hd) hl hv hr
theorem o_istore (X : Stand p l e R s m args below meth c T locs cells slots) (hx : p.tables.exec = Jvm.exec) (hby : c.code = A) {k : Nat} {v : Int32} {l' : Array Slot} (hd : decode A pc = .ok (.istore k, 2)) (n : Nat) (hn : pc + 2 = n) (hl : storeLocals L k (.int v) = some l') (hr : Steps p.tables e below (T.setTop (mkF m n l' S)) t) : Steps p.tables e below (T.setTop (mkF m pc L (.int v :: S))) t := by
  subst hn; exact XS.istore X.here hx rfl (hb hby hd) rfl hl hr
theorem o_lstore (X : Stand p l e R s m args below meth c T locs cells slots) (hx : p.tables.exec = Jvm.exec) (hby : c.code = A) {k : Nat} {v : Int64} {l' : Array Slot} (hd : decode A pc = .ok (.lstore k, 2)) (n : Nat) (hn : pc + 2 = n) (hl : storeLocals L k (.long v) = some l') (hr : Steps p.tables e below (T.setTop (mkF m n l' S)) t) : Steps p.tables e below (T.setTop (mkF m pc L (.long v :: S))) t := by
  subst hn; exact XS.lstore X.here hx rfl (hb hby hd) rfl hl hr
theorem o_astore (X : Stand p l e R s m args below meth c T locs cells slots) (hx : p.tables.exec = Jvm.exec) (hby : c.code = A) {k : Nat} {v : Value} {l' : Array Slot} (hd : decode A pc = .ok (.astore k, 2)) (n : Nat) (hn : pc + 2 = n) (hv : v.isRef = true) (hl : storeLocals L k v = some l') (hr : Steps p.tables e below (T.setTop (mkF m n l' S)) t) : Steps p.tables e below (T.setTop (mkF m pc L (v :: S))) t := by
  subst hn; exact XS.astore X.here hx rfl (hb hby hd) rfl hv hl hr
theorem o_iconst (X : Stand p l e R s m args below meth c T locs cells slots) (hx : p.tables.exec = Jvm.exec) (hby : c.code = A) {i : Int} (hd : decode A pc = .ok (.iconst i, 1)) (n : Nat) (hn : pc + 1 = n) {v : Int32} (hv : Int32.ofInt i = v) (hr : Steps p.tables e below (T.setTop (mkF m n L (.int v :: S))) t) : Steps p.tables e below (T.setTop (mkF m pc L S)) t := by
  subst hn; subst hv; exact XS.iconst X.here hx rfl (hb hby hd) hr
theorem o_bipush (X : Stand p l e R s m args below meth c T locs cells slots) (hx : p.tables.exec = Jvm.exec) (hby : c.code = A) {i : Int} (hd : decode A pc = .ok (.bipush i, 2)) (n : Nat) (hn : pc + 2 = n) {v : Int32} (hv : (Int8.ofInt i).toInt32 = v) (hr : Steps p.tables e below (T.setTop (mkF m n L (.int v :: S))) t) : Steps p.tables e below (T.setTop (mkF m pc L S)) t := by
  subst hn; subst hv; exact XS.bipush X.here hx rfl (hb hby hd) hr
theorem o_sipush (X : Stand p l e R s m args below meth c T locs cells slots) (hx : p.tables.exec = Jvm.exec) (hby : c.code = A) {i : Int} (hd : decode A pc = .ok (.sipush i, 3)) (n : Nat) (hn : pc + 3 = n) {v : Int32} (hv : (Int16.ofInt i).toInt32 = v) (hr : Steps p.tables e below (T.setTop (mkF m n L (.int v :: S))) t) : Steps p.tables e below (T.setTop (mkF m pc L S)) t := by
  subst hn; subst hv; exact XS.sipush X.here hx rfl (hb hby hd) hr
theorem o_lconst (X : Stand p l e R s m args below meth c T locs cells slots) (hx : p.tables.exec = Jvm.exec) (hby : c.code = A) {i : Fin 2} (hd : decode A pc = .ok (.lconst i, 1)) (n : Nat) (hn : pc + 1 = n) {v : Int64} (hv : Int64.ofNat i.val = v) (hr : Steps p.tables e below (T.setTop (mkF m n L (.long v :: S))) t) : Steps p.tables e below (T.setTop (mkF m pc L S)) t := by
  subst hn; subst hv; exact XS.lconst X.here hx rfl (hb hby hd) hr
theorem o_aconstNull (X : Stand p l e R s m args below meth c T locs cells slots) (hx : p.tables.exec = Jvm.exec) (hby : c.code = A) (hd : decode A pc = .ok (.aconst_null, 1)) (n : Nat) (hn : pc + 1 = n) (hr : Steps p.tables e below (T.setTop (mkF m n L (.null :: S))) t) : Steps p.tables e below (T.setTop (mkF m pc L S)) t := by
  subst hn; exact XS.aconstNull X.here hx rfl (hb hby hd) hr
theorem o_iadd (X : Stand p l e R s m args below meth c T locs cells slots) (hx : p.tables.exec = Jvm.exec) (hby : c.code = A) {x y : Int32} (hd : decode A pc = .ok (.iadd, 1)) (n : Nat) (hn : pc + 1 = n) (hr : Steps p.tables e below (T.setTop (mkF m n L (.int (x + y) :: S))) t) : Steps p.tables e below (T.setTop (mkF m pc L (.int y :: .int x :: S))) t := by
  subst hn; exact XS.iadd X.here hx rfl (hb hby hd) rfl hr
theorem o_ladd (X : Stand p l e R s m args below meth c T locs cells slots) (hx : p.tables.exec = Jvm.exec) (hby : c.code = A) {x y : Int64} (hd : decode A pc = .ok (.ladd, 1)) (n : Nat) (hn : pc + 1 = n) (hr : Steps p.tables e below (T.setTop (mkF m n L (.long (x + y) :: S))) t) : Steps p.tables e below (T.setTop (mkF m pc L (.long y :: .long x :: S))) t := by
  subst hn; exact XS.ladd X.here hx rfl (hb hby hd) rfl hr
theorem o_isub (X : Stand p l e R s m args below meth c T locs cells slots) (hx : p.tables.exec = Jvm.exec) (hby : c.code = A) {x y : Int32} (hd : decode A pc = .ok (.isub, 1)) (n : Nat) (hn : pc + 1 = n) (hr : Steps p.tables e below (T.setTop (mkF m n L (.int (x - y) :: S))) t) : Steps p.tables e below (T.setTop (mkF m pc L (.int y :: .int x :: S))) t := by
  subst hn; exact XS.isub X.here hx rfl (hb hby hd) rfl hr
theorem o_lsub (X : Stand p l e R s m args below meth c T locs cells slots) (hx : p.tables.exec = Jvm.exec) (hby : c.code = A) {x y : Int64} (hd : decode A pc = .ok (.lsub, 1)) (n : Nat) (hn : pc + 1 = n) (hr : Steps p.tables e below (T.setTop (mkF m n L (.long (x - y) :: S))) t) : Steps p.tables e below (T.setTop (mkF m pc L (.long y :: .long x :: S))) t := by
  subst hn; exact XS.lsub X.here hx rfl (hb hby hd) rfl hr
theorem o_imul (X : Stand p l e R s m args below meth c T locs cells slots) (hx : p.tables.exec = Jvm.exec) (hby : c.code = A) {x y : Int32} (hd : decode A pc = .ok (.imul, 1)) (n : Nat) (hn : pc + 1 = n) (hr : Steps p.tables e below (T.setTop (mkF m n L (.int (x * y) :: S))) t) : Steps p.tables e below (T.setTop (mkF m pc L (.int y :: .int x :: S))) t := by
  subst hn; exact XS.imul X.here hx rfl (hb hby hd) rfl hr
theorem o_lmul (X : Stand p l e R s m args below meth c T locs cells slots) (hx : p.tables.exec = Jvm.exec) (hby : c.code = A) {x y : Int64} (hd : decode A pc = .ok (.lmul, 1)) (n : Nat) (hn : pc + 1 = n) (hr : Steps p.tables e below (T.setTop (mkF m n L (.long (x * y) :: S))) t) : Steps p.tables e below (T.setTop (mkF m pc L (.long y :: .long x :: S))) t := by
  subst hn; exact XS.lmul X.here hx rfl (hb hby hd) rfl hr
theorem o_iand (X : Stand p l e R s m args below meth c T locs cells slots) (hx : p.tables.exec = Jvm.exec) (hby : c.code = A) {x y : Int32} (hd : decode A pc = .ok (.iand, 1)) (n : Nat) (hn : pc + 1 = n) (hr : Steps p.tables e below (T.setTop (mkF m n L (.int (x &&& y) :: S))) t) : Steps p.tables e below (T.setTop (mkF m pc L (.int y :: .int x :: S))) t := by
  subst hn; exact XS.iand X.here hx rfl (hb hby hd) rfl hr
theorem o_land (X : Stand p l e R s m args below meth c T locs cells slots) (hx : p.tables.exec = Jvm.exec) (hby : c.code = A) {x y : Int64} (hd : decode A pc = .ok (.land, 1)) (n : Nat) (hn : pc + 1 = n) (hr : Steps p.tables e below (T.setTop (mkF m n L (.long (x &&& y) :: S))) t) : Steps p.tables e below (T.setTop (mkF m pc L (.long y :: .long x :: S))) t := by
  subst hn; exact XS.land X.here hx rfl (hb hby hd) rfl hr
theorem o_ior (X : Stand p l e R s m args below meth c T locs cells slots) (hx : p.tables.exec = Jvm.exec) (hby : c.code = A) {x y : Int32} (hd : decode A pc = .ok (.ior, 1)) (n : Nat) (hn : pc + 1 = n) (hr : Steps p.tables e below (T.setTop (mkF m n L (.int (x ||| y) :: S))) t) : Steps p.tables e below (T.setTop (mkF m pc L (.int y :: .int x :: S))) t := by
  subst hn; exact XS.ior X.here hx rfl (hb hby hd) rfl hr
theorem o_lor (X : Stand p l e R s m args below meth c T locs cells slots) (hx : p.tables.exec = Jvm.exec) (hby : c.code = A) {x y : Int64} (hd : decode A pc = .ok (.lor, 1)) (n : Nat) (hn : pc + 1 = n) (hr : Steps p.tables e below (T.setTop (mkF m n L (.long (x ||| y) :: S))) t) : Steps p.tables e below (T.setTop (mkF m pc L (.long y :: .long x :: S))) t := by
  subst hn; exact XS.lor X.here hx rfl (hb hby hd) rfl hr
theorem o_ixor (X : Stand p l e R s m args below meth c T locs cells slots) (hx : p.tables.exec = Jvm.exec) (hby : c.code = A) {x y : Int32} (hd : decode A pc = .ok (.ixor, 1)) (n : Nat) (hn : pc + 1 = n) (hr : Steps p.tables e below (T.setTop (mkF m n L (.int (x ^^^ y) :: S))) t) : Steps p.tables e below (T.setTop (mkF m pc L (.int y :: .int x :: S))) t := by
  subst hn; exact XS.ixor X.here hx rfl (hb hby hd) rfl hr
theorem o_lxor (X : Stand p l e R s m args below meth c T locs cells slots) (hx : p.tables.exec = Jvm.exec) (hby : c.code = A) {x y : Int64} (hd : decode A pc = .ok (.lxor, 1)) (n : Nat) (hn : pc + 1 = n) (hr : Steps p.tables e below (T.setTop (mkF m n L (.long (x ^^^ y) :: S))) t) : Steps p.tables e below (T.setTop (mkF m pc L (.long y :: .long x :: S))) t := by
  subst hn; exact XS.lxor X.here hx rfl (hb hby hd) rfl hr
theorem o_idiv (X : Stand p l e R s m args below meth c T locs cells slots) (hx : p.tables.exec = Jvm.exec) (hby : c.code = A) {x y : Int32} (hd : decode A pc = .ok (.idiv, 1)) (n : Nat) (hn : pc + 1 = n) (hy : ¬ (y = 0)) (hr : Steps p.tables e below (T.setTop (mkF m n L (.int (x / y) :: S))) t) : Steps p.tables e below (T.setTop (mkF m pc L (.int y :: .int x :: S))) t := by
  subst hn; exact XS.idiv X.here hx rfl (hb hby hd) rfl hy hr
theorem o_ldiv (X : Stand p l e R s m args below meth c T locs cells slots) (hx : p.tables.exec = Jvm.exec) (hby : c.code = A) {x y : Int64} (hd : decode A pc = .ok (.ldiv, 1)) (n : Nat) (hn : pc + 1 = n) (hy : ¬ (y = 0)) (hr : Steps p.tables e below (T.setTop (mkF m n L (.long (x / y) :: S))) t) : Steps p.tables e below (T.setTop (mkF m pc L (.long y :: .long x :: S))) t := by
  subst hn; exact XS.ldiv X.here hx rfl (hb hby hd) rfl hy hr
theorem o_irem (X : Stand p l e R s m args below meth c T locs cells slots) (hx : p.tables.exec = Jvm.exec) (hby : c.code = A) {x y : Int32} (hd : decode A pc = .ok (.irem, 1)) (n : Nat) (hn : pc + 1 = n) (hy : ¬ (y = 0)) (hr : Steps p.tables e below (T.setTop (mkF m n L (.int (x % y) :: S))) t) : Steps p.tables e below (T.setTop (mkF m pc L (.int y :: .int x :: S))) t := by
  subst hn; exact XS.irem X.here hx rfl (hb hby hd) rfl hy (by rw [irem_eq_mod]; exact hr)
theorem o_lrem (X : Stand p l e R s m args below meth c T locs cells slots) (hx : p.tables.exec = Jvm.exec) (hby : c.code = A) {x y : Int64} (hd : decode A pc = .ok (.lrem, 1)) (n : Nat) (hn : pc + 1 = n) (hy : ¬ (y = 0)) (hr : Steps p.tables e below (T.setTop (mkF m n L (.long (x % y) :: S))) t) : Steps p.tables e below (T.setTop (mkF m pc L (.long y :: .long x :: S))) t := by
  subst hn; exact XS.lrem X.here hx rfl (hb hby hd) rfl hy (by rw [lrem_mod]; exact hr)
theorem o_ineg (X : Stand p l e R s m args below meth c T locs cells slots) (hx : p.tables.exec = Jvm.exec) (hby : c.code = A) {x : Int32} (hd : decode A pc = .ok (.ineg, 1)) (n : Nat) (hn : pc + 1 = n) (hr : Steps p.tables e below (T.setTop (mkF m n L (.int (-x) :: S))) t) : Steps p.tables e below (T.setTop (mkF m pc L (.int x :: S))) t := by
  subst hn; exact XS.ineg X.here hx rfl (hb hby hd) rfl hr
theorem o_lneg (X : Stand p l e R s m args below meth c T locs cells slots) (hx : p.tables.exec = Jvm.exec) (hby : c.code = A) {x : Int64} (hd : decode A pc = .ok (.lneg, 1)) (n : Nat) (hn : pc + 1 = n) (hr : Steps p.tables e below (T.setTop (mkF m n L (.long (-x) :: S))) t) : Steps p.tables e below (T.setTop (mkF m pc L (.long x :: S))) t := by
  subst hn; exact XS.lneg X.here hx rfl (hb hby hd) rfl hr
theorem o_i2l (X : Stand p l e R s m args below meth c T locs cells slots) (hx : p.tables.exec = Jvm.exec) (hby : c.code = A) {x : Int32} (hd : decode A pc = .ok (.i2l, 1)) (n : Nat) (hn : pc + 1 = n) (hr : Steps p.tables e below (T.setTop (mkF m n L (.long (x.toInt64) :: S))) t) : Steps p.tables e below (T.setTop (mkF m pc L (.int x :: S))) t := by
  subst hn; exact XS.i2l X.here hx rfl (hb hby hd) rfl hr
theorem o_l2i (X : Stand p l e R s m args below meth c T locs cells slots) (hx : p.tables.exec = Jvm.exec) (hby : c.code = A) {x : Int64} (hd : decode A pc = .ok (.l2i, 1)) (n : Nat) (hn : pc + 1 = n) (hr : Steps p.tables e below (T.setTop (mkF m n L (.int (x.toInt32) :: S))) t) : Steps p.tables e below (T.setTop (mkF m pc L (.long x :: S))) t := by
  subst hn; exact XS.l2i X.here hx rfl (hb hby hd) rfl hr
theorem o_i2b (X : Stand p l e R s m args below meth c T locs cells slots) (hx : p.tables.exec = Jvm.exec) (hby : c.code = A) {x : Int32} (hd : decode A pc = .ok (.i2b, 1)) (n : Nat) (hn : pc + 1 = n) (hr : Steps p.tables e below (T.setTop (mkF m n L (.int (x.toInt8.toInt32) :: S))) t) : Steps p.tables e below (T.setTop (mkF m pc L (.int x :: S))) t := by
  subst hn; exact XS.i2b X.here hx rfl (hb hby hd) rfl hr
theorem o_i2s (X : Stand p l e R s m args below meth c T locs cells slots) (hx : p.tables.exec = Jvm.exec) (hby : c.code = A) {x : Int32} (hd : decode A pc = .ok (.i2s, 1)) (n : Nat) (hn : pc + 1 = n) (hr : Steps p.tables e below (T.setTop (mkF m n L (.int (x.toInt16.toInt32) :: S))) t) : Steps p.tables e below (T.setTop (mkF m pc L (.int x :: S))) t := by
  subst hn; exact XS.i2s X.here hx rfl (hb hby hd) rfl hr
theorem o_i2c (X : Stand p l e R s m args below meth c T locs cells slots) (hx : p.tables.exec = Jvm.exec) (hby : c.code = A) {x : Int32} (hd : decode A pc = .ok (.i2c, 1)) (n : Nat) (hn : pc + 1 = n) (hr : Steps p.tables e below (T.setTop (mkF m n L (.int (x.toUInt32.toUInt16.toUInt32.toInt32) :: S))) t) : Steps p.tables e below (T.setTop (mkF m pc L (.int x :: S))) t := by
  subst hn; exact XS.i2c X.here hx rfl (hb hby hd) rfl hr
theorem o_ishl (X : Stand p l e R s m args below meth c T locs cells slots) (hx : p.tables.exec = Jvm.exec) (hby : c.code = A) {x y : Int32} (hd : decode A pc = .ok (.ishl, 1)) (n : Nat) (hn : pc + 1 = n) (hr : Steps p.tables e below (T.setTop (mkF m n L (.int (x <<< (y &&& 31)) :: S))) t) : Steps p.tables e below (T.setTop (mkF m pc L (.int y :: .int x :: S))) t := by
  subst hn; exact XS.ishl X.here hx rfl (hb hby hd) rfl hr
theorem o_ishr (X : Stand p l e R s m args below meth c T locs cells slots) (hx : p.tables.exec = Jvm.exec) (hby : c.code = A) {x y : Int32} (hd : decode A pc = .ok (.ishr, 1)) (n : Nat) (hn : pc + 1 = n) (hr : Steps p.tables e below (T.setTop (mkF m n L (.int (x >>> (y &&& 31)) :: S))) t) : Steps p.tables e below (T.setTop (mkF m pc L (.int y :: .int x :: S))) t := by
  subst hn; exact XS.ishr X.here hx rfl (hb hby hd) rfl hr
theorem o_iushr (X : Stand p l e R s m args below meth c T locs cells slots) (hx : p.tables.exec = Jvm.exec) (hby : c.code = A) {x y : Int32} (hd : decode A pc = .ok (.iushr, 1)) (n : Nat) (hn : pc + 1 = n) (hr : Steps p.tables e below (T.setTop (mkF m n L (.int ((x.toUInt32 >>> (y &&& 31).toUInt32).toInt32) :: S))) t) : Steps p.tables e below (T.setTop (mkF m pc L (.int y :: .int x :: S))) t := by
  subst hn; exact XS.iushr X.here hx rfl (hb hby hd) rfl hr
theorem o_lshl (X : Stand p l e R s m args below meth c T locs cells slots) (hx : p.tables.exec = Jvm.exec) (hby : c.code = A) {x : Int64} {y : Int32} (hd : decode A pc = .ok (.lshl, 1)) (n : Nat) (hn : pc + 1 = n) (hr : Steps p.tables e below (T.setTop (mkF m n L (.long (x <<< (y &&& 0x3f).toInt64) :: S))) t) : Steps p.tables e below (T.setTop (mkF m pc L (.int y :: .long x :: S))) t := by
  subst hn; exact XS.lshl X.here hx rfl (hb hby hd) rfl hr
theorem o_lshr (X : Stand p l e R s m args below meth c T locs cells slots) (hx : p.tables.exec = Jvm.exec) (hby : c.code = A) {x : Int64} {y : Int32} (hd : decode A pc = .ok (.lshr, 1)) (n : Nat) (hn : pc + 1 = n) (hr : Steps p.tables e below (T.setTop (mkF m n L (.long (x >>> (y &&& 0x3f).toInt64) :: S))) t) : Steps p.tables e below (T.setTop (mkF m pc L (.int y :: .long x :: S))) t := by
  subst hn; exact XS.lshr X.here hx rfl (hb hby hd) rfl hr
theorem o_lushr (X : Stand p l e R s m args below meth c T locs cells slots) (hx : p.tables.exec = Jvm.exec) (hby : c.code = A) {x : Int64} {y : Int32} (hd : decode A pc = .ok (.lushr, 1)) (n : Nat) (hn : pc + 1 = n) (hr : Steps p.tables e below (T.setTop (mkF m n L (.long ((x.toUInt64 >>> (y &&& 0x3f).toInt64.toUInt64).toInt64) :: S))) t) : Steps p.tables e below (T.setTop (mkF m pc L (.int y :: .long x :: S))) t := by
  subst hn; exact XS.lushr X.here hx rfl (hb hby hd) rfl hr
theorem o_lcmp (X : Stand p l e R s m args below meth c T locs cells slots) (hx : p.tables.exec = Jvm.exec) (hby : c.code = A) {x y : Int64} (hd : decode A pc = .ok (.lcmp, 1)) (n : Nat) (hn : pc + 1 = n) (hr : Steps p.tables e below (T.setTop (mkF m n L (.int (lcmpW x y) :: S))) t) : Steps p.tables e below (T.setTop (mkF m pc L (.long y :: .long x :: S))) t := by
  subst hn; exact XS.lcmp X.here hx rfl (hb hby hd) rfl hr
theorem o_dup (X : Stand p l e R s m args below meth c T locs cells slots) (hx : p.tables.exec = Jvm.exec) (hby : c.code = A) {x : Value} (hd : decode A pc = .ok (.dup, 1)) (n : Nat) (hn : pc + 1 = n) (hc : x.category = 1) (hr : Steps p.tables e below (T.setTop (mkF m n L (x :: x :: S))) t) : Steps p.tables e below (T.setTop (mkF m pc L (x :: S))) t := by
  subst hn; exact XS.dup X.here hx rfl (hb hby hd) rfl hc hr
theorem o_dupX1 (X : Stand p l e R s m args below meth c T locs cells slots) (hx : p.tables.exec = Jvm.exec) (hby : c.code = A) {x y : Value} (hd : decode A pc = .ok (.dup_x1, 1)) (n : Nat) (hn : pc + 1 = n) (hc : x.category = 1) (hc' : y.category = 1) (hr : Steps p.tables e below (T.setTop (mkF m n L (x :: y :: x :: S))) t) : Steps p.tables e below (T.setTop (mkF m pc L (x :: y :: S))) t := by
  subst hn; exact XT.dupX1 X.here hx rfl (hb hby hd) rfl hc hc' hr
theorem o_dup2 (X : Stand p l e R s m args below meth c T locs cells slots) (hx : p.tables.exec = Jvm.exec) (hby : c.code = A) {x y : Value} (hd : decode A pc = .ok (.dup2, 1)) (n : Nat) (hn : pc + 1 = n) (hc : x.category = 1) (hc' : y.category = 1) (hr : Steps p.tables e below (T.setTop (mkF m n L (x :: y :: x :: y :: S))) t) : Steps p.tables e below (T.setTop (mkF m pc L (x :: y :: S))) t := by
  subst hn; exact XT.dup2 X.here hx rfl (hb hby hd) rfl hc hc' hr
theorem o_iinc (X : Stand p l e R s m args below meth c T locs cells slots) (hx : p.tables.exec = Jvm.exec) (hby : c.code = A) {k : Nat} {cst : Int} {x : Int32} {l' : Array Slot} (hd : decode A pc = .ok (.iinc k cst, 3)) (n : Nat) (hn : pc + 3 = n) (hl : L[k]? = some (.val (.int x))) {i : Int32} (hi : Int32.ofInt cst = i) (hl' : storeLocals L k (.int (x + i)) = some l') (hr : Steps p.tables e below (T.setTop (mkF m n l' S)) t) : Steps p.tables e below (T.setTop (mkF m pc L S)) t := by
  subst hn; subst hi; exact XS.iinc X.here hx rfl (hb hby hd) hl hl' hr
theorem o_pop (X : Stand p l e R s m args below meth c T locs cells slots) (hx : p.tables.exec = Jvm.exec) (hby : c.code = A) {x : Value} (hd : decode A pc = .ok (.pop, 1)) (n : Nat) (hn : pc + 1 = n) (hc : x.category = 1) (hr : Steps p.tables e below (T.setTop (mkF m n L S)) t) : Steps p.tables e below (T.setTop (mkF m pc L (x :: S))) t := by
  subst hn; exact XT.pop X.here hx rfl (hb hby hd) rfl hc hr
theorem o_goto (X : Stand p l e R s m args below meth c T locs cells slots) (hx : p.tables.exec = Jvm.exec) (hby : c.code = A) {o : Int} (hd : decode A pc = .ok (.goto o, 3)) (n : Nat) (hn : (pc : Int) + o = (n : Int)) (hr : Steps p.tables e below (T.setTop (mkF m n L S)) t) : Steps p.tables e below (T.setTop (mkF m pc L S)) t :=
  XS.goto X.here hx rfl (pc0 := pc) (pc' := n) rfl (hb hby hd) (by omega) (by omega) hr
theorem o_ifY (X : Stand p l e R s m args below meth c T locs cells slots) (hx : p.tables.exec = Jvm.exec) (hby : c.code = A) {cd : ClassFile.Cond} {x : Int32} {o : Int} (hd : decode A pc = .ok (.ifCond cd o, 3)) (n : Nat) (hn : (pc : Int) + o = (n : Int)) (hc : if_icmp.holds cd x 0 = true) (hr : Steps p.tables e below (T.setTop (mkF m n L S)) t) : Steps p.tables e below (T.setTop (mkF m pc L (.int x :: S))) t :=
  XS.ifYes X.here hx rfl (pc0 := pc) (pc' := n) rfl (hb hby hd) rfl ((if0 _ _).trans hc) (by omega) (by omega) hr
theorem o_ifN (X : Stand p l e R s m args below meth c T locs cells slots) (hx : p.tables.exec = Jvm.exec) (hby : c.code = A) {cd : ClassFile.Cond} {x : Int32} {o : Int} (hd : decode A pc = .ok (.ifCond cd o, 3)) (n : Nat) (hn : pc + 3 = n) (hc : if_icmp.holds cd x 0 = false) (hr : Steps p.tables e below (T.setTop (mkF m n L S)) t) : Steps p.tables e below (T.setTop (mkF m pc L (.int x :: S))) t := by
  subst hn; exact XS.ifNo X.here hx rfl (hb hby hd) rfl ((if0 _ _).trans hc) hr
theorem o_icmpY (X : Stand p l e R s m args below meth c T locs cells slots) (hx : p.tables.exec = Jvm.exec) (hby : c.code = A) {cd : ClassFile.Cond} {x y : Int32} {o : Int} (hd : decode A pc = .ok (.if_icmp cd o, 3)) (n : Nat) (hn : (pc : Int) + o = (n : Int)) (hc : if_icmp.holds cd x y = true) (hr : Steps p.tables e below (T.setTop (mkF m n L S)) t) : Steps p.tables e below (T.setTop (mkF m pc L (.int y :: .int x :: S))) t :=
  XS.icmpYes X.here hx rfl (pc0 := pc) (pc' := n) rfl (hb hby hd) rfl hc (by omega) (by omega) hr
theorem o_icmpN (X : Stand p l e R s m args below meth c T locs cells slots) (hx : p.tables.exec = Jvm.exec) (hby : c.code = A) {cd : ClassFile.Cond} {x y : Int32} {o : Int} (hd : decode A pc = .ok (.if_icmp cd o, 3)) (n : Nat) (hn : pc + 3 = n) (hc : if_icmp.holds cd x y = false) (hr : Steps p.tables e below (T.setTop (mkF m n L S)) t) : Steps p.tables e below (T.setTop (mkF m pc L (.int y :: .int x :: S))) t := by
  subst hn; exact XS.icmpNo X.here hx rfl (hb hby hd) rfl hc hr
theorem o_ifnullY (X : Stand p l e R s m args below meth c T locs cells slots) (hx : p.tables.exec = Jvm.exec) (hby : c.code = A) {o : Int} (hd : decode A pc = .ok (.ifnull o, 3)) (n : Nat) (hn : (pc : Int) + o = (n : Int)) (hr : Steps p.tables e below (T.setTop (mkF m n L S)) t) : Steps p.tables e below (T.setTop (mkF m pc L (.null :: S))) t :=
  XS.ifnullYes X.here hx rfl (pc0 := pc) (pc' := n) rfl (hb hby hd) rfl (by omega) (by omega) hr
theorem o_ifnullN (X : Stand p l e R s m args below meth c T locs cells slots) (hx : p.tables.exec = Jvm.exec) (hby : c.code = A) {a : Addr} {o : Int} (hd : decode A pc = .ok (.ifnull o, 3)) (n : Nat) (hn : pc + 3 = n) (hr : Steps p.tables e below (T.setTop (mkF m n L S)) t) : Steps p.tables e below (T.setTop (mkF m pc L (.ref a :: S))) t := by
  subst hn; exact XS.ifnullNo X.here hx rfl (hb hby hd) rfl hr
theorem o_ifnonnullY (X : Stand p l e R s m args below meth c T locs cells slots) (hx : p.tables.exec = Jvm.exec) (hby : c.code = A) {a : Addr} {o : Int} (hd : decode A pc = .ok (.ifnonnull o, 3)) (n : Nat) (hn : (pc : Int) + o = (n : Int)) (hr : Steps p.tables e below (T.setTop (mkF m n L S)) t) : Steps p.tables e below (T.setTop (mkF m pc L (.ref a :: S))) t :=
  XS.ifnonnullYes X.here hx rfl (pc0 := pc) (pc' := n) rfl (hb hby hd) rfl (by omega) (by omega) hr
theorem o_ifnonnullN (X : Stand p l e R s m args below meth c T locs cells slots) (hx : p.tables.exec = Jvm.exec) (hby : c.code = A) {o : Int} (hd : decode A pc = .ok (.ifnonnull o, 3)) (n : Nat) (hn : pc + 3 = n) (hr : Steps p.tables e below (T.setTop (mkF m n L S)) t) : Steps p.tables e below (T.setTop (mkF m pc L (.null :: S))) t := by
  subst hn; exact XS.ifnonnullNo X.here hx rfl (hb hby hd) rfl hr
theorem o_acmp (X : Stand p l e R s m args below meth c T locs cells slots) (hx : p.tables.exec = Jvm.exec) (hby : c.code = A) {cd : ClassFile.ACond} {x y : Value} {o : Int} (hd : decode A pc = .ok (.if_acmp cd o, 3)) (n : Nat) {same : Bool} (h1 : x.isRef = true) (h2 : y.isRef = true) (hq : decide (x = y) = same) (ho : 0 ≤ (pc : Int) + o) (hp : n = if acV cd same = true then ((pc : Int) + o).toNat else pc + 3) (hr : Steps p.tables e below (T.setTop (mkF m n L S)) t) : Steps p.tables e below (T.setTop (mkF m pc L (y :: x :: S))) t :=
  Jvm.RoadKit.acmp X hx rfl h1 h2 (pc0 := pc) (pc' := n) rfl (hb hby hd) rfl hq ho hp hr
theorem o_ldcInt (X : Stand p l e R s m args below meth c T locs cells slots) (hx : p.tables.exec = Jvm.exec) (hby : c.code = A) {own : String} {i : Nat} {v : Int32} (hown : s.vm.findClass own = some m.cls) (hc : (Cond.constant own i v).before args s = true) (hd : decode A pc = .ok (.ldc i, 2)) (n : Nat) (hn : pc + 2 = n) (hr : Steps p.tables e below (T.setTop (mkF m n L (.int v :: S))) t) : Steps p.tables e below (T.setTop (mkF m pc L S)) t := by
  subst hn; exact X.ldcInt hx hown hc (g := mkF m pc L S) rfl (hb hby hd) t hr
theorem o_ldcwInt (X : Stand p l e R s m args below meth c T locs cells slots) (hx : p.tables.exec = Jvm.exec) (hby : c.code = A) {own : String} {i : Nat} {v : Int32} (hown : s.vm.findClass own = some m.cls) (hc : (Cond.constant own i v).before args s = true) (hd : decode A pc = .ok (.ldc_w i, 3)) (n : Nat) (hn : pc + 3 = n) (hr : Steps p.tables e below (T.setTop (mkF m n L (.int v :: S))) t) : Steps p.tables e below (T.setTop (mkF m pc L S)) t := by
  subst hn; exact X.ldcwInt hx hown hc (g := mkF m pc L S) rfl (hb hby hd) t hr
theorem o_ldc2Long (X : Stand p l e R s m args below meth c T locs cells slots) (hx : p.tables.exec = Jvm.exec) (hby : c.code = A) {own : String} {i : Nat} {v : Int64} (hown : s.vm.findClass own = some m.cls) (hc : (Cond.constantLong own i v).before args s = true) (hd : decode A pc = .ok (.ldc2_w i, 3)) (n : Nat) (hn : pc + 3 = n) (hr : Steps p.tables e below (T.setTop (mkF m n L (.long v :: S))) t) : Steps p.tables e below (T.setTop (mkF m pc L S)) t := by
  subst hn; exact X.ldc2Long hx hown hc (g := mkF m pc L S) rfl (hb hby hd) t hr
theorem o_b0 : narrow .boolean (.int (0 : Int32)) = .int (0 : Int32) := by decide
theorem o_b1 : narrow .boolean (.int (1 : Int32)) = .int (1 : Int32) := by decide
theorem o_b01 {z : Int32} (h : z = 0 ∨ z = 1) : narrow .boolean (.int z) = .int z := by rcases h with rfl | rfl <;> decide
theorem o_nf {z : Int32} (h : z = 0 ∨ z = 1) : narrow .boolean (.int z) = .int z ∧ fits .boolean (.int z) = true := by rcases h with rfl | rfl <;> decide
theorem o_retZ (X : Stand p l e R s m args below meth c T locs cells slots) (hx : p.tables.exec = Jvm.exec) {Ls : Array Slot} {z : Int32} {rest : List Value} (hret : meth.sig.returnType = some .boolean)
    (hd : decode c.code pc = .ok (.ireturn, 1)) (hz : z = 0 ∨ z = 1) {fs : List Frame} (hl : ∀ (f : JFrame) (acts : List Action), f.method = m → f.locked = none → f.entered = [] → (doReturn e (T.setTop f) acts (some (.int z))).1 = T.setFrames fs) :
    Steps p.tables e below (T.setTop (mkF m pc Ls (.int z :: rest))) (T.setFrames fs) :=
  retOut X hx hret (o_b01 hz) (Or.inl ⟨rfl, Or.inr (Or.inl rfl), z, rfl⟩) hd hl
theorem o_retI (X : Stand p l e R s m args below meth c T locs cells slots) (hx : p.tables.exec = Jvm.exec) {Ls : Array Slot} {z : Int32} {rest : List Value} (hret : meth.sig.returnType = some .int)
    (hd : decode c.code pc = .ok (.ireturn, 1)) {fs : List Frame} (hl : ∀ (f : JFrame) (acts : List Action), f.method = m → f.locked = none → f.entered = [] → (doReturn e (T.setTop f) acts (some (.int z))).1 = T.setFrames fs) :
    Steps p.tables e below (T.setTop (mkF m pc Ls (.int z :: rest))) (T.setFrames fs) :=
  retOut X hx hret rfl (Or.inl ⟨rfl, Or.inl rfl, z, rfl⟩) hd hl
theorem o_retB (X : Stand p l e R s m args below meth c T locs cells slots) (hx : p.tables.exec = Jvm.exec) {Ls : Array Slot} {z : Int32} {rest : List Value} (hret : meth.sig.returnType = some .byte)
    (hd : decode c.code pc = .ok (.ireturn, 1)) (hz : narrow .byte (.int z) = .int z) {fs : List Frame} (hl : ∀ (f : JFrame) (acts : List Action), f.method = m → f.locked = none → f.entered = [] → (doReturn e (T.setTop f) acts (some (.int z))).1 = T.setFrames fs) :
    Steps p.tables e below (T.setTop (mkF m pc Ls (.int z :: rest))) (T.setFrames fs) :=
  retOut X hx hret hz (Or.inl ⟨rfl, Or.inr (Or.inr (Or.inl rfl)), z, rfl⟩) hd hl
theorem o_retJ (X : Stand p l e R s m args below meth c T locs cells slots) (hx : p.tables.exec = Jvm.exec) {Ls : Array Slot} {z : Int64} {rest : List Value} (hret : meth.sig.returnType = some .long)
    (hd : decode c.code pc = .ok (.lreturn, 1)) {fs : List Frame} (hl : ∀ (f : JFrame) (acts : List Action), f.method = m → f.locked = none → f.entered = [] → (doReturn e (T.setTop f) acts (some (.long z))).1 = T.setFrames fs) :
    Steps p.tables e below (T.setTop (mkF m pc Ls (.long z :: rest))) (T.setFrames fs) :=
  retOut X hx hret rfl (Or.inr (Or.inl ⟨rfl, rfl, z, rfl⟩)) hd hl
theorem o_retR (X : Stand p l e R s m args below meth c T locs cells slots) (hx : p.tables.exec = Jvm.exec) {Ls : Array Slot} {w : Value} {ty : FieldType} {rest : List Value} (hret : meth.sig.returnType = some ty) (ht : ty.isReference = true)
    (hd : decode c.code pc = .ok (.areturn, 1)) (hw : w.isRef = true) (hn : narrow ty w = w) {fs : List Frame} (hl : ∀ (f : JFrame) (acts : List Action), f.method = m → f.locked = none → f.entered = [] → (doReturn e (T.setTop f) acts (some w)).1 = T.setFrames fs) :
    Steps p.tables e below (T.setTop (mkF m pc Ls (w :: rest))) (T.setFrames fs) :=
  retOut X hx hret hn (Or.inr (Or.inr (Or.inr (Or.inr ⟨rfl, ht, hw⟩)))) hd hl
end Own

theorem d2_0 : decode method_2_code 0 = .ok (.lload_n 0, 1) := by decide +kernel
theorem d2_1 : decode method_2_code 1 = .ok (.ldc2_w 9, 3) := by decide +kernel
theorem d2_4 : decode method_2_code 4 = .ok (.ladd, 1) := by decide +kernel
theorem d2_5 : decode method_2_code 5 = .ok (.lload_n 2, 1) := by decide +kernel
theorem d2_6 : decode method_2_code 6 = .ok (.ldc2_w 9, 3) := by decide +kernel
theorem d2_9 : decode method_2_code 9 = .ok (.ladd, 1) := by decide +kernel
theorem d2_10 : decode method_2_code 10 = .ok (.lcmp, 1) := by decide +kernel
theorem d2_11 : decode method_2_code 11 = .ok (.ifCond .ge 7, 3) := by decide +kernel
theorem d2_14 : decode method_2_code 14 = .ok (.iconst 1, 1) := by decide +kernel
theorem d2_15 : decode method_2_code 15 = .ok (.goto 4, 3) := by decide +kernel
theorem d2_18 : decode method_2_code 18 = .ok (.iconst 0, 1) := by decide +kernel
theorem d2_19 : decode method_2_code 19 = .ok (.ireturn, 1) := by decide +kernel
theorem pn_2 : plainName "com/example/amortine/amortine/WordsQuotientPinLaw" = true := by first | (simp [plainName, overriddenIn]; done) | decide +kernel
theorem ef_2 (m : MethodId) (x0 : Int64) (x1 : Int64) : entryFrame m #[(.long x0), (.long x1)] 4 = mkF m 0 #[.val (.long x0), .second, .val (.long x1), .second] [] := by first | (simp [entryFrame, mkF, argsToLocals, Value.category]; done) | rfl
def Fult (q0 : Int64) (q1 : Int64) : Int32 := let v1 : Int32 := (if (q0 + (-9223372036854775808 : Int64)) < (q1 + (-9223372036854775808 : Int64)) then (1 : Int32) else (0 : Int32)); v1
def Q2 (Z : State) (q0 : Int64) (q1 : Int64) (h0 : Heap) (n0 : Nat) (v : Option Value) (h : Heap) (L : List Loc) : Prop := v = some (.int (Fult q0 q1)) ∧ Fr n0 L ∧ h = h0
set_option maxRecDepth 65536 in
set_option maxHeartbeats 40000000 in
theorem rm2 (l : Launch) (Z : State) (aw : Array Value) (hw : ∀ d ∈ tables_1, d.before aw Z = true) (ws : List Jvm.Cond) (q0 : Int64) (q1 : Int64) (h0 : Heap) (n0 : Nat) (Z0 : n0 ≤ h0.size) :
    MetFree l (⟨"com/example/amortine/amortine/WordsQuotientPinLaw", "ult", "(JJ)Z"⟩ : MethodName) (head1 (Jvm.Cond.code (⟨"com/example/amortine/amortine/WordsQuotientPinLaw", "ult", "(JJ)Z"⟩ : MethodName) method_2_code 4 (some .boolean) :: ws) ({ frames := 0, cells := 0, slots := 0, locals := 0 } : Room)) (fun a U => a = #[(.long q0), (.long q1)] ∧ Z.Warmed39 U.vm ∧ U.heap = h0) (fun _ _ _ _ _ => True) (fun _ U o U' => ∃ v L, o = .returned v ∧ Q2 Z q0 q1 h0 n0 v U'.heap L ∧ FrameEnd U o U' L ({ frames := 0, cells := 0, slots := 0, locals := 0 } : Room).cells ({ frames := 0, cells := 0, slots := 0, locals := 0 } : Room).slots) := by
  refine MetFree.of_bodySF (plainFor_of_name pn_2) hisR ?_
  intro p e s m args below meth c s₁ Bd hml0 hP hK
  obtain ⟨rfl, hZ, hh⟩ := hP
  have hx := Bd.exec
  have hby := Bd.bytes
  have hml : c.maxLocals = 4 := hml0
  have hown : s.vm.findClass "com/example/amortine/amortine/WordsQuotientPinLaw" = some m.cls := findClass_of_methodNamed Bd.named
  have hnm := (name_of_methodNamed Bd.named Bd.method).1
  have X0 : Stand p l e ({ frames := 0, cells := 0, slots := 0, locals := 0 } : Room) s m #[(.long q0), (.long q1)] below meth c s₁ [] 0 0 := Stand.of_body Bd
  have e0 : s₁.heap = h0 := by rw [← hh, Bd.state]; rfl
  have N0 := Fr.nil n0
  obtain ⟨A0, hA0⟩ : ∃ A0, A0 = s₁.setTop (entryFrame m #[(.long q0), (.long q1)] 4) := ⟨_, rfl⟩
  have go0 : Go p e below A0 (s₁.setTop (mkF m 0 #[.val (.long q0), .second, .val (.long q1), .second] [])) := fun t k => by rw [hA0]; exact castTop (ef_2 m q0 q1) k
  have go1 : Go p e below A0 (s₁.setTop (mkF m 11 #[.val (.long q0), .second, .val (.long q1), .second] [(.int (lcmpW (q0 + (-9223372036854775808 : Int64)) (q1 + (-9223372036854775808 : Int64))))])) := by
    intro t k
    refine go0 t ?_
    refine o_lloadN X0 hx hby d2_0 1 rfl rfl ?_
    refine o_ldc2Long X0 hx hby hown (mvT hZ (hw _ (List.mem_of_getElem? (i := 0) rfl))) d2_1 4 rfl ?_
    refine o_ladd X0 hx hby d2_4 5 rfl ?_
    refine o_lloadN X0 hx hby d2_5 6 rfl rfl ?_
    refine o_ldc2Long X0 hx hby hown (mvT hZ (hw _ (List.mem_of_getElem? (i := 0) rfl))) d2_6 9 rfl ?_
    refine o_ladd X0 hx hby d2_9 10 rfl ?_
    refine o_lcmp X0 hx hby d2_10 11 rfl ?_
    exact k
  obtain ⟨v1, hv1, go4⟩ : ∃ (v1 : Int32), v1 = (if (q0 + (-9223372036854775808 : Int64)) < (q1 + (-9223372036854775808 : Int64)) then (1 : Int32) else (0 : Int32)) ∧ Go p e below A0 (s₁.setTop (mkF m 19 #[.val (.long q0), .second, .val (.long q1), .second] [(.int v1)])) := by
    by_cases hc11_1 : (q0 + (-9223372036854775808 : Int64)) < (q1 + (-9223372036854775808 : Int64))
    · have go2 : Go p e below A0 (s₁.setTop (mkF m 19 #[.val (.long q0), .second, .val (.long q1), .second] [(.int (1 : Int32))])) := by
        intro t k
        refine go1 t ?_
        refine o_ifN X0 hx hby d2_11 14 rfl (tlt ((lw_lt (q0 + (-9223372036854775808 : Int64)) (q1 + (-9223372036854775808 : Int64))).mpr hc11_1)).2.1 ?_
        refine o_iconst X0 hx hby d2_14 15 rfl (v := (1 : Int32)) rfl ?_
        refine o_goto X0 hx hby d2_15 19 rfl ?_
        exact k
      exact ⟨(1 : Int32), (if_pos hc11_1).symm, go2⟩
    · have go3 : Go p e below A0 (s₁.setTop (mkF m 19 #[.val (.long q0), .second, .val (.long q1), .second] [(.int (0 : Int32))])) := by
        intro t k
        refine go1 t ?_
        refine o_ifY X0 hx hby d2_11 18 rfl (flt (fun q => hc11_1 ((lw_lt (q0 + (-9223372036854775808 : Int64)) (q1 + (-9223372036854775808 : Int64))).mp q))).2.1 ?_
        refine o_iconst X0 hx hby d2_18 19 rfl (v := (0 : Int32)) rfl ?_
        exact k
      exact ⟨(0 : Int32), (if_neg hc11_1).symm, go3⟩
  have hF : v1 = Fult q0 q1 := by simp only [Fult, hv1]
  rw [hA0] at go4
  obtain ⟨fs, hr, hrun, hended, hW, hsame⟩ := X0.leave (v := some (.int v1)) (fun h => by rw [Bd.returns] at h; cases h)
  refine ⟨_, _, go4 _ (o_retZ X0 hx Bd.returns (hb hby d2_19) (by rw [hv1]; (repeat' split) <;> first | exact Or.inl rfl | exact Or.inr rfl) hr), hrun, hended, _, _, rfl, ?_, ⟨_, rfl⟩, hW, hsame.mono (by decide) (by decide)⟩
  show Q2 Z q0 q1 h0 n0 _ s₁.heap _
  rw [e0]
  exact ⟨by rw [← hF], N0, rfl⟩
def own_u (x : Int64) : Nat := x.toBitVec.toNat
theorem u_lt (x : Int64) : own_u x < 18446744073709551616 := x.toBitVec.isLt
theorem u_inj {x y : Int64} (h : own_u x = own_u y) : x = y := Int64.toBitVec_inj.mp (BitVec.eq_of_toNat_eq h)
theorem u_add (x y : Int64) : own_u (x + y) = (own_u x + own_u y) % 18446744073709551616 := BitVec.toNat_add _ _
theorem u_sub (x y : Int64) : own_u (x - y) = (18446744073709551616 - own_u y + own_u x) % 18446744073709551616 := BitVec.toNat_sub _ _
theorem u_mul (x y : Int64) : own_u (x * y) = (own_u x * own_u y) % 18446744073709551616 := BitVec.toNat_mul _ _
theorem u_half (x : Int64) : own_u (x &&& (4294967295 : Int64)) = own_u x % 4294967296 := by
  show (x.toBitVec &&& (4294967295 : Int64).toBitVec).toNat = _
  rw [BitVec.toNat_and, show (4294967295 : Int64).toBitVec.toNat = 2 ^ 32 - 1 from by decide, Nat.and_two_pow_sub_one_eq_mod]; rfl
theorem u_63 (x : Int64) : own_u (x &&& (9223372036854775807 : Int64)) = own_u x % 9223372036854775808 := by
  show (x.toBitVec &&& (9223372036854775807 : Int64).toBitVec).toNat = _
  rw [BitVec.toNat_and, show (9223372036854775807 : Int64).toBitVec.toNat = 2 ^ 63 - 1 from by decide, Nat.and_two_pow_sub_one_eq_mod]; rfl
theorem u_shl (x : Int64) (q : Int32) (k : Nat) (hk : q.toBitVec.toNat % 64 = k) : own_u (x <<< (q &&& 0x3f).toInt64) = own_u x * 2 ^ k % 18446744073709551616 := by
  show (x.toBitVec <<< ((q &&& 0x3f).toInt64.toBitVec.smod 64)).toNat = _
  rw [BitVec.shiftLeft_eq', (sm64 q k hk).1, smod64 k (sm64 q k hk).2, BitVec.toNat_shiftLeft, Nat.shiftLeft_eq]; rfl
theorem u_shr (x : Int64) (q : Int32) (k : Nat) (hk : q.toBitVec.toNat % 64 = k) : own_u ((x.toUInt64 >>> (q &&& 0x3f).toInt64.toUInt64).toInt64) = own_u x / 2 ^ k := by
  have h5 := (sm64 q k hk).2
  show (x.toBitVec >>> ((q &&& 0x3f).toInt64.toBitVec % 64)).toNat = x.toBitVec.toNat / 2 ^ k
  rw [BitVec.ushiftRight_eq', BitVec.toNat_ushiftRight, Nat.shiftRight_eq_div_pow, BitVec.toNat_umod, (sm64 q k hk).1, BitVec.toNat_ofNat]; congr 2; show k % 2 ^ 64 % 64 = k; omega
theorem n_or (a b k : Nat) (ha : a % 2 ^ k = 0) (hb : b < 2 ^ k) : a ||| b = a + b := by
  have : a = 2 ^ k * (a / 2 ^ k) := (Nat.mul_div_cancel' (Nat.dvd_of_mod_eq_zero ha)).symm
  rw [this, ← Nat.two_pow_add_eq_or_of_lt hb]
theorem u_or (x y : Int64) (k : Nat) (ha : own_u x % 2 ^ k = 0) (hb : own_u y < 2 ^ k) : own_u (x ||| y) = own_u x + own_u y := by
  show (x.toBitVec ||| y.toBitVec).toNat = _
  rw [BitVec.toNat_or]; exact n_or _ _ k ha hb
theorem u_int (x : Int64) : x.toInt = if own_u x < 9223372036854775808 then (own_u x : Int) else (own_u x : Int) - 18446744073709551616 := by
  show x.toBitVec.toInt = _
  rw [BitVec.toInt_eq_toNat_cond]; unfold own_u; have := x.toBitVec.isLt
  split <;> split <;> omega
theorem u_ltu (x y : Int64) : (x + (-9223372036854775808 : Int64)) < (y + (-9223372036854775808 : Int64)) ↔ own_u x < own_u y := by
  have h : own_u (-9223372036854775808 : Int64) = 9223372036854775808 := by decide
  have hx := u_lt x; have hy := u_lt y
  rw [Int64.lt_iff_toInt_lt, u_int (x + _), u_int (y + _), u_add, u_add, h]
  split <;> split <;> omega
theorem u_lts {x y : Int64} (hx : own_u x < 9223372036854775808) (hy : own_u y < 9223372036854775808) : x < y ↔ own_u x < own_u y := by
  rw [Int64.lt_iff_toInt_lt, u_int x, u_int y, if_pos hx, if_pos hy]; omega
theorem u_div {x y : Int64} (hx : own_u x < 9223372036854775808) (hy : own_u y < 9223372036854775808) (h0 : 0 < own_u y) : own_u (x / y) = own_u x / own_u y := by
  have e : (x / y).toInt = ((own_u x / own_u y : Nat) : Int) := by
    rw [Int64.toInt_div_of_ne_right x y (fun q => by rw [q] at hy; revert hy; decide), u_int x, u_int y, if_pos hx, if_pos hy, Int.tdiv_eq_ediv_of_nonneg (by omega), Int.natCast_ediv]
  have b : own_u x / own_u y ≤ own_u x := Nat.div_le_self _ _
  rw [u_int (x / y)] at e
  have := u_lt (x / y)
  generalize own_u x / own_u y = Q at *
  split at e <;> omega
theorem u_mod {x y : Int64} (hx : own_u x < 9223372036854775808) (hy : own_u y < 9223372036854775808) : own_u (x % y) = own_u x % own_u y := by
  have e : (x % y).toInt = ((own_u x % own_u y : Nat) : Int) := by
    rw [Int64.toInt_mod, u_int x, u_int y, if_pos hx, if_pos hy, Int.tmod_eq_emod_of_nonneg (by omega), Int.natCast_emod]
  have b : own_u x % own_u y ≤ own_u x := Nat.mod_le _ _
  rw [u_int (x % y)] at e
  have := u_lt (x % y)
  generalize own_u x % own_u y = Q at *
  split at e <;> omega
-- one digit of the quotient, in naturals: u the rest so far, below n = dh * 2^32 + dl; l the next half word
theorem n_est (u d : Nat) (hd : 0 < d) : u / 2 / d * 2 * d ≤ u ∧ u < u / 2 / d * 2 * d + 2 * d := by
  have h1 := Nat.div_add_mod (u / 2) d; have h2 := Nat.mod_lt (u / 2) hd
  have h3 : u / 2 / d * 2 * d = 2 * (d * (u / 2 / d)) := by rw [Nat.mul_comm (u / 2 / d) 2, Nat.mul_assoc, Nat.mul_comm (u / 2 / d)]
  rw [h3]; generalize d * (u / 2 / d) = X at *; omega
/-- an estimate g at least the true digit, with its rest r, whose test holds, is the true digit -/
theorem n_hit {u n dh dl l g r : Nat} (hn : n = dh * 4294967296 + dl) (hr : g * dh + r = u) (hge : (u * 4294967296 + l) / n ≤ g) (hpos : 0 < n) (ht : g * dl ≤ r * 4294967296 + l) : (u * 4294967296 + l) / n = g := by
  apply Nat.le_antisymm hge
  rw [Nat.le_div_iff_mul_le hpos, hn, Nat.mul_add, ← Nat.mul_assoc]
  have : g * dh * 4294967296 + r * 4294967296 = u * 4294967296 := by rw [← Nat.add_mul, hr]
  omega
/-- one whose test fails is too high -/
theorem n_miss {u n dh dl l g r : Nat} (hn : n = dh * 4294967296 + dl) (hr : g * dh + r = u) (hpos : 0 < n) (ht : r * 4294967296 + l < g * dl) : (u * 4294967296 + l) / n ≤ g - 1 := by
  have h : (u * 4294967296 + l) / n < g := by
    rw [Nat.div_lt_iff_lt_mul hpos, hn, Nat.mul_add, ← Nat.mul_assoc]
    generalize g * dh = X at *; generalize g * dl = Y at *
    rw [← hr, Nat.add_mul, Nat.add_assoc]; exact Nat.add_lt_add_left ht _
  omega
/-- the digit is below 2^32 -/
theorem n_dig {u n l : Nat} (hu : u < n) (hl : l < 4294967296) : (u * 4294967296 + l) / n ≤ 4294967295 := by
  have hpos : 0 < n := by omega
  have h : u * 4294967296 + l < 4294967296 * n := by omega
  have := (Nat.div_lt_iff_lt_mul hpos).mpr h
  omega
/-- the first estimate is at least the digit -/
theorem n_first {u n dh dl l : Nat} (hn : n = dh * 4294967296 + dl) (hd : 0 < dh) (hl : l < 4294967296) : (u * 4294967296 + l) / n ≤ u / dh := by
  have hpos : 0 < n := by rw [hn]; omega
  have : (u * 4294967296 + l) / n < u / dh + 1 := by
    rw [Nat.div_lt_iff_lt_mul hpos, hn, Nat.mul_add, ← Nat.mul_assoc]
    have h1 := Nat.div_add_mod u dh; have h2 := Nat.mod_lt u hd
    have h3 : (u / dh + 1) * dh = dh * (u / dh) + dh := by rw [Nat.add_mul, Nat.one_mul, Nat.mul_comm]
    rw [h3]; generalize dh * (u / dh) = X at *
    have : 0 ≤ (u / dh + 1) * dl := Nat.zero_le _
    omega
  omega
/-- a rest of a whole half word leaves the estimate right -/
theorem n_whole {u n dh dl l g r : Nat} (hn : n = dh * 4294967296 + dl) (hr : g * dh + r = u) (hu : u < n) (hdl : dl < 4294967296) (hd : 0 < dh) (h : 4294967295 < r) : g * dl ≤ r * 4294967296 + l := by
  have h1 : g < 4294967296 := by
    rcases Nat.lt_or_ge g 4294967296 with h1 | h1
    · exact h1
    · have := Nat.mul_le_mul_right dh h1; rw [Nat.mul_comm 4294967296] at this; omega
  have h2 : g * dl ≤ 4294967296 * 4294967296 := Nat.mul_le_mul (by omega) (by omega)
  have h3 := Nat.mul_le_mul_right 4294967296 (show 4294967296 ≤ r by omega)
  omega
theorem u_sub' {x y : Int64} (h : own_u y ≤ own_u x) : own_u (x - y) = own_u x - own_u y := by
  have := u_lt x; have := u_lt y; rw [u_sub]; omega
theorem u_add' {x y : Int64} (h : own_u x + own_u y < 18446744073709551616) : own_u (x + y) = own_u x + own_u y := by rw [u_add]; omega
theorem u_mul' {x y : Int64} (h : own_u x * own_u y < 18446744073709551616) : own_u (x * y) = own_u x * own_u y := by rw [u_mul, Nat.mod_eq_of_lt h]
theorem u_1 : own_u (1 : Int64) = 1 := by decide
theorem u_H : own_u (4294967295 : Int64) = 4294967295 := by decide
/-- rest << 32 | lower -/
theorem u_cat {r l : Int64} (hr : own_u r < 4294967296) (hl : own_u l < 4294967296) : own_u ((r <<< ((32 : Int32) &&& 0x3f).toInt64) ||| l) = own_u r * 4294967296 + own_u l := by
  have h := u_shl r 32 32 (by decide)
  rw [show (2 : Nat) ^ 32 = 4294967296 from by decide, Nat.mod_eq_of_lt (by omega)] at h
  rw [u_or _ _ 32 (by rw [h]; show own_u r * 4294967296 % 4294967296 = 0; omega) hl, h]
/-- the test of an estimate -/
theorem u_test {g r d3 l : Int64} (hg : own_u g ≤ 4294967295) (hr : own_u r < 4294967296) (hd : own_u d3 < 4294967296) (hl : own_u l < 4294967296) :
    ((((r <<< ((32 : Int32) &&& 0x3f).toInt64) ||| l) + (-9223372036854775808 : Int64)) < ((g * d3) + (-9223372036854775808 : Int64))) ↔ own_u r * 4294967296 + own_u l < own_u g * own_u d3 := by
  have h : own_u g * own_u d3 ≤ 4294967295 * 4294967295 := Nat.mul_le_mul hg (by omega)
  rw [u_ltu, u_cat hr hl, u_mul' (by omega)]
theorem u_inner {v9 v10 v2 v3 v6 : Int64} {u n : Nat} (hn : n = own_u v2 * 4294967296 + own_u v3) (hd1 : 2147483648 ≤ own_u v2) (hd2 : own_u v2 < 4294967296) (hdl : own_u v3 < 4294967296) (hl : own_u v6 < 4294967296) (hu : u < n)
    (hr : own_u v9 * own_u v2 + own_u v10 = u) (hrd : own_u v10 < own_u v2) (hg1 : 1 ≤ own_u v9) (hgB : own_u v9 < 17179869184) (hle : (u * 4294967296 + own_u v6) / n ≤ own_u v9 - 1) :
    own_u (if (4294967295 : Int64) < (v10 + v2) then (v9 - (1 : Int64)) else (if (4294967295 : Int64) < (v9 - (1 : Int64)) then ((v9 - (1 : Int64)) - (1 : Int64)) else (if ((((v10 + v2) <<< ((32 : Int32) &&& 0x3f).toInt64) ||| v6) + (-9223372036854775808 : Int64)) < (((v9 - (1 : Int64)) * v3) + (-9223372036854775808 : Int64)) then ((v9 - (1 : Int64)) - (1 : Int64)) else (v9 - (1 : Int64))))) = (u * 4294967296 + own_u v6) / n := by
  have hpos : 0 < n := by omega
  have a1 : own_u (v9 - 1) = own_u v9 - 1 := u_sub' (by rw [u_1]; exact hg1)
  have a2 : own_u (v10 + v2) = own_u v10 + own_u v2 := u_add' (by omega)
  have r1 : (own_u v9 - 1) * own_u v2 + (own_u v10 + own_u v2) = u := by
    rw [Nat.sub_mul, Nat.one_mul]
    have := Nat.mul_le_mul_right (own_u v2) hg1
    rw [Nat.one_mul] at this
    generalize own_u v9 * own_u v2 = X at *; omega
  by_cases c1 : (4294967295 : Int64) < (v10 + v2)
  · rw [if_pos c1, a1]
    rw [u_lts (by rw [u_H]; omega) (by rw [a2]; omega), u_H, a2] at c1
    exact (n_hit hn r1 hle hpos (n_whole hn r1 hu hdl (by omega) c1)).symm
  · rw [if_neg c1]
    rw [u_lts (by rw [u_H]; omega) (by rw [a2]; omega), u_H, a2] at c1
    have deep : ∀ (hz : 1 ≤ own_u v9 - 1), (u * 4294967296 + own_u v6) / n ≤ own_u v9 - 1 - 1 → own_u ((v9 - 1) - 1) = (u * 4294967296 + own_u v6) / n := fun hz h2 => by
      rw [u_sub' (by rw [u_1, a1]; exact hz), a1, u_1]
      have r2 : (own_u v9 - 1 - 1) * own_u v2 + (own_u v10 + own_u v2 + own_u v2) = u := by
        rw [Nat.sub_mul (own_u v9 - 1), Nat.one_mul]
        have := Nat.mul_le_mul_right (own_u v2) hz
        rw [Nat.one_mul] at this
        generalize (own_u v9 - 1) * own_u v2 = X at *; omega
      exact (n_hit hn r2 h2 hpos (n_whole hn r2 hu hdl (by omega) (by omega))).symm
    have dg : (u * 4294967296 + own_u v6) / n ≤ 4294967295 := n_dig hu hl
    by_cases c2 : (4294967295 : Int64) < (v9 - 1)
    · rw [if_pos c2]
      rw [u_lts (by rw [u_H]; omega) (by rw [a1]; omega), u_H, a1] at c2
      exact deep (by omega) (by omega)
    · rw [if_neg c2]
      rw [u_lts (by rw [u_H]; omega) (by rw [a1]; omega), u_H, a1] at c2
      by_cases c3 : ((((v10 + v2) <<< ((32 : Int32) &&& 0x3f).toInt64) ||| v6) + (-9223372036854775808 : Int64)) < (((v9 - (1 : Int64)) * v3) + (-9223372036854775808 : Int64))
      · rw [if_pos c3]
        rw [u_test (by rw [a1]; omega) (by rw [a2]; omega) hdl hl, a1, a2] at c3
        have hz : 1 ≤ own_u v9 - 1 := by
          rcases Nat.eq_zero_or_pos (own_u v9 - 1) with h | h
          · rw [h, Nat.zero_mul] at c3; omega
          · exact h
        exact deep hz (n_miss hn r1 hpos c3)
      · rw [if_neg c3, a1]
        rw [u_test (by rw [a1]; omega) (by rw [a2]; omega) hdl hl, a1, a2] at c3
        exact (n_hit hn r1 hle hpos (by omega)).symm
theorem u_digit {v2 v3 v4 v6 v7 v8 v9 v10 v25 : Int64} {n : Nat} (hn : n = own_u v2 * 4294967296 + own_u v3) (hd1 : 2147483648 ≤ own_u v2) (hd2 : own_u v2 < 4294967296) (hdl : own_u v3 < 4294967296) (hl : own_u v6 < 4294967296) (hu : own_u v4 < n)
    (hv7 : v7 = ((((v4.toUInt64 >>> ((1 : Int32) &&& 0x3f).toInt64.toUInt64).toInt64) / v2) <<< ((1 : Int32) &&& 0x3f).toInt64)) (hv8 : v8 = (v4 - (v7 * v2)))
    (hv9 : v9 = (if (v8 + (-9223372036854775808 : Int64)) < (v2 + (-9223372036854775808 : Int64)) then v7 else (v7 + (1 : Int64))))
    (hv10 : v10 = (if (v8 + (-9223372036854775808 : Int64)) < (v2 + (-9223372036854775808 : Int64)) then v8 else (v8 - v2)))
    (hv25 : v25 = (if (4294967295 : Int64) < v9 then (if (4294967295 : Int64) < (v10 + v2) then (v9 - (1 : Int64)) else (if (4294967295 : Int64) < (v9 - (1 : Int64)) then ((v9 - (1 : Int64)) - (1 : Int64)) else (if ((((v10 + v2) <<< ((32 : Int32) &&& 0x3f).toInt64) ||| v6) + (-9223372036854775808 : Int64)) < (((v9 - (1 : Int64)) * v3) + (-9223372036854775808 : Int64)) then ((v9 - (1 : Int64)) - (1 : Int64)) else (v9 - (1 : Int64))))) else (if (((v10 <<< ((32 : Int32) &&& 0x3f).toInt64) ||| v6) + (-9223372036854775808 : Int64)) < ((v9 * v3) + (-9223372036854775808 : Int64)) then (if (4294967295 : Int64) < (v10 + v2) then (v9 - (1 : Int64)) else (if (4294967295 : Int64) < (v9 - (1 : Int64)) then ((v9 - (1 : Int64)) - (1 : Int64)) else (if ((((v10 + v2) <<< ((32 : Int32) &&& 0x3f).toInt64) ||| v6) + (-9223372036854775808 : Int64)) < (((v9 - (1 : Int64)) * v3) + (-9223372036854775808 : Int64)) then ((v9 - (1 : Int64)) - (1 : Int64)) else (v9 - (1 : Int64))))) else v9))) :
    own_u v25 = (own_u v4 * 4294967296 + own_u v6) / n := by
  have hpos : 0 < n := by omega
  have h4 := u_lt v4
  have d0 : 0 < own_u v2 := by omega
  have s1 : own_u ((v4.toUInt64 >>> ((1 : Int32) &&& 0x3f).toInt64.toUInt64).toInt64) = own_u v4 / 2 := u_shr v4 1 1 (by decide)
  have s2 : own_u (((v4.toUInt64 >>> ((1 : Int32) &&& 0x3f).toInt64.toUInt64).toInt64) / v2) = own_u v4 / 2 / own_u v2 := by rw [u_div (by rw [s1]; omega) (by omega) d0, s1]
  have b1 : own_u v4 / 2 / own_u v2 ≤ own_u v4 / 2 := Nat.div_le_self _ _
  obtain ⟨e1, e2⟩ := n_est (own_u v4) (own_u v2) d0
  have u7 : own_u v7 = own_u v4 / 2 / own_u v2 * 2 := by
    rw [hv7, u_shl _ 1 1 (by decide), s2]; show _ * 2 % _ = _; omega
  rw [← u7] at e1 e2
  have m7 : own_u (v7 * v2) = own_u v7 * own_u v2 := u_mul' (by omega)
  have u8 : own_u v8 = own_u v4 - own_u v7 * own_u v2 := by rw [hv8, u_sub' (by rw [m7]; exact e1), m7]
  have g9 : own_u v9 * own_u v2 + own_u v10 = own_u v4 ∧ own_u v10 < own_u v2 := by
    by_cases c : (v8 + (-9223372036854775808 : Int64)) < (v2 + (-9223372036854775808 : Int64))
    · rw [hv9, hv10, if_pos c, if_pos c]; rw [u_ltu] at c; omega
    · rw [hv9, hv10, if_neg c, if_neg c]; rw [u_ltu] at c
      have k : own_u (v7 + 1) = own_u v7 + 1 := by rw [u_add', u_1]; rw [u_1]; omega
      rw [k, u_sub' (by omega), Nat.add_mul, Nat.one_mul]; omega
  obtain ⟨hr, hrd⟩ := g9
  have hgB : own_u v9 < 17179869184 := by
    rcases Nat.lt_or_ge (own_u v9) 17179869184 with h | h
    · exact h
    · have := Nat.mul_le_mul h hd1; omega
  have hq : (own_u v4 * 4294967296 + own_u v6) / n ≤ own_u v9 := by
    have := n_first (u := own_u v4) (l := own_u v6) hn d0 hl
    have e : own_u v4 / own_u v2 = own_u v9 := by
      rw [← hr, Nat.mul_comm, Nat.mul_add_div d0, Nat.div_eq_of_lt hrd, Nat.add_zero]
    rw [e] at this; exact this
  have dg : (own_u v4 * 4294967296 + own_u v6) / n ≤ 4294967295 := n_dig hu hl
  by_cases c1 : (4294967295 : Int64) < v9
  · rw [hv25, if_pos c1]
    rw [u_lts (by rw [u_H]; omega) (by omega), u_H] at c1
    exact u_inner hn hd1 hd2 hdl hl hu hr hrd (by omega) hgB (by omega)
  · rw [hv25, if_neg c1]
    rw [u_lts (by rw [u_H]; omega) (by omega), u_H] at c1
    by_cases c2 : (((v10 <<< ((32 : Int32) &&& 0x3f).toInt64) ||| v6) + (-9223372036854775808 : Int64)) < ((v9 * v3) + (-9223372036854775808 : Int64))
    · rw [if_pos c2]
      rw [u_test (by omega) (by omega) hdl hl] at c2
      have hz : 1 ≤ own_u v9 := by
        rcases Nat.eq_zero_or_pos (own_u v9) with h | h
        · rw [h, Nat.zero_mul] at c2; omega
        · exact h
      exact u_inner hn hd1 hd2 hdl hl hu hr hrd hz hgB (n_miss hn hr hpos c2)
    · rw [if_neg c2]
      rw [u_test (by omega) (by omega) hdl hl] at c2
      exact (n_hit hn hr hq hpos (by omega)).symm
theorem n_back (X Y W : Nat) (h : X + Y = W) (hY : Y < 18446744073709551616) : (18446744073709551616 - X % 18446744073709551616 + W % 18446744073709551616) % 18446744073709551616 = Y := by
  subst h
  generalize hM : 18446744073709551616 = M at *
  have hp : 0 < M := by omega
  have h1 := Nat.mod_lt X hp
  rw [← Nat.mod_add_mod X M Y]
  generalize X % M = x at *
  by_cases q : x + Y < M
  · rw [Nat.mod_eq_of_lt q, show M - x + (x + Y) = Y + M by omega, Nat.add_mod_right, Nat.mod_eq_of_lt hY]
  · rw [Nat.mod_eq_sub_mod (a := x + Y) (b := M) (by omega), Nat.mod_eq_of_lt (show x + Y - M < M by omega), show M - x + (x + Y - M) = Y by omega, Nat.mod_eq_of_lt hY]
/-- the rest behind a digit -/
theorem u_rest {v1 v4 v6 v25 v28 : Int64} (hu : own_u v4 < own_u v1) (hl : own_u v6 < 4294967296) (hq : own_u v25 = (own_u v4 * 4294967296 + own_u v6) / own_u v1) (hv28 : v28 = (((v4 <<< ((32 : Int32) &&& 0x3f).toInt64) + v6) - (v25 * v1))) :
    own_u v28 = (own_u v4 * 4294967296 + own_u v6) % own_u v1 := by
  have hpos : 0 < own_u v1 := by omega
  have s := u_shl v4 32 32 (by decide)
  rw [show (2 : Nat) ^ 32 = 4294967296 from by decide] at s
  have h1 := Nat.div_add_mod (own_u v4 * 4294967296 + own_u v6) (own_u v1)
  have h2 := Nat.mod_lt (own_u v4 * 4294967296 + own_u v6) hpos
  have h3 := u_lt v1
  have a : own_u ((v4 <<< ((32 : Int32) &&& 0x3f).toInt64) + v6) = (own_u v4 * 4294967296 + own_u v6) % 18446744073709551616 := by rw [u_add, s, Nat.mod_add_mod]
  have b : own_u (v25 * v1) = (own_u v1 * ((own_u v4 * 4294967296 + own_u v6) / own_u v1)) % 18446744073709551616 := by rw [u_mul, hq, Nat.mul_comm]
  rw [hv28, u_sub, a, b]
  exact n_back _ _ _ h1 (Nat.lt_trans h2 h3)
def own_ok (q0 q2 : Int64) (p3 : Int32) : Prop := p3.toBitVec.toNat < 64 ∧ 9223372036854775808 ≤ own_u q2 * 2 ^ p3.toBitVec.toNat ∧ own_u q2 * 2 ^ p3.toBitVec.toNat < 18446744073709551616 ∧ own_u q0 < own_u q2
def own_q (q0 q1 q2 r : Int64) : Prop := own_u r = (own_u q0 * 18446744073709551616 + own_u q1) / own_u q2
theorem own_base {q0 q2 v1 v2 v3 : Int64} {p3 : Int32} (h : own_ok q0 q2 p3) (hv1 : v1 = (q2 <<< (p3 &&& 0x3f).toInt64)) (hv2 : v2 = ((v1.toUInt64 >>> ((32 : Int32) &&& 0x3f).toInt64.toUInt64).toInt64)) (hv3 : v3 = (v1 &&& (4294967295 : Int64))) :
    own_u v1 = own_u q2 * 2 ^ p3.toBitVec.toNat ∧ own_u v1 = own_u v2 * 4294967296 + own_u v3 ∧ 2147483648 ≤ own_u v2 ∧ own_u v2 < 4294967296 ∧ own_u v3 < 4294967296 := by
  obtain ⟨k1, k2, k3, k4⟩ := h
  have e1 : own_u v1 = own_u q2 * 2 ^ p3.toBitVec.toNat := by rw [hv1, u_shl q2 p3 p3.toBitVec.toNat (by omega), Nat.mod_eq_of_lt k3]
  have e2 : own_u v2 = own_u v1 / 4294967296 := by rw [hv2]; exact u_shr v1 32 32 (by decide)
  have e3 : own_u v3 = own_u v1 % 4294967296 := by rw [hv3]; exact u_half v1
  rw [← e1] at k2 k3
  refine ⟨e1, ?_, ?_, ?_, ?_⟩ <;> omega
theorem own_nz {q0 q2 v1 v2 : Int64} {p3 : Int32} (h : own_ok q0 q2 p3) (hv1 : v1 = (q2 <<< (p3 &&& 0x3f).toInt64)) (hv2 : v2 = ((v1.toUInt64 >>> ((32 : Int32) &&& 0x3f).toInt64.toUInt64).toInt64)) : ¬ (v2 = (0 : Int64)) := by
  obtain ⟨-, -, b, -, -⟩ := own_base h hv1 hv2 rfl
  intro q; rw [q] at b; revert b; decide
theorem own_187 {v2 v4 v7 v8 v10 : Int64} (hd1 : 2147483648 ≤ own_u v2) (hd2 : own_u v2 < 4294967296)
    (hv7 : v7 = ((((v4.toUInt64 >>> ((1 : Int32) &&& 0x3f).toInt64.toUInt64).toInt64) / v2) <<< ((1 : Int32) &&& 0x3f).toInt64)) (hv8 : v8 = (v4 - (v7 * v2)))
    (hv10 : v10 = (if (v8 + (-9223372036854775808 : Int64)) < (v2 + (-9223372036854775808 : Int64)) then v8 else (v8 - v2))) : (4294967295 : Int64) < ((v10 + v2) + v2) := by
  have h4 := u_lt v4
  have d0 : 0 < own_u v2 := by omega
  have s1 : own_u ((v4.toUInt64 >>> ((1 : Int32) &&& 0x3f).toInt64.toUInt64).toInt64) = own_u v4 / 2 := u_shr v4 1 1 (by decide)
  have s2 : own_u (((v4.toUInt64 >>> ((1 : Int32) &&& 0x3f).toInt64.toUInt64).toInt64) / v2) = own_u v4 / 2 / own_u v2 := by rw [u_div (by rw [s1]; omega) (by omega) d0, s1]
  have b1 : own_u v4 / 2 / own_u v2 ≤ own_u v4 / 2 := Nat.div_le_self _ _
  obtain ⟨e1, e2⟩ := n_est (own_u v4) (own_u v2) d0
  have u7 : own_u v7 = own_u v4 / 2 / own_u v2 * 2 := by
    rw [hv7, u_shl _ 1 1 (by decide), s2]; show _ * 2 % _ = _; omega
  rw [← u7] at e1 e2
  have m7 : own_u (v7 * v2) = own_u v7 * own_u v2 := u_mul' (by omega)
  have u8 : own_u v8 = own_u v4 - own_u v7 * own_u v2 := by rw [hv8, u_sub' (by rw [m7]; exact e1), m7]
  have r : own_u v10 < own_u v2 := by
    by_cases c : (v8 + (-9223372036854775808 : Int64)) < (v2 + (-9223372036854775808 : Int64))
    · rw [hv10, if_pos c]; rw [u_ltu] at c; exact c
    · rw [hv10, if_neg c]; rw [u_ltu] at c
      rw [u_sub' (by omega)]; omega
  have a1 : own_u (v10 + v2) = own_u v10 + own_u v2 := u_add' (by omega)
  have a2 : own_u (v10 + v2 + v2) = own_u v10 + own_u v2 + own_u v2 := by rw [u_add' (by omega), a1]
  rw [u_lts (by rw [u_H]; omega) (by rw [a2]; omega), u_H, a2]; omega
theorem n_lin (P Q S U l0 : Nat) (h : Q + S = P + U) : P + (U + l0) = Q + (S + l0) := by omega
theorem n_two (A l1 l0 N : Nat) (hN : 0 < N) : (A * 4294967296 + l1) / N * 4294967296 + ((A * 4294967296 + l1) % N * 4294967296 + l0) / N = (A * 18446744073709551616 + (l1 * 4294967296 + l0)) / N := by
  have h := Nat.div_add_mod (A * 4294967296 + l1) N
  have e : A * 18446744073709551616 + (l1 * 4294967296 + l0) = N * ((A * 4294967296 + l1) / N * 4294967296) + ((A * 4294967296 + l1) % N * 4294967296 + l0) := by
    rw [← Nat.mul_assoc]
    generalize (A * 4294967296 + l1) % N = R at *
    generalize N * ((A * 4294967296 + l1) / N) = X at *
    have : (X + R) * 4294967296 = (A * 4294967296 + l1) * 4294967296 := by rw [h]
    rw [Nat.add_mul, Nat.add_mul, Nat.mul_assoc, show 4294967296 * 4294967296 = 18446744073709551616 from rfl] at this
    exact n_lin _ _ _ _ _ this
  rw [e, Nat.mul_add_div hN]
theorem own_upper {q0 q1 q2 v4 : Int64} {p3 : Int32} (h : own_ok q0 q2 p3) (hv4 : v4 = (if p3 = (0 : Int32) then q0 else ((q0 <<< (p3 &&& 0x3f).toInt64) ||| ((q1.toUInt64 >>> (((64 : Int32) - p3) &&& 0x3f).toInt64.toUInt64).toInt64)))) :
    own_u v4 * 18446744073709551616 + own_u q1 * 2 ^ p3.toBitVec.toNat % 18446744073709551616 = (own_u q0 * 18446744073709551616 + own_u q1) * 2 ^ p3.toBitVec.toNat ∧ own_u v4 < own_u q2 * 2 ^ p3.toBitVec.toNat := by
  obtain ⟨k1, k2, k3, k4⟩ := h
  have hq := u_lt q1
  have up : own_u v4 = own_u q0 * 2 ^ p3.toBitVec.toNat + own_u q1 * 2 ^ p3.toBitVec.toNat / 18446744073709551616 := by
    by_cases c : p3 = 0
    · rw [hv4, if_pos c, c, show (0 : Int32).toBitVec.toNat = 0 from by decide, Nat.pow_zero, Nat.mul_one, Nat.mul_one, Nat.div_eq_of_lt hq, Nat.add_zero]
    · have hk : p3.toBitVec.toNat ≠ 0 := fun z => c (Int32.toBitVec_inj.mp (BitVec.eq_of_toNat_eq z))
      rw [hv4, if_neg c]
      have s1 : own_u (q0 <<< (p3 &&& 0x3f).toInt64) = own_u q0 * 2 ^ p3.toBitVec.toNat := by
        rw [u_shl q0 p3 p3.toBitVec.toNat (by omega), Nat.mod_eq_of_lt]
        exact Nat.lt_of_le_of_lt (Nat.mul_le_mul_right _ (Nat.le_of_lt k4)) k3
      have w : ((64 : Int32) - p3).toBitVec.toNat % 64 = 64 - p3.toBitVec.toNat := by
        show ((64 : Int32).toBitVec - p3.toBitVec).toNat % 64 = _
        rw [BitVec.toNat_sub, show (64 : Int32).toBitVec.toNat = 64 from by decide]; omega
      have s2 := u_shr q1 (64 - p3) (64 - p3.toBitVec.toNat) w
      have pw : 2 ^ (64 - p3.toBitVec.toNat) * 2 ^ p3.toBitVec.toNat = 18446744073709551616 := by rw [← Nat.pow_add, show 64 - p3.toBitVec.toNat + p3.toBitVec.toNat = 64 by omega]
      have e : own_u q1 * 2 ^ p3.toBitVec.toNat / 18446744073709551616 = own_u q1 / 2 ^ (64 - p3.toBitVec.toNat) := by
        rw [← pw, Nat.mul_div_mul_right _ _ (Nat.two_pow_pos _)]
      have lt : own_u q1 / 2 ^ (64 - p3.toBitVec.toNat) < 2 ^ p3.toBitVec.toNat := by
        rw [Nat.div_lt_iff_lt_mul (Nat.two_pow_pos _), Nat.mul_comm, pw]; exact hq
      rw [u_or _ _ p3.toBitVec.toNat (by rw [s1, Nat.mul_mod_left]) (by rw [s2]; exact lt), s1, s2, e]
  have c : own_u q1 * 2 ^ p3.toBitVec.toNat / 18446744073709551616 < 2 ^ p3.toBitVec.toNat := by
    rw [Nat.div_lt_iff_lt_mul (by decide), Nat.mul_comm]; exact Nat.mul_lt_mul_of_pos_left hq (Nat.two_pow_pos _)
  constructor
  · rw [up, Nat.add_mul, Nat.add_mul]
    have := Nat.div_add_mod (own_u q1 * 2 ^ p3.toBitVec.toNat) 18446744073709551616
    rw [Nat.mul_comm (own_u q0) 18446744073709551616, Nat.mul_assoc 18446744073709551616, Nat.mul_comm (own_u q0 * 2 ^ p3.toBitVec.toNat)]
    generalize own_u q1 * 2 ^ p3.toBitVec.toNat = X at *
    generalize own_u q0 * 2 ^ p3.toBitVec.toNat = Y at *
    omega
  · have := Nat.mul_le_mul_right (2 ^ p3.toBitVec.toNat) (show own_u q0 + 1 ≤ own_u q2 from k4)
    rw [Nat.add_mul, Nat.one_mul] at this
    rw [up]; omega
theorem u_of (n : Nat) (h : n < 18446744073709551616) : own_u (Int64.ofBitVec (BitVec.ofNat 64 n)) = n := by
  show (BitVec.ofNat 64 n).toNat = n
  rw [BitVec.toNat_ofNat, Nat.mod_eq_of_lt h]
theorem n_quot {a b d : Nat} (h : a < d) (hb : b < 18446744073709551616) : (a * 18446744073709551616 + b) / d < 18446744073709551616 := by
  rw [Nat.div_lt_iff_lt_mul (by omega), Nat.mul_comm]
  have := Nat.mul_le_mul_right 18446744073709551616 (show a + 1 ≤ d from h)
  rw [Nat.add_mul, Nat.one_mul] at this; omega
theorem own_final {q0 q1 q2 v1 v2 v3 v4 v5 v6 v25 v27 v28 v29 v48 v50 : Int64} {p3 : Int32} (h : own_ok q0 q2 p3) (hv1 : v1 = (q2 <<< (p3 &&& 0x3f).toInt64)) (hv2 : v2 = ((v1.toUInt64 >>> ((32 : Int32) &&& 0x3f).toInt64.toUInt64).toInt64)) (hv3 : v3 = (v1 &&& (4294967295 : Int64)))
    (hv4 : v4 = (if p3 = (0 : Int32) then q0 else ((q0 <<< (p3 &&& 0x3f).toInt64) ||| ((q1.toUInt64 >>> (((64 : Int32) - p3) &&& 0x3f).toInt64.toUInt64).toInt64))))
    (hv5 : v5 = (q1 <<< (p3 &&& 0x3f).toInt64)) (hv6 : v6 = ((v5.toUInt64 >>> ((32 : Int32) &&& 0x3f).toInt64.toUInt64).toInt64)) (hv29 : v29 = (v5 &&& (4294967295 : Int64)))
    (hd : own_u v4 < own_u v1 → own_u v6 < 4294967296 → own_u v25 = (own_u v4 * 4294967296 + own_u v6) / own_u v1) (hv27 : v27 = (((0 : Int64) <<< ((32 : Int32) &&& 0x3f).toInt64) ||| v25))
    (hv28 : v28 = (((v4 <<< ((32 : Int32) &&& 0x3f).toInt64) + v6) - (v25 * v1))) (hd2 : own_u v28 < own_u v1 → own_u v29 < 4294967296 → own_u v48 = (own_u v28 * 4294967296 + own_u v29) / own_u v1) (hv50 : v50 = ((v27 <<< ((32 : Int32) &&& 0x3f).toInt64) ||| v48)) : own_q q0 q1 q2 v50 := by
  obtain ⟨e1, e2, b1, b2, b3⟩ := own_base h hv1 hv2 hv3
  obtain ⟨o1, o2⟩ := own_upper h hv4
  obtain ⟨k1, k2, k3, k4⟩ := h
  have u5 : own_u v5 = own_u q1 * 2 ^ p3.toBitVec.toNat % 18446744073709551616 := by rw [hv5, u_shl q1 p3 p3.toBitVec.toNat (by omega)]
  have u6 : own_u v6 = own_u v5 / 4294967296 := by rw [hv6]; exact u_shr v5 32 32 (by decide)
  have u29 : own_u v29 = own_u v5 % 4294967296 := by rw [hv29]; exact u_half v5
  have l5 := u_lt v5
  have l6 : own_u v6 < 4294967296 := by omega
  have l29 : own_u v29 < 4294967296 := by omega
  rw [← e1] at o2
  have d1 := hd o2 l6
  have g1 : own_u v25 ≤ 4294967295 := by rw [d1]; exact n_dig o2 l6
  have r1 := u_rest o2 l6 d1 hv28
  have lr : own_u v28 < own_u v1 := by rw [r1]; exact Nat.mod_lt _ (by omega)
  have d2 := hd2 lr l29
  have g2 : own_u v48 ≤ 4294967295 := by rw [d2]; exact n_dig lr l29
  have u27 : own_u v27 = own_u v25 := by rw [hv27, u_cat (by decide) (by omega), show own_u (0 : Int64) = 0 from by decide, Nat.zero_mul, Nat.zero_add]
  show own_u v50 = _
  rw [hv50, u_cat (by omega) (by omega), u27, d2, r1, d1, n_two _ _ _ _ (by omega)]
  have s5 : own_u v6 * 4294967296 + own_u v29 = own_u q1 * 2 ^ p3.toBitVec.toNat % 18446744073709551616 := by rw [← u5, u6, u29, Nat.mul_comm]; exact Nat.div_add_mod _ _
  rw [s5, o1, e1, Nat.mul_div_mul_right _ _ (Nat.two_pow_pos _)]
theorem own_ult (x y : Int64) : Fult x y = if own_u x < own_u y then 1 else 0 := by
  unfold Fult; simp only [u_ltu]
theorem own_div {q2 v2 : Int64} {p3 v1 : Int32} (hv1 : v1 = (p3 &&& (63 : Int32))) (hv2 : v2 = (((q2 ||| (-9223372036854775808 : Int64)).toUInt64 >>> (v1 &&& 0x3f).toInt64.toUInt64).toInt64)) :
    v1.toBitVec.toNat < 64 ∧ 9223372036854775808 ≤ own_u v2 * 2 ^ v1.toBitVec.toNat ∧ own_u v2 * 2 ^ v1.toBitVec.toNat < 18446744073709551616 ∧ 0 < own_u v2 ∧ (¬ v1 = 0 → own_u v2 < 9223372036854775808) ∧ (v1 = 0 → 9223372036854775808 ≤ own_u v2) := by
  have k : v1.toBitVec.toNat < 64 := by
    rw [hv1]; show (p3.toBitVec &&& (63 : Int32).toBitVec).toNat < 64
    rw [BitVec.toNat_and, show (63 : Int32).toBitVec.toNat = 2 ^ 6 - 1 from by decide, Nat.and_two_pow_sub_one_eq_mod]; omega
  have w := u_shr (q2 ||| (-9223372036854775808 : Int64)) v1 v1.toBitVec.toNat (by omega)
  rw [← hv2] at w
  have W1 : 9223372036854775808 ≤ own_u (q2 ||| (-9223372036854775808 : Int64)) := by
    show _ ≤ (q2.toBitVec ||| (-9223372036854775808 : Int64).toBitVec).toNat
    rw [BitVec.toNat_or]; exact Nat.right_le_or
  have W2 := u_lt (q2 ||| (-9223372036854775808 : Int64))
  generalize own_u (q2 ||| (-9223372036854775808 : Int64)) = W at *
  have pk : 2 ^ (63 - v1.toBitVec.toNat) * 2 ^ v1.toBitVec.toNat = 9223372036854775808 := by rw [← Nat.pow_add, show 63 - v1.toBitVec.toNat + v1.toBitVec.toNat = 63 by omega]
  have pp := Nat.two_pow_pos v1.toBitVec.toNat
  have lo : 2 ^ (63 - v1.toBitVec.toNat) ≤ own_u v2 := by rw [w, Nat.le_div_iff_mul_le pp, pk]; exact W1
  have up : own_u v2 * 2 ^ v1.toBitVec.toNat ≤ W := by rw [w]; exact Nat.div_mul_le_self _ _
  have lo2 := Nat.mul_le_mul_right (2 ^ v1.toBitVec.toNat) lo
  rw [pk] at lo2
  refine ⟨k, lo2, by omega, Nat.lt_of_lt_of_le (Nat.two_pow_pos _) lo, fun h => ?_, fun h => ?_⟩
  · have hk : v1.toBitVec.toNat ≠ 0 := fun z => h (Int32.toBitVec_inj.mp (BitVec.eq_of_toNat_eq z))
    have : 2 ^ 1 ≤ 2 ^ v1.toBitVec.toNat := Nat.pow_le_pow_right (by decide) (by omega)
    have h3 := Nat.mul_le_mul_left (own_u v2) this
    omega
  · rw [h, show (0 : Int32).toBitVec.toNat = 0 from by decide] at lo; exact lo
theorem own_high {q0 v2 v4 : Int64} {v1 : Int32} (h0 : 0 < own_u v2) (hs : ¬ v1 = 0 → own_u v2 < 9223372036854775808) (hz : v1 = 0 → 9223372036854775808 ≤ own_u v2)
    (hv4 : v4 = (if v1 = (0 : Int32) then (if (Fult q0 v2) = (0 : Int32) then (q0 - v2) else q0) else ((q0 &&& (9223372036854775807 : Int64)) % v2))) : own_u v4 < own_u v2 := by
  have hq := u_lt q0
  rw [hv4]
  by_cases c : v1 = 0
  · rw [if_pos c, own_ult]
    have := hz c
    by_cases d : own_u q0 < own_u v2
    · rw [if_pos d, if_neg (by decide)]; exact d
    · rw [if_neg d, if_pos rfl, u_sub' (by omega)]; omega
  · rw [if_neg c, u_mod (by rw [u_63]; omega) (hs c)]; exact Nat.mod_lt _ h0
theorem n_prod (Q D : Nat) : Q * D = (Q / 4294967296 * (D / 4294967296)) * 18446744073709551616 + (Q % 4294967296 * (D / 4294967296) + Q / 4294967296 * (D % 4294967296)) * 4294967296 + Q % 4294967296 * (D % 4294967296) := by
  have h1 := Nat.div_add_mod Q 4294967296; have h2 := Nat.div_add_mod D 4294967296
  generalize Q / 4294967296 = a at *; generalize Q % 4294967296 = b at *; generalize D / 4294967296 = c at *; generalize D % 4294967296 = d at *
  subst h1 h2
  rw [show (18446744073709551616 : Nat) = 4294967296 * 4294967296 from rfl]
  generalize (4294967296 : Nat) = B
  simp only [Nat.add_mul, Nat.mul_add]
  have e1 : B * a * (B * c) = a * c * (B * B) := by simp only [Nat.mul_assoc, Nat.mul_left_comm, Nat.mul_comm]
  have e2 : B * a * d = a * d * B := by simp only [Nat.mul_assoc, Nat.mul_left_comm, Nat.mul_comm]
  have e3 : b * (B * c) = b * c * B := by simp only [Nat.mul_assoc, Nat.mul_left_comm, Nat.mul_comm]
  rw [e1, e2, e3]; omega
/-- the two words of the product, as the law adds them up -/
theorem n_words (B P a b c mid : Nat) (hmid : mid = c / B + a % B + b % B) : (P + a / B + b / B + mid / B) * (B * B) + (mid % B * B + c % B) = P * (B * B) + (a + b) * B + c := by
  have ha := Nat.div_add_mod a B; have hb := Nat.div_add_mod b B; have hc := Nat.div_add_mod c B; have hm := Nat.div_add_mod mid B
  generalize mid / B = m1 at *; generalize mid % B = m0 at *; generalize a / B = a1 at *; generalize a % B = a0 at *; generalize b / B = b1 at *; generalize b % B = b0 at *; generalize c / B = c1 at *; generalize c % B = c0 at *
  subst ha hb hc
  rw [hmid] at hm
  have h5 : (B * m1 + m0) * B = (c1 + a0 + b0) * B := by rw [hm]
  simp only [Nat.add_mul, Nat.mul_add] at h5 ⊢
  have f1 : B * m1 * B = m1 * (B * B) := by simp only [Nat.mul_left_comm, Nat.mul_comm]
  have f2 : B * a1 * B = a1 * (B * B) := by simp only [Nat.mul_left_comm, Nat.mul_comm]
  have f3 : B * b1 * B = b1 * (B * B) := by simp only [Nat.mul_left_comm, Nat.mul_comm]
  have f4 : B * c1 = c1 * B := Nat.mul_comm _ _
  rw [f1] at h5; rw [f2, f3, f4]
  omega
theorem n_sub {H L D S p R : Nat} (h : S * 18446744073709551616 + p + R = H * 18446744073709551616 + L) (hR : R < D) (hD : D < 18446744073709551616) (hp : p < 18446744073709551616) (hL : L < 18446744073709551616) :
    (L < p ∧ H = S + 1 ∧ R = L + 18446744073709551616 - p) ∨ (¬ L < p ∧ H = S ∧ R = L - p) := by
  rcases Nat.lt_or_ge L p with q | q
  · left
    have : H = S + 1 := by
      rcases Nat.lt_trichotomy H (S + 1) with z | z | z
      · have := Nat.mul_le_mul_right 18446744073709551616 (show H ≤ S by omega); omega
      · exact z
      · have := Nat.mul_le_mul_right 18446744073709551616 (show S + 2 ≤ H by omega); rw [Nat.add_mul] at this; omega
    subst this; rw [Nat.add_mul] at h; exact ⟨q, rfl, by omega⟩
  · right
    have : H = S := by
      rcases Nat.lt_trichotomy H S with z | z | z
      · have := Nat.mul_le_mul_right 18446744073709551616 (show H + 1 ≤ S by omega); rw [Nat.add_mul] at this; omega
      · exact z
      · have := Nat.mul_le_mul_right 18446744073709551616 (show S + 1 ≤ H by omega); rw [Nat.add_mul] at this; omega
    subst this; exact ⟨by omega, rfl, by omega⟩
theorem own_law {q1 v2 v4 v5 v6 v7 v8 v9 v10 v11 v12 v13 v14 v15 v16 v21 v23 v24 : Int64} {v17 v20 v22 v27 : Int32} (hH : own_u v4 < own_u v2) (h5 : own_u v5 = (own_u v4 * 18446744073709551616 + own_u q1) / own_u v2)
  (hv6 : v6 = (v5 &&& (4294967295 : Int64)))
  (hv7 : v7 = ((v5.toUInt64 >>> ((32 : Int32) &&& 0x3f).toInt64.toUInt64).toInt64))
  (hv8 : v8 = (v2 &&& (4294967295 : Int64)))
  (hv9 : v9 = ((v2.toUInt64 >>> ((32 : Int32) &&& 0x3f).toInt64.toUInt64).toInt64))
  (hv10 : v10 = (v6 * v8))
  (hv11 : v11 = (v6 * v9))
  (hv12 : v12 = (v7 * v8))
  (hv13 : v13 = (v7 * v9))
  (hv14 : v14 = ((((v10.toUInt64 >>> ((32 : Int32) &&& 0x3f).toInt64.toUInt64).toInt64) + (v11 &&& (4294967295 : Int64))) + (v12 &&& (4294967295 : Int64))))
  (hv15 : v15 = ((v14 <<< ((32 : Int32) &&& 0x3f).toInt64) ||| (v10 &&& (4294967295 : Int64))))
  (hv16 : v16 = (((v13 + ((v11.toUInt64 >>> ((32 : Int32) &&& 0x3f).toInt64.toUInt64).toInt64)) + ((v12.toUInt64 >>> ((32 : Int32) &&& 0x3f).toInt64.toUInt64).toInt64)) + ((v14.toUInt64 >>> ((32 : Int32) &&& 0x3f).toInt64.toUInt64).toInt64)))
  (hv17 : v17 = (Fult v16 v4))
  (hv20 : v20 = (if v17 = (0 : Int32) then (if v16 = v4 then (if (Fult q1 v15) = (0 : Int32) then (1 : Int32) else (0 : Int32)) else (0 : Int32)) else (1 : Int32)))
  (hv21 : v21 = (q1 - v15))
  (hv22 : v22 = (Fult q1 v15))
  (hv23 : v23 = (if v22 = (0 : Int32) then (0 : Int64) else (1 : Int64)))
  (hv24 : v24 = ((v4 - v16) - v23))
  (hv27 : v27 = (if v20 = (0 : Int32) then (0 : Int32) else (if v24 = (0 : Int64) then (if (Fult v21 v2) = (0 : Int32) then (0 : Int32) else (1 : Int32)) else (0 : Int32)))) : v27 = (1 : Int32) := by
  have s32 : ∀ x : Int64, own_u ((x.toUInt64 >>> ((32 : Int32) &&& 0x3f).toInt64.toUInt64).toInt64) = own_u x / 4294967296 := fun x => u_shr x 32 32 (by decide)
  have lQ := u_lt v5; have lD := u_lt v2; have lL := u_lt q1; have lH := u_lt v4
  have u6 : own_u v6 = own_u v5 % 4294967296 := by rw [hv6, u_half]
  have u7 : own_u v7 = own_u v5 / 4294967296 := by rw [hv7, s32]
  have u8 : own_u v8 = own_u v2 % 4294967296 := by rw [hv8, u_half]
  have u9 : own_u v9 = own_u v2 / 4294967296 := by rw [hv9, s32]
  have sm : ∀ x y : Nat, x < 4294967296 → y < 4294967296 → x * y < 18446744073709551616 := fun x y hx hy => by
    have := Nat.mul_le_mul (show x ≤ 4294967295 by omega) (show y ≤ 4294967295 by omega); omega
  have a6 : own_u v6 < 4294967296 := by omega
  have a7 : own_u v7 < 4294967296 := by omega
  have a8 : own_u v8 < 4294967296 := by omega
  have a9 : own_u v9 < 4294967296 := by omega
  have u10 : own_u v10 = own_u v6 * own_u v8 := by rw [hv10]; exact u_mul' (sm _ _ a6 a8)
  have u11 : own_u v11 = own_u v6 * own_u v9 := by rw [hv11]; exact u_mul' (sm _ _ a6 a9)
  have u12 : own_u v12 = own_u v7 * own_u v8 := by rw [hv12]; exact u_mul' (sm _ _ a7 a8)
  have u13 : own_u v13 = own_u v7 * own_u v9 := by rw [hv13]; exact u_mul' (sm _ _ a7 a9)
  have l10 := u_lt v10; have l11 := u_lt v11; have l12 := u_lt v12
  have u14 : own_u v14 = own_u v10 / 4294967296 + own_u v11 % 4294967296 + own_u v12 % 4294967296 := by
    rw [hv14, u_add, u_add, s32, u_half, u_half]; omega
  have w := n_words 4294967296 (own_u v13) (own_u v11) (own_u v12) (own_u v10) (own_u v14) u14
  have pr := n_prod (own_u v5) (own_u v2)
  rw [← u6, ← u7, ← u8, ← u9, ← u10, ← u11, ← u12, ← u13] at pr
  rw [show 4294967296 * 4294967296 = 18446744073709551616 from rfl, ← pr] at w
  have u15 : own_u v15 = own_u v14 % 4294967296 * 4294967296 + own_u v10 % 4294967296 := by
    have s := u_shl v14 32 32 (by decide)
    rw [show (2 : Nat) ^ 32 = 4294967296 from by decide] at s
    have sh : own_u v14 * 4294967296 % 18446744073709551616 = own_u v14 % 4294967296 * 4294967296 := Nat.mul_mod_mul_right 4294967296 (own_u v14) 4294967296
    rw [sh] at s
    rw [hv15, u_or _ _ 32 (by rw [s]; exact Nat.mul_mod_left _ _) (by rw [u_half]; exact Nat.mod_lt _ (by decide)), s, u_half]
  rw [← u15] at w
  have hX := Nat.div_add_mod (own_u v4 * 18446744073709551616 + own_u q1) (own_u v2)
  have hR := Nat.mod_lt (own_u v4 * 18446744073709551616 + own_u q1) (show 0 < own_u v2 by omega)
  rw [← h5, Nat.mul_comm, ← w] at hX
  generalize (own_u v4 * 18446744073709551616 + own_u q1) % own_u v2 = R at *
  have hS : own_u v13 + own_u v11 / 4294967296 + own_u v12 / 4294967296 + own_u v14 / 4294967296 < 18446744073709551616 := by
    rcases Nat.lt_or_ge (own_u v13 + own_u v11 / 4294967296 + own_u v12 / 4294967296 + own_u v14 / 4294967296) 18446744073709551616 with z | z
    · exact z
    · have := Nat.mul_le_mul_right 18446744073709551616 z
      have h2 := Nat.mul_le_mul_right 18446744073709551616 (show own_u v4 + 1 ≤ 18446744073709551616 by omega)
      rw [Nat.add_mul, Nat.one_mul] at h2
      omega
  have u16 : own_u v16 = own_u v13 + own_u v11 / 4294967296 + own_u v12 / 4294967296 + own_u v14 / 4294967296 := by
    have t1 := u_add' (x := v13) (y := (v11.toUInt64 >>> ((32 : Int32) &&& 0x3f).toInt64.toUInt64).toInt64) (by rw [s32]; omega)
    rw [s32] at t1
    have t2 := u_add' (x := v13 + (v11.toUInt64 >>> ((32 : Int32) &&& 0x3f).toInt64.toUInt64).toInt64) (y := (v12.toUInt64 >>> ((32 : Int32) &&& 0x3f).toInt64.toUInt64).toInt64) (by rw [t1, s32]; omega)
    rw [t1, s32] at t2
    rw [hv16, u_add' (by rw [t2, s32]; exact hS), t2, s32]
  rw [← u16] at hX
  have l15 := u_lt v15
  have z0 : own_u (0 : Int64) = 0 := by decide
  have fin : own_u v21 = R ∧ own_u v24 = 0 ∧ v20 = 1 := by
    rcases n_sub hX hR lD l15 lL with ⟨c1, c2, c3⟩ | ⟨c1, c2, c3⟩
    · have e22 : v22 = 1 := by rw [hv22, own_ult, if_pos c1]
      have e23 : v23 = 1 := by rw [hv23, e22]; decide
      refine ⟨by rw [hv21, u_sub]; omega, ?_, ?_⟩
      · rw [hv24, e23, u_sub, u_sub, u_1]; omega
      · have e17 : v17 = 1 := by rw [hv17, own_ult, if_pos (by omega)]
        rw [hv20, e17]; exact if_neg (by decide)
    · have e22 : v22 = 0 := by rw [hv22, own_ult, if_neg c1]
      have e23 : v23 = 0 := by rw [hv23, e22]; decide
      refine ⟨by rw [hv21, u_sub]; omega, ?_, ?_⟩
      · rw [hv24, e23, u_sub, u_sub, z0]; omega
      · have e17 : v17 = 0 := by rw [hv17, own_ult, if_neg (by omega)]
        rw [hv20, if_pos e17, if_pos (u_inj (by omega)), if_pos (by rw [own_ult, if_neg c1])]
  obtain ⟨f1, f2, f3⟩ := fin
  have e24 : v24 = 0 := u_inj (by rw [f2, z0])
  rw [hv27, f3, if_neg (by decide), if_pos e24, own_ult, f1, if_pos hR]; decide
theorem d1_0 : decode prog_96_method_3_code 0 = .ok (.lload 4, 2) := by decide +kernel
theorem d1_2 : decode prog_96_method_3_code 2 = .ok (.iload 6, 2) := by decide +kernel
theorem d1_4 : decode prog_96_method_3_code 4 = .ok (.lshl, 1) := by decide +kernel
theorem d1_5 : decode prog_96_method_3_code 5 = .ok (.lstore 7, 2) := by decide +kernel
theorem d1_7 : decode prog_96_method_3_code 7 = .ok (.lload 7, 2) := by decide +kernel
theorem d1_9 : decode prog_96_method_3_code 9 = .ok (.bipush 32, 2) := by decide +kernel
theorem d1_11 : decode prog_96_method_3_code 11 = .ok (.lushr, 1) := by decide +kernel
theorem d1_12 : decode prog_96_method_3_code 12 = .ok (.lstore 9, 2) := by decide +kernel
theorem d1_14 : decode prog_96_method_3_code 14 = .ok (.lload 7, 2) := by decide +kernel
theorem d1_16 : decode prog_96_method_3_code 16 = .ok (.ldc2_w 19, 3) := by decide +kernel
theorem d1_19 : decode prog_96_method_3_code 19 = .ok (.land, 1) := by decide +kernel
theorem d1_20 : decode prog_96_method_3_code 20 = .ok (.lstore 11, 2) := by decide +kernel
theorem d1_22 : decode prog_96_method_3_code 22 = .ok (.iload 6, 2) := by decide +kernel
theorem d1_24 : decode prog_96_method_3_code 24 = .ok (.ifCond .ne 7, 3) := by decide +kernel
theorem d1_27 : decode prog_96_method_3_code 27 = .ok (.lload_n 0, 1) := by decide +kernel
theorem d1_28 : decode prog_96_method_3_code 28 = .ok (.goto 15, 3) := by decide +kernel
theorem d1_31 : decode prog_96_method_3_code 31 = .ok (.lload_n 0, 1) := by decide +kernel
theorem d1_32 : decode prog_96_method_3_code 32 = .ok (.iload 6, 2) := by decide +kernel
theorem d1_34 : decode prog_96_method_3_code 34 = .ok (.lshl, 1) := by decide +kernel
theorem d1_35 : decode prog_96_method_3_code 35 = .ok (.lload_n 2, 1) := by decide +kernel
theorem d1_36 : decode prog_96_method_3_code 36 = .ok (.bipush 64, 2) := by decide +kernel
theorem d1_38 : decode prog_96_method_3_code 38 = .ok (.iload 6, 2) := by decide +kernel
theorem d1_40 : decode prog_96_method_3_code 40 = .ok (.isub, 1) := by decide +kernel
theorem d1_41 : decode prog_96_method_3_code 41 = .ok (.lushr, 1) := by decide +kernel
theorem d1_42 : decode prog_96_method_3_code 42 = .ok (.lor, 1) := by decide +kernel
theorem d1_43 : decode prog_96_method_3_code 43 = .ok (.lstore 13, 2) := by decide +kernel
theorem d1_45 : decode prog_96_method_3_code 45 = .ok (.lload_n 2, 1) := by decide +kernel
theorem d1_46 : decode prog_96_method_3_code 46 = .ok (.iload 6, 2) := by decide +kernel
theorem d1_48 : decode prog_96_method_3_code 48 = .ok (.lshl, 1) := by decide +kernel
theorem d1_49 : decode prog_96_method_3_code 49 = .ok (.lstore 15, 2) := by decide +kernel
theorem d1_51 : decode prog_96_method_3_code 51 = .ok (.lconst 0, 1) := by decide +kernel
theorem d1_52 : decode prog_96_method_3_code 52 = .ok (.lstore 17, 2) := by decide +kernel
theorem d1_54 : decode prog_96_method_3_code 54 = .ok (.iconst 0, 1) := by decide +kernel
theorem d1_55 : decode prog_96_method_3_code 55 = .ok (.istore 19, 2) := by decide +kernel
theorem d1_57 : decode prog_96_method_3_code 57 = .ok (.iload 19, 2) := by decide +kernel
theorem d1_59 : decode prog_96_method_3_code 59 = .ok (.iconst 2, 1) := by decide +kernel
theorem d1_60 : decode prog_96_method_3_code 60 = .ok (.if_icmp .ge 165, 3) := by decide +kernel
theorem d1_63 : decode prog_96_method_3_code 63 = .ok (.iload 19, 2) := by decide +kernel
theorem d1_65 : decode prog_96_method_3_code 65 = .ok (.ifCond .ne 11, 3) := by decide +kernel
theorem d1_68 : decode prog_96_method_3_code 68 = .ok (.lload 15, 2) := by decide +kernel
theorem d1_70 : decode prog_96_method_3_code 70 = .ok (.bipush 32, 2) := by decide +kernel
theorem d1_72 : decode prog_96_method_3_code 72 = .ok (.lushr, 1) := by decide +kernel
theorem d1_73 : decode prog_96_method_3_code 73 = .ok (.goto 9, 3) := by decide +kernel
theorem d1_76 : decode prog_96_method_3_code 76 = .ok (.lload 15, 2) := by decide +kernel
theorem d1_78 : decode prog_96_method_3_code 78 = .ok (.ldc2_w 19, 3) := by decide +kernel
theorem d1_81 : decode prog_96_method_3_code 81 = .ok (.land, 1) := by decide +kernel
theorem d1_82 : decode prog_96_method_3_code 82 = .ok (.lstore 20, 2) := by decide +kernel
theorem d1_84 : decode prog_96_method_3_code 84 = .ok (.lload 13, 2) := by decide +kernel
theorem d1_86 : decode prog_96_method_3_code 86 = .ok (.iconst 1, 1) := by decide +kernel
theorem d1_87 : decode prog_96_method_3_code 87 = .ok (.lushr, 1) := by decide +kernel
theorem d1_88 : decode prog_96_method_3_code 88 = .ok (.lload 9, 2) := by decide +kernel
theorem d1_90 : decode prog_96_method_3_code 90 = .ok (.ldiv, 1) := by decide +kernel
theorem d1_91 : decode prog_96_method_3_code 91 = .ok (.iconst 1, 1) := by decide +kernel
theorem d1_92 : decode prog_96_method_3_code 92 = .ok (.lshl, 1) := by decide +kernel
theorem d1_93 : decode prog_96_method_3_code 93 = .ok (.lstore 22, 2) := by decide +kernel
theorem d1_95 : decode prog_96_method_3_code 95 = .ok (.lload 13, 2) := by decide +kernel
theorem d1_97 : decode prog_96_method_3_code 97 = .ok (.lload 22, 2) := by decide +kernel
theorem d1_99 : decode prog_96_method_3_code 99 = .ok (.lload 9, 2) := by decide +kernel
theorem d1_101 : decode prog_96_method_3_code 101 = .ok (.lmul, 1) := by decide +kernel
theorem d1_102 : decode prog_96_method_3_code 102 = .ok (.lsub, 1) := by decide +kernel
theorem d1_103 : decode prog_96_method_3_code 103 = .ok (.lstore 24, 2) := by decide +kernel
theorem d1_105 : decode prog_96_method_3_code 105 = .ok (.lload 24, 2) := by decide +kernel
theorem d1_107 : decode prog_96_method_3_code 107 = .ok (.ldc2_w 21, 3) := by decide +kernel
theorem d1_110 : decode prog_96_method_3_code 110 = .ok (.ladd, 1) := by decide +kernel
theorem d1_111 : decode prog_96_method_3_code 111 = .ok (.lload 9, 2) := by decide +kernel
theorem d1_113 : decode prog_96_method_3_code 113 = .ok (.ldc2_w 21, 3) := by decide +kernel
theorem d1_116 : decode prog_96_method_3_code 116 = .ok (.ladd, 1) := by decide +kernel
theorem d1_117 : decode prog_96_method_3_code 117 = .ok (.lcmp, 1) := by decide +kernel
theorem d1_118 : decode prog_96_method_3_code 118 = .ok (.ifCond .lt 16, 3) := by decide +kernel
theorem d1_121 : decode prog_96_method_3_code 121 = .ok (.lload 22, 2) := by decide +kernel
theorem d1_123 : decode prog_96_method_3_code 123 = .ok (.lconst 1, 1) := by decide +kernel
theorem d1_124 : decode prog_96_method_3_code 124 = .ok (.ladd, 1) := by decide +kernel
theorem d1_125 : decode prog_96_method_3_code 125 = .ok (.lstore 22, 2) := by decide +kernel
theorem d1_127 : decode prog_96_method_3_code 127 = .ok (.lload 24, 2) := by decide +kernel
theorem d1_129 : decode prog_96_method_3_code 129 = .ok (.lload 9, 2) := by decide +kernel
theorem d1_131 : decode prog_96_method_3_code 131 = .ok (.lsub, 1) := by decide +kernel
theorem d1_132 : decode prog_96_method_3_code 132 = .ok (.lstore 24, 2) := by decide +kernel
theorem d1_134 : decode prog_96_method_3_code 134 = .ok (.lload 22, 2) := by decide +kernel
theorem d1_136 : decode prog_96_method_3_code 136 = .ok (.ldc2_w 19, 3) := by decide +kernel
theorem d1_139 : decode prog_96_method_3_code 139 = .ok (.lcmp, 1) := by decide +kernel
theorem d1_140 : decode prog_96_method_3_code 140 = .ok (.ifCond .gt 28, 3) := by decide +kernel
theorem d1_143 : decode prog_96_method_3_code 143 = .ok (.lload 22, 2) := by decide +kernel
theorem d1_145 : decode prog_96_method_3_code 145 = .ok (.lload 11, 2) := by decide +kernel
theorem d1_147 : decode prog_96_method_3_code 147 = .ok (.lmul, 1) := by decide +kernel
theorem d1_148 : decode prog_96_method_3_code 148 = .ok (.ldc2_w 21, 3) := by decide +kernel
theorem d1_151 : decode prog_96_method_3_code 151 = .ok (.ladd, 1) := by decide +kernel
theorem d1_152 : decode prog_96_method_3_code 152 = .ok (.lload 24, 2) := by decide +kernel
theorem d1_154 : decode prog_96_method_3_code 154 = .ok (.bipush 32, 2) := by decide +kernel
theorem d1_156 : decode prog_96_method_3_code 156 = .ok (.lshl, 1) := by decide +kernel
theorem d1_157 : decode prog_96_method_3_code 157 = .ok (.lload 20, 2) := by decide +kernel
theorem d1_159 : decode prog_96_method_3_code 159 = .ok (.lor, 1) := by decide +kernel
theorem d1_160 : decode prog_96_method_3_code 160 = .ok (.ldc2_w 21, 3) := by decide +kernel
theorem d1_163 : decode prog_96_method_3_code 163 = .ok (.ladd, 1) := by decide +kernel
theorem d1_164 : decode prog_96_method_3_code 164 = .ok (.lcmp, 1) := by decide +kernel
theorem d1_165 : decode prog_96_method_3_code 165 = .ok (.ifCond .le 28, 3) := by decide +kernel
theorem d1_168 : decode prog_96_method_3_code 168 = .ok (.lload 22, 2) := by decide +kernel
theorem d1_170 : decode prog_96_method_3_code 170 = .ok (.lconst 1, 1) := by decide +kernel
theorem d1_171 : decode prog_96_method_3_code 171 = .ok (.lsub, 1) := by decide +kernel
theorem d1_172 : decode prog_96_method_3_code 172 = .ok (.lstore 22, 2) := by decide +kernel
theorem d1_174 : decode prog_96_method_3_code 174 = .ok (.lload 24, 2) := by decide +kernel
theorem d1_176 : decode prog_96_method_3_code 176 = .ok (.lload 9, 2) := by decide +kernel
theorem d1_178 : decode prog_96_method_3_code 178 = .ok (.ladd, 1) := by decide +kernel
theorem d1_179 : decode prog_96_method_3_code 179 = .ok (.lstore 24, 2) := by decide +kernel
theorem d1_181 : decode prog_96_method_3_code 181 = .ok (.lload 24, 2) := by decide +kernel
theorem d1_183 : decode prog_96_method_3_code 183 = .ok (.ldc2_w 19, 3) := by decide +kernel
theorem d1_186 : decode prog_96_method_3_code 186 = .ok (.lcmp, 1) := by decide +kernel
theorem d1_187 : decode prog_96_method_3_code 187 = .ok (.ifCond .le (-53), 3) := by decide +kernel
theorem d1_190 : decode prog_96_method_3_code 190 = .ok (.goto 3, 3) := by decide +kernel
theorem d1_193 : decode prog_96_method_3_code 193 = .ok (.lload 17, 2) := by decide +kernel
theorem d1_195 : decode prog_96_method_3_code 195 = .ok (.bipush 32, 2) := by decide +kernel
theorem d1_197 : decode prog_96_method_3_code 197 = .ok (.lshl, 1) := by decide +kernel
theorem d1_198 : decode prog_96_method_3_code 198 = .ok (.lload 22, 2) := by decide +kernel
theorem d1_200 : decode prog_96_method_3_code 200 = .ok (.lor, 1) := by decide +kernel
theorem d1_201 : decode prog_96_method_3_code 201 = .ok (.lstore 17, 2) := by decide +kernel
theorem d1_203 : decode prog_96_method_3_code 203 = .ok (.lload 13, 2) := by decide +kernel
theorem d1_205 : decode prog_96_method_3_code 205 = .ok (.bipush 32, 2) := by decide +kernel
theorem d1_207 : decode prog_96_method_3_code 207 = .ok (.lshl, 1) := by decide +kernel
theorem d1_208 : decode prog_96_method_3_code 208 = .ok (.lload 20, 2) := by decide +kernel
theorem d1_210 : decode prog_96_method_3_code 210 = .ok (.ladd, 1) := by decide +kernel
theorem d1_211 : decode prog_96_method_3_code 211 = .ok (.lload 22, 2) := by decide +kernel
theorem d1_213 : decode prog_96_method_3_code 213 = .ok (.lload 7, 2) := by decide +kernel
theorem d1_215 : decode prog_96_method_3_code 215 = .ok (.lmul, 1) := by decide +kernel
theorem d1_216 : decode prog_96_method_3_code 216 = .ok (.lsub, 1) := by decide +kernel
theorem d1_217 : decode prog_96_method_3_code 217 = .ok (.lstore 13, 2) := by decide +kernel
theorem d1_219 : decode prog_96_method_3_code 219 = .ok (.iinc 19 1, 3) := by decide +kernel
theorem d1_222 : decode prog_96_method_3_code 222 = .ok (.goto (-165), 3) := by decide +kernel
theorem d1_225 : decode prog_96_method_3_code 225 = .ok (.lload 17, 2) := by decide +kernel
theorem d1_227 : decode prog_96_method_3_code 227 = .ok (.lreturn, 1) := by decide +kernel
theorem pn_1 : plainName "com/example/amortine/amortine/Words" = true := by first | (simp [plainName, overriddenIn]; done) | decide +kernel
theorem ef_1 (m : MethodId) (x0 : Int64) (x1 : Int64) (x2 : Int64) (x3 : Int32) : entryFrame m #[(.long x0), (.long x1), (.long x2), (.int x3)] 26 = mkF m 0 #[.val (.long x0), .second, .val (.long x1), .second, .val (.long x2), .second, .val (.int x3), .unset, .unset, .unset, .unset, .unset, .unset, .unset, .unset, .unset, .unset, .unset, .unset, .unset, .unset, .unset, .unset, .unset, .unset, .unset] [] := by first | (simp [entryFrame, mkF, argsToLocals, Value.category]; done) | rfl
set_option maxRecDepth 65536 in
set_option maxHeartbeats 4000000 in
theorem pf1_nz90_0 (q0 : Int64) (q1 : Int64) (q2 : Int64) (p3 : Int32) (hq : own_ok q0 q2 p3) (v1 : Int64) (v2 : Int64) (v3 : Int64) (v4 : Int64) (v5 : Int64) (v6 : Int64) (hv1 : v1 = (q2 <<< (p3 &&& 0x3f).toInt64)) (hv2 : v2 = ((v1.toUInt64 >>> ((32 : Int32) &&& 0x3f).toInt64.toUInt64).toInt64)) (hv3 : v3 = (v1 &&& (4294967295 : Int64))) (hv4 : v4 = (if p3 = (0 : Int32) then q0 else ((q0 <<< (p3 &&& 0x3f).toInt64) ||| ((q1.toUInt64 >>> (((64 : Int32) - p3) &&& 0x3f).toInt64.toUInt64).toInt64)))) (hv5 : v5 = (q1 <<< (p3 &&& 0x3f).toInt64)) (hv6 : v6 = ((v5.toUInt64 >>> ((32 : Int32) &&& 0x3f).toInt64.toUInt64).toInt64)) : ¬ (v2 = (0 : Int64)) := by
  exact own_nz hq hv1 hv2
set_option maxRecDepth 65536 in
set_option maxHeartbeats 4000000 in
theorem pf1_c187_1 (q0 : Int64) (q1 : Int64) (q2 : Int64) (p3 : Int32) (hq : own_ok q0 q2 p3) (v1 : Int64) (v2 : Int64) (v3 : Int64) (v4 : Int64) (v5 : Int64) (v6 : Int64) (v7 : Int64) (v8 : Int64) (v9 : Int64) (v10 : Int64) (hv1 : v1 = (q2 <<< (p3 &&& 0x3f).toInt64)) (hv2 : v2 = ((v1.toUInt64 >>> ((32 : Int32) &&& 0x3f).toInt64.toUInt64).toInt64)) (hv3 : v3 = (v1 &&& (4294967295 : Int64))) (hv4 : v4 = (if p3 = (0 : Int32) then q0 else ((q0 <<< (p3 &&& 0x3f).toInt64) ||| ((q1.toUInt64 >>> (((64 : Int32) - p3) &&& 0x3f).toInt64.toUInt64).toInt64)))) (hv5 : v5 = (q1 <<< (p3 &&& 0x3f).toInt64)) (hv6 : v6 = ((v5.toUInt64 >>> ((32 : Int32) &&& 0x3f).toInt64.toUInt64).toInt64)) (hv7 : v7 = ((((v4.toUInt64 >>> ((1 : Int32) &&& 0x3f).toInt64.toUInt64).toInt64) / v2) <<< ((1 : Int32) &&& 0x3f).toInt64)) (hv8 : v8 = (v4 - (v7 * v2))) (hv9 : v9 = (if (v8 + (-9223372036854775808 : Int64)) < (v2 + (-9223372036854775808 : Int64)) then v7 else (v7 + (1 : Int64)))) (hv10 : v10 = (if (v8 + (-9223372036854775808 : Int64)) < (v2 + (-9223372036854775808 : Int64)) then v8 else (v8 - v2))) (hc140_3 : (4294967295 : Int64) < v9) (hc187_4 : ¬ ((4294967295 : Int64) < (v10 + v2))) (hc140_5 : (4294967295 : Int64) < (v9 - (1 : Int64))) : (4294967295 : Int64) < ((v10 + v2) + v2) := by
  obtain ⟨-, -, b1, b2, -⟩ := own_base hq hv1 hv2 hv3
  exact own_187 b1 b2 hv7 hv8 hv10
set_option maxRecDepth 65536 in
set_option maxHeartbeats 4000000 in
theorem pf1_c187_2 (q0 : Int64) (q1 : Int64) (q2 : Int64) (p3 : Int32) (hq : own_ok q0 q2 p3) (v1 : Int64) (v2 : Int64) (v3 : Int64) (v4 : Int64) (v5 : Int64) (v6 : Int64) (v7 : Int64) (v8 : Int64) (v9 : Int64) (v10 : Int64) (hv1 : v1 = (q2 <<< (p3 &&& 0x3f).toInt64)) (hv2 : v2 = ((v1.toUInt64 >>> ((32 : Int32) &&& 0x3f).toInt64.toUInt64).toInt64)) (hv3 : v3 = (v1 &&& (4294967295 : Int64))) (hv4 : v4 = (if p3 = (0 : Int32) then q0 else ((q0 <<< (p3 &&& 0x3f).toInt64) ||| ((q1.toUInt64 >>> (((64 : Int32) - p3) &&& 0x3f).toInt64.toUInt64).toInt64)))) (hv5 : v5 = (q1 <<< (p3 &&& 0x3f).toInt64)) (hv6 : v6 = ((v5.toUInt64 >>> ((32 : Int32) &&& 0x3f).toInt64.toUInt64).toInt64)) (hv7 : v7 = ((((v4.toUInt64 >>> ((1 : Int32) &&& 0x3f).toInt64.toUInt64).toInt64) / v2) <<< ((1 : Int32) &&& 0x3f).toInt64)) (hv8 : v8 = (v4 - (v7 * v2))) (hv9 : v9 = (if (v8 + (-9223372036854775808 : Int64)) < (v2 + (-9223372036854775808 : Int64)) then v7 else (v7 + (1 : Int64)))) (hv10 : v10 = (if (v8 + (-9223372036854775808 : Int64)) < (v2 + (-9223372036854775808 : Int64)) then v8 else (v8 - v2))) (hc140_3 : (4294967295 : Int64) < v9) (hc187_4 : ¬ ((4294967295 : Int64) < (v10 + v2))) (hc140_5 : ¬ ((4294967295 : Int64) < (v9 - (1 : Int64)))) (hc165_6 : ((((v10 + v2) <<< ((32 : Int32) &&& 0x3f).toInt64) ||| v6) + (-9223372036854775808 : Int64)) < (((v9 - (1 : Int64)) * v3) + (-9223372036854775808 : Int64))) : (4294967295 : Int64) < ((v10 + v2) + v2) := by
  obtain ⟨-, -, b1, b2, -⟩ := own_base hq hv1 hv2 hv3
  exact own_187 b1 b2 hv7 hv8 hv10
set_option maxRecDepth 65536 in
set_option maxHeartbeats 4000000 in
theorem pf1_c187_3 (q0 : Int64) (q1 : Int64) (q2 : Int64) (p3 : Int32) (hq : own_ok q0 q2 p3) (v1 : Int64) (v2 : Int64) (v3 : Int64) (v4 : Int64) (v5 : Int64) (v6 : Int64) (v7 : Int64) (v8 : Int64) (v9 : Int64) (v10 : Int64) (hv1 : v1 = (q2 <<< (p3 &&& 0x3f).toInt64)) (hv2 : v2 = ((v1.toUInt64 >>> ((32 : Int32) &&& 0x3f).toInt64.toUInt64).toInt64)) (hv3 : v3 = (v1 &&& (4294967295 : Int64))) (hv4 : v4 = (if p3 = (0 : Int32) then q0 else ((q0 <<< (p3 &&& 0x3f).toInt64) ||| ((q1.toUInt64 >>> (((64 : Int32) - p3) &&& 0x3f).toInt64.toUInt64).toInt64)))) (hv5 : v5 = (q1 <<< (p3 &&& 0x3f).toInt64)) (hv6 : v6 = ((v5.toUInt64 >>> ((32 : Int32) &&& 0x3f).toInt64.toUInt64).toInt64)) (hv7 : v7 = ((((v4.toUInt64 >>> ((1 : Int32) &&& 0x3f).toInt64.toUInt64).toInt64) / v2) <<< ((1 : Int32) &&& 0x3f).toInt64)) (hv8 : v8 = (v4 - (v7 * v2))) (hv9 : v9 = (if (v8 + (-9223372036854775808 : Int64)) < (v2 + (-9223372036854775808 : Int64)) then v7 else (v7 + (1 : Int64)))) (hv10 : v10 = (if (v8 + (-9223372036854775808 : Int64)) < (v2 + (-9223372036854775808 : Int64)) then v8 else (v8 - v2))) (hc140_3 : ¬ ((4294967295 : Int64) < v9)) (hc165_7 : (((v10 <<< ((32 : Int32) &&& 0x3f).toInt64) ||| v6) + (-9223372036854775808 : Int64)) < ((v9 * v3) + (-9223372036854775808 : Int64))) (hc187_8 : ¬ ((4294967295 : Int64) < (v10 + v2))) (hc140_9 : (4294967295 : Int64) < (v9 - (1 : Int64))) : (4294967295 : Int64) < ((v10 + v2) + v2) := by
  obtain ⟨-, -, b1, b2, -⟩ := own_base hq hv1 hv2 hv3
  exact own_187 b1 b2 hv7 hv8 hv10
set_option maxRecDepth 65536 in
set_option maxHeartbeats 4000000 in
theorem pf1_c187_4 (q0 : Int64) (q1 : Int64) (q2 : Int64) (p3 : Int32) (hq : own_ok q0 q2 p3) (v1 : Int64) (v2 : Int64) (v3 : Int64) (v4 : Int64) (v5 : Int64) (v6 : Int64) (v7 : Int64) (v8 : Int64) (v9 : Int64) (v10 : Int64) (hv1 : v1 = (q2 <<< (p3 &&& 0x3f).toInt64)) (hv2 : v2 = ((v1.toUInt64 >>> ((32 : Int32) &&& 0x3f).toInt64.toUInt64).toInt64)) (hv3 : v3 = (v1 &&& (4294967295 : Int64))) (hv4 : v4 = (if p3 = (0 : Int32) then q0 else ((q0 <<< (p3 &&& 0x3f).toInt64) ||| ((q1.toUInt64 >>> (((64 : Int32) - p3) &&& 0x3f).toInt64.toUInt64).toInt64)))) (hv5 : v5 = (q1 <<< (p3 &&& 0x3f).toInt64)) (hv6 : v6 = ((v5.toUInt64 >>> ((32 : Int32) &&& 0x3f).toInt64.toUInt64).toInt64)) (hv7 : v7 = ((((v4.toUInt64 >>> ((1 : Int32) &&& 0x3f).toInt64.toUInt64).toInt64) / v2) <<< ((1 : Int32) &&& 0x3f).toInt64)) (hv8 : v8 = (v4 - (v7 * v2))) (hv9 : v9 = (if (v8 + (-9223372036854775808 : Int64)) < (v2 + (-9223372036854775808 : Int64)) then v7 else (v7 + (1 : Int64)))) (hv10 : v10 = (if (v8 + (-9223372036854775808 : Int64)) < (v2 + (-9223372036854775808 : Int64)) then v8 else (v8 - v2))) (hc140_3 : ¬ ((4294967295 : Int64) < v9)) (hc165_7 : (((v10 <<< ((32 : Int32) &&& 0x3f).toInt64) ||| v6) + (-9223372036854775808 : Int64)) < ((v9 * v3) + (-9223372036854775808 : Int64))) (hc187_8 : ¬ ((4294967295 : Int64) < (v10 + v2))) (hc140_9 : ¬ ((4294967295 : Int64) < (v9 - (1 : Int64)))) (hc165_10 : ((((v10 + v2) <<< ((32 : Int32) &&& 0x3f).toInt64) ||| v6) + (-9223372036854775808 : Int64)) < (((v9 - (1 : Int64)) * v3) + (-9223372036854775808 : Int64))) : (4294967295 : Int64) < ((v10 + v2) + v2) := by
  obtain ⟨-, -, b1, b2, -⟩ := own_base hq hv1 hv2 hv3
  exact own_187 b1 b2 hv7 hv8 hv10
set_option maxRecDepth 65536 in
set_option maxHeartbeats 4000000 in
theorem pf1_nz90_5 (q0 : Int64) (q1 : Int64) (q2 : Int64) (p3 : Int32) (hq : own_ok q0 q2 p3) (v1 : Int64) (v2 : Int64) (v3 : Int64) (v4 : Int64) (v5 : Int64) (v6 : Int64) (v7 : Int64) (v8 : Int64) (v9 : Int64) (v10 : Int64) (v25 : Int64) (v26 : Int64) (v27 : Int64) (v28 : Int64) (v29 : Int64) (hv1 : v1 = (q2 <<< (p3 &&& 0x3f).toInt64)) (hv2 : v2 = ((v1.toUInt64 >>> ((32 : Int32) &&& 0x3f).toInt64.toUInt64).toInt64)) (hv3 : v3 = (v1 &&& (4294967295 : Int64))) (hv4 : v4 = (if p3 = (0 : Int32) then q0 else ((q0 <<< (p3 &&& 0x3f).toInt64) ||| ((q1.toUInt64 >>> (((64 : Int32) - p3) &&& 0x3f).toInt64.toUInt64).toInt64)))) (hv5 : v5 = (q1 <<< (p3 &&& 0x3f).toInt64)) (hv6 : v6 = ((v5.toUInt64 >>> ((32 : Int32) &&& 0x3f).toInt64.toUInt64).toInt64)) (hv7 : v7 = ((((v4.toUInt64 >>> ((1 : Int32) &&& 0x3f).toInt64.toUInt64).toInt64) / v2) <<< ((1 : Int32) &&& 0x3f).toInt64)) (hv8 : v8 = (v4 - (v7 * v2))) (hv9 : v9 = (if (v8 + (-9223372036854775808 : Int64)) < (v2 + (-9223372036854775808 : Int64)) then v7 else (v7 + (1 : Int64)))) (hv10 : v10 = (if (v8 + (-9223372036854775808 : Int64)) < (v2 + (-9223372036854775808 : Int64)) then v8 else (v8 - v2))) (hv25 : v25 = (if (4294967295 : Int64) < v9 then (if (4294967295 : Int64) < (v10 + v2) then (v9 - (1 : Int64)) else (if (4294967295 : Int64) < (v9 - (1 : Int64)) then ((v9 - (1 : Int64)) - (1 : Int64)) else (if ((((v10 + v2) <<< ((32 : Int32) &&& 0x3f).toInt64) ||| v6) + (-9223372036854775808 : Int64)) < (((v9 - (1 : Int64)) * v3) + (-9223372036854775808 : Int64)) then ((v9 - (1 : Int64)) - (1 : Int64)) else (v9 - (1 : Int64))))) else (if (((v10 <<< ((32 : Int32) &&& 0x3f).toInt64) ||| v6) + (-9223372036854775808 : Int64)) < ((v9 * v3) + (-9223372036854775808 : Int64)) then (if (4294967295 : Int64) < (v10 + v2) then (v9 - (1 : Int64)) else (if (4294967295 : Int64) < (v9 - (1 : Int64)) then ((v9 - (1 : Int64)) - (1 : Int64)) else (if ((((v10 + v2) <<< ((32 : Int32) &&& 0x3f).toInt64) ||| v6) + (-9223372036854775808 : Int64)) < (((v9 - (1 : Int64)) * v3) + (-9223372036854775808 : Int64)) then ((v9 - (1 : Int64)) - (1 : Int64)) else (v9 - (1 : Int64))))) else v9))) (hv26 : v26 = (if (4294967295 : Int64) < v9 then (if (4294967295 : Int64) < (v10 + v2) then (v10 + v2) else (if (4294967295 : Int64) < (v9 - (1 : Int64)) then ((v10 + v2) + v2) else (if ((((v10 + v2) <<< ((32 : Int32) &&& 0x3f).toInt64) ||| v6) + (-9223372036854775808 : Int64)) < (((v9 - (1 : Int64)) * v3) + (-9223372036854775808 : Int64)) then ((v10 + v2) + v2) else (v10 + v2)))) else (if (((v10 <<< ((32 : Int32) &&& 0x3f).toInt64) ||| v6) + (-9223372036854775808 : Int64)) < ((v9 * v3) + (-9223372036854775808 : Int64)) then (if (4294967295 : Int64) < (v10 + v2) then (v10 + v2) else (if (4294967295 : Int64) < (v9 - (1 : Int64)) then ((v10 + v2) + v2) else (if ((((v10 + v2) <<< ((32 : Int32) &&& 0x3f).toInt64) ||| v6) + (-9223372036854775808 : Int64)) < (((v9 - (1 : Int64)) * v3) + (-9223372036854775808 : Int64)) then ((v10 + v2) + v2) else (v10 + v2)))) else v10))) (hv27 : v27 = (((0 : Int64) <<< ((32 : Int32) &&& 0x3f).toInt64) ||| v25)) (hv28 : v28 = (((v4 <<< ((32 : Int32) &&& 0x3f).toInt64) + v6) - (v25 * v1))) (hv29 : v29 = (v5 &&& (4294967295 : Int64))) : ¬ (v2 = (0 : Int64)) := by
  exact own_nz hq hv1 hv2
set_option maxRecDepth 65536 in
set_option maxHeartbeats 4000000 in
theorem pf1_c187_6 (q0 : Int64) (q1 : Int64) (q2 : Int64) (p3 : Int32) (hq : own_ok q0 q2 p3) (v1 : Int64) (v2 : Int64) (v3 : Int64) (v4 : Int64) (v5 : Int64) (v6 : Int64) (v7 : Int64) (v8 : Int64) (v9 : Int64) (v10 : Int64) (v25 : Int64) (v26 : Int64) (v27 : Int64) (v28 : Int64) (v29 : Int64) (v30 : Int64) (v31 : Int64) (v32 : Int64) (v33 : Int64) (hv1 : v1 = (q2 <<< (p3 &&& 0x3f).toInt64)) (hv2 : v2 = ((v1.toUInt64 >>> ((32 : Int32) &&& 0x3f).toInt64.toUInt64).toInt64)) (hv3 : v3 = (v1 &&& (4294967295 : Int64))) (hv4 : v4 = (if p3 = (0 : Int32) then q0 else ((q0 <<< (p3 &&& 0x3f).toInt64) ||| ((q1.toUInt64 >>> (((64 : Int32) - p3) &&& 0x3f).toInt64.toUInt64).toInt64)))) (hv5 : v5 = (q1 <<< (p3 &&& 0x3f).toInt64)) (hv6 : v6 = ((v5.toUInt64 >>> ((32 : Int32) &&& 0x3f).toInt64.toUInt64).toInt64)) (hv7 : v7 = ((((v4.toUInt64 >>> ((1 : Int32) &&& 0x3f).toInt64.toUInt64).toInt64) / v2) <<< ((1 : Int32) &&& 0x3f).toInt64)) (hv8 : v8 = (v4 - (v7 * v2))) (hv9 : v9 = (if (v8 + (-9223372036854775808 : Int64)) < (v2 + (-9223372036854775808 : Int64)) then v7 else (v7 + (1 : Int64)))) (hv10 : v10 = (if (v8 + (-9223372036854775808 : Int64)) < (v2 + (-9223372036854775808 : Int64)) then v8 else (v8 - v2))) (hv25 : v25 = (if (4294967295 : Int64) < v9 then (if (4294967295 : Int64) < (v10 + v2) then (v9 - (1 : Int64)) else (if (4294967295 : Int64) < (v9 - (1 : Int64)) then ((v9 - (1 : Int64)) - (1 : Int64)) else (if ((((v10 + v2) <<< ((32 : Int32) &&& 0x3f).toInt64) ||| v6) + (-9223372036854775808 : Int64)) < (((v9 - (1 : Int64)) * v3) + (-9223372036854775808 : Int64)) then ((v9 - (1 : Int64)) - (1 : Int64)) else (v9 - (1 : Int64))))) else (if (((v10 <<< ((32 : Int32) &&& 0x3f).toInt64) ||| v6) + (-9223372036854775808 : Int64)) < ((v9 * v3) + (-9223372036854775808 : Int64)) then (if (4294967295 : Int64) < (v10 + v2) then (v9 - (1 : Int64)) else (if (4294967295 : Int64) < (v9 - (1 : Int64)) then ((v9 - (1 : Int64)) - (1 : Int64)) else (if ((((v10 + v2) <<< ((32 : Int32) &&& 0x3f).toInt64) ||| v6) + (-9223372036854775808 : Int64)) < (((v9 - (1 : Int64)) * v3) + (-9223372036854775808 : Int64)) then ((v9 - (1 : Int64)) - (1 : Int64)) else (v9 - (1 : Int64))))) else v9))) (hv26 : v26 = (if (4294967295 : Int64) < v9 then (if (4294967295 : Int64) < (v10 + v2) then (v10 + v2) else (if (4294967295 : Int64) < (v9 - (1 : Int64)) then ((v10 + v2) + v2) else (if ((((v10 + v2) <<< ((32 : Int32) &&& 0x3f).toInt64) ||| v6) + (-9223372036854775808 : Int64)) < (((v9 - (1 : Int64)) * v3) + (-9223372036854775808 : Int64)) then ((v10 + v2) + v2) else (v10 + v2)))) else (if (((v10 <<< ((32 : Int32) &&& 0x3f).toInt64) ||| v6) + (-9223372036854775808 : Int64)) < ((v9 * v3) + (-9223372036854775808 : Int64)) then (if (4294967295 : Int64) < (v10 + v2) then (v10 + v2) else (if (4294967295 : Int64) < (v9 - (1 : Int64)) then ((v10 + v2) + v2) else (if ((((v10 + v2) <<< ((32 : Int32) &&& 0x3f).toInt64) ||| v6) + (-9223372036854775808 : Int64)) < (((v9 - (1 : Int64)) * v3) + (-9223372036854775808 : Int64)) then ((v10 + v2) + v2) else (v10 + v2)))) else v10))) (hv27 : v27 = (((0 : Int64) <<< ((32 : Int32) &&& 0x3f).toInt64) ||| v25)) (hv28 : v28 = (((v4 <<< ((32 : Int32) &&& 0x3f).toInt64) + v6) - (v25 * v1))) (hv29 : v29 = (v5 &&& (4294967295 : Int64))) (hv30 : v30 = ((((v28.toUInt64 >>> ((1 : Int32) &&& 0x3f).toInt64.toUInt64).toInt64) / v2) <<< ((1 : Int32) &&& 0x3f).toInt64)) (hv31 : v31 = (v28 - (v30 * v2))) (hv32 : v32 = (if (v31 + (-9223372036854775808 : Int64)) < (v2 + (-9223372036854775808 : Int64)) then v30 else (v30 + (1 : Int64)))) (hv33 : v33 = (if (v31 + (-9223372036854775808 : Int64)) < (v2 + (-9223372036854775808 : Int64)) then v31 else (v31 - v2))) (hc140_12 : (4294967295 : Int64) < v32) (hc187_13 : ¬ ((4294967295 : Int64) < (v33 + v2))) (hc140_14 : (4294967295 : Int64) < (v32 - (1 : Int64))) : (4294967295 : Int64) < ((v33 + v2) + v2) := by
  obtain ⟨-, -, b1, b2, -⟩ := own_base hq hv1 hv2 hv3
  exact own_187 b1 b2 hv30 hv31 hv33
set_option maxRecDepth 65536 in
set_option maxHeartbeats 4000000 in
theorem pf1_c187_7 (q0 : Int64) (q1 : Int64) (q2 : Int64) (p3 : Int32) (hq : own_ok q0 q2 p3) (v1 : Int64) (v2 : Int64) (v3 : Int64) (v4 : Int64) (v5 : Int64) (v6 : Int64) (v7 : Int64) (v8 : Int64) (v9 : Int64) (v10 : Int64) (v25 : Int64) (v26 : Int64) (v27 : Int64) (v28 : Int64) (v29 : Int64) (v30 : Int64) (v31 : Int64) (v32 : Int64) (v33 : Int64) (hv1 : v1 = (q2 <<< (p3 &&& 0x3f).toInt64)) (hv2 : v2 = ((v1.toUInt64 >>> ((32 : Int32) &&& 0x3f).toInt64.toUInt64).toInt64)) (hv3 : v3 = (v1 &&& (4294967295 : Int64))) (hv4 : v4 = (if p3 = (0 : Int32) then q0 else ((q0 <<< (p3 &&& 0x3f).toInt64) ||| ((q1.toUInt64 >>> (((64 : Int32) - p3) &&& 0x3f).toInt64.toUInt64).toInt64)))) (hv5 : v5 = (q1 <<< (p3 &&& 0x3f).toInt64)) (hv6 : v6 = ((v5.toUInt64 >>> ((32 : Int32) &&& 0x3f).toInt64.toUInt64).toInt64)) (hv7 : v7 = ((((v4.toUInt64 >>> ((1 : Int32) &&& 0x3f).toInt64.toUInt64).toInt64) / v2) <<< ((1 : Int32) &&& 0x3f).toInt64)) (hv8 : v8 = (v4 - (v7 * v2))) (hv9 : v9 = (if (v8 + (-9223372036854775808 : Int64)) < (v2 + (-9223372036854775808 : Int64)) then v7 else (v7 + (1 : Int64)))) (hv10 : v10 = (if (v8 + (-9223372036854775808 : Int64)) < (v2 + (-9223372036854775808 : Int64)) then v8 else (v8 - v2))) (hv25 : v25 = (if (4294967295 : Int64) < v9 then (if (4294967295 : Int64) < (v10 + v2) then (v9 - (1 : Int64)) else (if (4294967295 : Int64) < (v9 - (1 : Int64)) then ((v9 - (1 : Int64)) - (1 : Int64)) else (if ((((v10 + v2) <<< ((32 : Int32) &&& 0x3f).toInt64) ||| v6) + (-9223372036854775808 : Int64)) < (((v9 - (1 : Int64)) * v3) + (-9223372036854775808 : Int64)) then ((v9 - (1 : Int64)) - (1 : Int64)) else (v9 - (1 : Int64))))) else (if (((v10 <<< ((32 : Int32) &&& 0x3f).toInt64) ||| v6) + (-9223372036854775808 : Int64)) < ((v9 * v3) + (-9223372036854775808 : Int64)) then (if (4294967295 : Int64) < (v10 + v2) then (v9 - (1 : Int64)) else (if (4294967295 : Int64) < (v9 - (1 : Int64)) then ((v9 - (1 : Int64)) - (1 : Int64)) else (if ((((v10 + v2) <<< ((32 : Int32) &&& 0x3f).toInt64) ||| v6) + (-9223372036854775808 : Int64)) < (((v9 - (1 : Int64)) * v3) + (-9223372036854775808 : Int64)) then ((v9 - (1 : Int64)) - (1 : Int64)) else (v9 - (1 : Int64))))) else v9))) (hv26 : v26 = (if (4294967295 : Int64) < v9 then (if (4294967295 : Int64) < (v10 + v2) then (v10 + v2) else (if (4294967295 : Int64) < (v9 - (1 : Int64)) then ((v10 + v2) + v2) else (if ((((v10 + v2) <<< ((32 : Int32) &&& 0x3f).toInt64) ||| v6) + (-9223372036854775808 : Int64)) < (((v9 - (1 : Int64)) * v3) + (-9223372036854775808 : Int64)) then ((v10 + v2) + v2) else (v10 + v2)))) else (if (((v10 <<< ((32 : Int32) &&& 0x3f).toInt64) ||| v6) + (-9223372036854775808 : Int64)) < ((v9 * v3) + (-9223372036854775808 : Int64)) then (if (4294967295 : Int64) < (v10 + v2) then (v10 + v2) else (if (4294967295 : Int64) < (v9 - (1 : Int64)) then ((v10 + v2) + v2) else (if ((((v10 + v2) <<< ((32 : Int32) &&& 0x3f).toInt64) ||| v6) + (-9223372036854775808 : Int64)) < (((v9 - (1 : Int64)) * v3) + (-9223372036854775808 : Int64)) then ((v10 + v2) + v2) else (v10 + v2)))) else v10))) (hv27 : v27 = (((0 : Int64) <<< ((32 : Int32) &&& 0x3f).toInt64) ||| v25)) (hv28 : v28 = (((v4 <<< ((32 : Int32) &&& 0x3f).toInt64) + v6) - (v25 * v1))) (hv29 : v29 = (v5 &&& (4294967295 : Int64))) (hv30 : v30 = ((((v28.toUInt64 >>> ((1 : Int32) &&& 0x3f).toInt64.toUInt64).toInt64) / v2) <<< ((1 : Int32) &&& 0x3f).toInt64)) (hv31 : v31 = (v28 - (v30 * v2))) (hv32 : v32 = (if (v31 + (-9223372036854775808 : Int64)) < (v2 + (-9223372036854775808 : Int64)) then v30 else (v30 + (1 : Int64)))) (hv33 : v33 = (if (v31 + (-9223372036854775808 : Int64)) < (v2 + (-9223372036854775808 : Int64)) then v31 else (v31 - v2))) (hc140_12 : (4294967295 : Int64) < v32) (hc187_13 : ¬ ((4294967295 : Int64) < (v33 + v2))) (hc140_14 : ¬ ((4294967295 : Int64) < (v32 - (1 : Int64)))) (hc165_15 : ((((v33 + v2) <<< ((32 : Int32) &&& 0x3f).toInt64) ||| v29) + (-9223372036854775808 : Int64)) < (((v32 - (1 : Int64)) * v3) + (-9223372036854775808 : Int64))) : (4294967295 : Int64) < ((v33 + v2) + v2) := by
  obtain ⟨-, -, b1, b2, -⟩ := own_base hq hv1 hv2 hv3
  exact own_187 b1 b2 hv30 hv31 hv33
set_option maxRecDepth 65536 in
set_option maxHeartbeats 4000000 in
theorem pf1_c187_8 (q0 : Int64) (q1 : Int64) (q2 : Int64) (p3 : Int32) (hq : own_ok q0 q2 p3) (v1 : Int64) (v2 : Int64) (v3 : Int64) (v4 : Int64) (v5 : Int64) (v6 : Int64) (v7 : Int64) (v8 : Int64) (v9 : Int64) (v10 : Int64) (v25 : Int64) (v26 : Int64) (v27 : Int64) (v28 : Int64) (v29 : Int64) (v30 : Int64) (v31 : Int64) (v32 : Int64) (v33 : Int64) (hv1 : v1 = (q2 <<< (p3 &&& 0x3f).toInt64)) (hv2 : v2 = ((v1.toUInt64 >>> ((32 : Int32) &&& 0x3f).toInt64.toUInt64).toInt64)) (hv3 : v3 = (v1 &&& (4294967295 : Int64))) (hv4 : v4 = (if p3 = (0 : Int32) then q0 else ((q0 <<< (p3 &&& 0x3f).toInt64) ||| ((q1.toUInt64 >>> (((64 : Int32) - p3) &&& 0x3f).toInt64.toUInt64).toInt64)))) (hv5 : v5 = (q1 <<< (p3 &&& 0x3f).toInt64)) (hv6 : v6 = ((v5.toUInt64 >>> ((32 : Int32) &&& 0x3f).toInt64.toUInt64).toInt64)) (hv7 : v7 = ((((v4.toUInt64 >>> ((1 : Int32) &&& 0x3f).toInt64.toUInt64).toInt64) / v2) <<< ((1 : Int32) &&& 0x3f).toInt64)) (hv8 : v8 = (v4 - (v7 * v2))) (hv9 : v9 = (if (v8 + (-9223372036854775808 : Int64)) < (v2 + (-9223372036854775808 : Int64)) then v7 else (v7 + (1 : Int64)))) (hv10 : v10 = (if (v8 + (-9223372036854775808 : Int64)) < (v2 + (-9223372036854775808 : Int64)) then v8 else (v8 - v2))) (hv25 : v25 = (if (4294967295 : Int64) < v9 then (if (4294967295 : Int64) < (v10 + v2) then (v9 - (1 : Int64)) else (if (4294967295 : Int64) < (v9 - (1 : Int64)) then ((v9 - (1 : Int64)) - (1 : Int64)) else (if ((((v10 + v2) <<< ((32 : Int32) &&& 0x3f).toInt64) ||| v6) + (-9223372036854775808 : Int64)) < (((v9 - (1 : Int64)) * v3) + (-9223372036854775808 : Int64)) then ((v9 - (1 : Int64)) - (1 : Int64)) else (v9 - (1 : Int64))))) else (if (((v10 <<< ((32 : Int32) &&& 0x3f).toInt64) ||| v6) + (-9223372036854775808 : Int64)) < ((v9 * v3) + (-9223372036854775808 : Int64)) then (if (4294967295 : Int64) < (v10 + v2) then (v9 - (1 : Int64)) else (if (4294967295 : Int64) < (v9 - (1 : Int64)) then ((v9 - (1 : Int64)) - (1 : Int64)) else (if ((((v10 + v2) <<< ((32 : Int32) &&& 0x3f).toInt64) ||| v6) + (-9223372036854775808 : Int64)) < (((v9 - (1 : Int64)) * v3) + (-9223372036854775808 : Int64)) then ((v9 - (1 : Int64)) - (1 : Int64)) else (v9 - (1 : Int64))))) else v9))) (hv26 : v26 = (if (4294967295 : Int64) < v9 then (if (4294967295 : Int64) < (v10 + v2) then (v10 + v2) else (if (4294967295 : Int64) < (v9 - (1 : Int64)) then ((v10 + v2) + v2) else (if ((((v10 + v2) <<< ((32 : Int32) &&& 0x3f).toInt64) ||| v6) + (-9223372036854775808 : Int64)) < (((v9 - (1 : Int64)) * v3) + (-9223372036854775808 : Int64)) then ((v10 + v2) + v2) else (v10 + v2)))) else (if (((v10 <<< ((32 : Int32) &&& 0x3f).toInt64) ||| v6) + (-9223372036854775808 : Int64)) < ((v9 * v3) + (-9223372036854775808 : Int64)) then (if (4294967295 : Int64) < (v10 + v2) then (v10 + v2) else (if (4294967295 : Int64) < (v9 - (1 : Int64)) then ((v10 + v2) + v2) else (if ((((v10 + v2) <<< ((32 : Int32) &&& 0x3f).toInt64) ||| v6) + (-9223372036854775808 : Int64)) < (((v9 - (1 : Int64)) * v3) + (-9223372036854775808 : Int64)) then ((v10 + v2) + v2) else (v10 + v2)))) else v10))) (hv27 : v27 = (((0 : Int64) <<< ((32 : Int32) &&& 0x3f).toInt64) ||| v25)) (hv28 : v28 = (((v4 <<< ((32 : Int32) &&& 0x3f).toInt64) + v6) - (v25 * v1))) (hv29 : v29 = (v5 &&& (4294967295 : Int64))) (hv30 : v30 = ((((v28.toUInt64 >>> ((1 : Int32) &&& 0x3f).toInt64.toUInt64).toInt64) / v2) <<< ((1 : Int32) &&& 0x3f).toInt64)) (hv31 : v31 = (v28 - (v30 * v2))) (hv32 : v32 = (if (v31 + (-9223372036854775808 : Int64)) < (v2 + (-9223372036854775808 : Int64)) then v30 else (v30 + (1 : Int64)))) (hv33 : v33 = (if (v31 + (-9223372036854775808 : Int64)) < (v2 + (-9223372036854775808 : Int64)) then v31 else (v31 - v2))) (hc140_12 : ¬ ((4294967295 : Int64) < v32)) (hc165_16 : (((v33 <<< ((32 : Int32) &&& 0x3f).toInt64) ||| v29) + (-9223372036854775808 : Int64)) < ((v32 * v3) + (-9223372036854775808 : Int64))) (hc187_17 : ¬ ((4294967295 : Int64) < (v33 + v2))) (hc140_18 : (4294967295 : Int64) < (v32 - (1 : Int64))) : (4294967295 : Int64) < ((v33 + v2) + v2) := by
  obtain ⟨-, -, b1, b2, -⟩ := own_base hq hv1 hv2 hv3
  exact own_187 b1 b2 hv30 hv31 hv33
set_option maxRecDepth 65536 in
set_option maxHeartbeats 4000000 in
theorem pf1_c187_9 (q0 : Int64) (q1 : Int64) (q2 : Int64) (p3 : Int32) (hq : own_ok q0 q2 p3) (v1 : Int64) (v2 : Int64) (v3 : Int64) (v4 : Int64) (v5 : Int64) (v6 : Int64) (v7 : Int64) (v8 : Int64) (v9 : Int64) (v10 : Int64) (v25 : Int64) (v26 : Int64) (v27 : Int64) (v28 : Int64) (v29 : Int64) (v30 : Int64) (v31 : Int64) (v32 : Int64) (v33 : Int64) (hv1 : v1 = (q2 <<< (p3 &&& 0x3f).toInt64)) (hv2 : v2 = ((v1.toUInt64 >>> ((32 : Int32) &&& 0x3f).toInt64.toUInt64).toInt64)) (hv3 : v3 = (v1 &&& (4294967295 : Int64))) (hv4 : v4 = (if p3 = (0 : Int32) then q0 else ((q0 <<< (p3 &&& 0x3f).toInt64) ||| ((q1.toUInt64 >>> (((64 : Int32) - p3) &&& 0x3f).toInt64.toUInt64).toInt64)))) (hv5 : v5 = (q1 <<< (p3 &&& 0x3f).toInt64)) (hv6 : v6 = ((v5.toUInt64 >>> ((32 : Int32) &&& 0x3f).toInt64.toUInt64).toInt64)) (hv7 : v7 = ((((v4.toUInt64 >>> ((1 : Int32) &&& 0x3f).toInt64.toUInt64).toInt64) / v2) <<< ((1 : Int32) &&& 0x3f).toInt64)) (hv8 : v8 = (v4 - (v7 * v2))) (hv9 : v9 = (if (v8 + (-9223372036854775808 : Int64)) < (v2 + (-9223372036854775808 : Int64)) then v7 else (v7 + (1 : Int64)))) (hv10 : v10 = (if (v8 + (-9223372036854775808 : Int64)) < (v2 + (-9223372036854775808 : Int64)) then v8 else (v8 - v2))) (hv25 : v25 = (if (4294967295 : Int64) < v9 then (if (4294967295 : Int64) < (v10 + v2) then (v9 - (1 : Int64)) else (if (4294967295 : Int64) < (v9 - (1 : Int64)) then ((v9 - (1 : Int64)) - (1 : Int64)) else (if ((((v10 + v2) <<< ((32 : Int32) &&& 0x3f).toInt64) ||| v6) + (-9223372036854775808 : Int64)) < (((v9 - (1 : Int64)) * v3) + (-9223372036854775808 : Int64)) then ((v9 - (1 : Int64)) - (1 : Int64)) else (v9 - (1 : Int64))))) else (if (((v10 <<< ((32 : Int32) &&& 0x3f).toInt64) ||| v6) + (-9223372036854775808 : Int64)) < ((v9 * v3) + (-9223372036854775808 : Int64)) then (if (4294967295 : Int64) < (v10 + v2) then (v9 - (1 : Int64)) else (if (4294967295 : Int64) < (v9 - (1 : Int64)) then ((v9 - (1 : Int64)) - (1 : Int64)) else (if ((((v10 + v2) <<< ((32 : Int32) &&& 0x3f).toInt64) ||| v6) + (-9223372036854775808 : Int64)) < (((v9 - (1 : Int64)) * v3) + (-9223372036854775808 : Int64)) then ((v9 - (1 : Int64)) - (1 : Int64)) else (v9 - (1 : Int64))))) else v9))) (hv26 : v26 = (if (4294967295 : Int64) < v9 then (if (4294967295 : Int64) < (v10 + v2) then (v10 + v2) else (if (4294967295 : Int64) < (v9 - (1 : Int64)) then ((v10 + v2) + v2) else (if ((((v10 + v2) <<< ((32 : Int32) &&& 0x3f).toInt64) ||| v6) + (-9223372036854775808 : Int64)) < (((v9 - (1 : Int64)) * v3) + (-9223372036854775808 : Int64)) then ((v10 + v2) + v2) else (v10 + v2)))) else (if (((v10 <<< ((32 : Int32) &&& 0x3f).toInt64) ||| v6) + (-9223372036854775808 : Int64)) < ((v9 * v3) + (-9223372036854775808 : Int64)) then (if (4294967295 : Int64) < (v10 + v2) then (v10 + v2) else (if (4294967295 : Int64) < (v9 - (1 : Int64)) then ((v10 + v2) + v2) else (if ((((v10 + v2) <<< ((32 : Int32) &&& 0x3f).toInt64) ||| v6) + (-9223372036854775808 : Int64)) < (((v9 - (1 : Int64)) * v3) + (-9223372036854775808 : Int64)) then ((v10 + v2) + v2) else (v10 + v2)))) else v10))) (hv27 : v27 = (((0 : Int64) <<< ((32 : Int32) &&& 0x3f).toInt64) ||| v25)) (hv28 : v28 = (((v4 <<< ((32 : Int32) &&& 0x3f).toInt64) + v6) - (v25 * v1))) (hv29 : v29 = (v5 &&& (4294967295 : Int64))) (hv30 : v30 = ((((v28.toUInt64 >>> ((1 : Int32) &&& 0x3f).toInt64.toUInt64).toInt64) / v2) <<< ((1 : Int32) &&& 0x3f).toInt64)) (hv31 : v31 = (v28 - (v30 * v2))) (hv32 : v32 = (if (v31 + (-9223372036854775808 : Int64)) < (v2 + (-9223372036854775808 : Int64)) then v30 else (v30 + (1 : Int64)))) (hv33 : v33 = (if (v31 + (-9223372036854775808 : Int64)) < (v2 + (-9223372036854775808 : Int64)) then v31 else (v31 - v2))) (hc140_12 : ¬ ((4294967295 : Int64) < v32)) (hc165_16 : (((v33 <<< ((32 : Int32) &&& 0x3f).toInt64) ||| v29) + (-9223372036854775808 : Int64)) < ((v32 * v3) + (-9223372036854775808 : Int64))) (hc187_17 : ¬ ((4294967295 : Int64) < (v33 + v2))) (hc140_18 : ¬ ((4294967295 : Int64) < (v32 - (1 : Int64)))) (hc165_19 : ((((v33 + v2) <<< ((32 : Int32) &&& 0x3f).toInt64) ||| v29) + (-9223372036854775808 : Int64)) < (((v32 - (1 : Int64)) * v3) + (-9223372036854775808 : Int64))) : (4294967295 : Int64) < ((v33 + v2) + v2) := by
  obtain ⟨-, -, b1, b2, -⟩ := own_base hq hv1 hv2 hv3
  exact own_187 b1 b2 hv30 hv31 hv33
set_option maxRecDepth 65536 in
set_option maxHeartbeats 4000000 in
theorem pl_1_q (q0 : Int64) (q1 : Int64) (q2 : Int64) (p3 : Int32) (hq : own_ok q0 q2 p3) (v1 : Int64) (v2 : Int64) (v3 : Int64) (v4 : Int64) (v5 : Int64) (v6 : Int64) (v7 : Int64) (v8 : Int64) (v9 : Int64) (v10 : Int64) (v25 : Int64) (v26 : Int64) (v27 : Int64) (v28 : Int64) (v29 : Int64) (v30 : Int64) (v31 : Int64) (v32 : Int64) (v33 : Int64) (v48 : Int64) (v49 : Int64) (v50 : Int64) (v51 : Int64) (hv1 : v1 = (q2 <<< (p3 &&& 0x3f).toInt64)) (hv2 : v2 = ((v1.toUInt64 >>> ((32 : Int32) &&& 0x3f).toInt64.toUInt64).toInt64)) (hv3 : v3 = (v1 &&& (4294967295 : Int64))) (hv4 : v4 = (if p3 = (0 : Int32) then q0 else ((q0 <<< (p3 &&& 0x3f).toInt64) ||| ((q1.toUInt64 >>> (((64 : Int32) - p3) &&& 0x3f).toInt64.toUInt64).toInt64)))) (hv5 : v5 = (q1 <<< (p3 &&& 0x3f).toInt64)) (hv6 : v6 = ((v5.toUInt64 >>> ((32 : Int32) &&& 0x3f).toInt64.toUInt64).toInt64)) (hv7 : v7 = ((((v4.toUInt64 >>> ((1 : Int32) &&& 0x3f).toInt64.toUInt64).toInt64) / v2) <<< ((1 : Int32) &&& 0x3f).toInt64)) (hv8 : v8 = (v4 - (v7 * v2))) (hv9 : v9 = (if (v8 + (-9223372036854775808 : Int64)) < (v2 + (-9223372036854775808 : Int64)) then v7 else (v7 + (1 : Int64)))) (hv10 : v10 = (if (v8 + (-9223372036854775808 : Int64)) < (v2 + (-9223372036854775808 : Int64)) then v8 else (v8 - v2))) (hv25 : v25 = (if (4294967295 : Int64) < v9 then (if (4294967295 : Int64) < (v10 + v2) then (v9 - (1 : Int64)) else (if (4294967295 : Int64) < (v9 - (1 : Int64)) then ((v9 - (1 : Int64)) - (1 : Int64)) else (if ((((v10 + v2) <<< ((32 : Int32) &&& 0x3f).toInt64) ||| v6) + (-9223372036854775808 : Int64)) < (((v9 - (1 : Int64)) * v3) + (-9223372036854775808 : Int64)) then ((v9 - (1 : Int64)) - (1 : Int64)) else (v9 - (1 : Int64))))) else (if (((v10 <<< ((32 : Int32) &&& 0x3f).toInt64) ||| v6) + (-9223372036854775808 : Int64)) < ((v9 * v3) + (-9223372036854775808 : Int64)) then (if (4294967295 : Int64) < (v10 + v2) then (v9 - (1 : Int64)) else (if (4294967295 : Int64) < (v9 - (1 : Int64)) then ((v9 - (1 : Int64)) - (1 : Int64)) else (if ((((v10 + v2) <<< ((32 : Int32) &&& 0x3f).toInt64) ||| v6) + (-9223372036854775808 : Int64)) < (((v9 - (1 : Int64)) * v3) + (-9223372036854775808 : Int64)) then ((v9 - (1 : Int64)) - (1 : Int64)) else (v9 - (1 : Int64))))) else v9))) (hv26 : v26 = (if (4294967295 : Int64) < v9 then (if (4294967295 : Int64) < (v10 + v2) then (v10 + v2) else (if (4294967295 : Int64) < (v9 - (1 : Int64)) then ((v10 + v2) + v2) else (if ((((v10 + v2) <<< ((32 : Int32) &&& 0x3f).toInt64) ||| v6) + (-9223372036854775808 : Int64)) < (((v9 - (1 : Int64)) * v3) + (-9223372036854775808 : Int64)) then ((v10 + v2) + v2) else (v10 + v2)))) else (if (((v10 <<< ((32 : Int32) &&& 0x3f).toInt64) ||| v6) + (-9223372036854775808 : Int64)) < ((v9 * v3) + (-9223372036854775808 : Int64)) then (if (4294967295 : Int64) < (v10 + v2) then (v10 + v2) else (if (4294967295 : Int64) < (v9 - (1 : Int64)) then ((v10 + v2) + v2) else (if ((((v10 + v2) <<< ((32 : Int32) &&& 0x3f).toInt64) ||| v6) + (-9223372036854775808 : Int64)) < (((v9 - (1 : Int64)) * v3) + (-9223372036854775808 : Int64)) then ((v10 + v2) + v2) else (v10 + v2)))) else v10))) (hv27 : v27 = (((0 : Int64) <<< ((32 : Int32) &&& 0x3f).toInt64) ||| v25)) (hv28 : v28 = (((v4 <<< ((32 : Int32) &&& 0x3f).toInt64) + v6) - (v25 * v1))) (hv29 : v29 = (v5 &&& (4294967295 : Int64))) (hv30 : v30 = ((((v28.toUInt64 >>> ((1 : Int32) &&& 0x3f).toInt64.toUInt64).toInt64) / v2) <<< ((1 : Int32) &&& 0x3f).toInt64)) (hv31 : v31 = (v28 - (v30 * v2))) (hv32 : v32 = (if (v31 + (-9223372036854775808 : Int64)) < (v2 + (-9223372036854775808 : Int64)) then v30 else (v30 + (1 : Int64)))) (hv33 : v33 = (if (v31 + (-9223372036854775808 : Int64)) < (v2 + (-9223372036854775808 : Int64)) then v31 else (v31 - v2))) (hv48 : v48 = (if (4294967295 : Int64) < v32 then (if (4294967295 : Int64) < (v33 + v2) then (v32 - (1 : Int64)) else (if (4294967295 : Int64) < (v32 - (1 : Int64)) then ((v32 - (1 : Int64)) - (1 : Int64)) else (if ((((v33 + v2) <<< ((32 : Int32) &&& 0x3f).toInt64) ||| v29) + (-9223372036854775808 : Int64)) < (((v32 - (1 : Int64)) * v3) + (-9223372036854775808 : Int64)) then ((v32 - (1 : Int64)) - (1 : Int64)) else (v32 - (1 : Int64))))) else (if (((v33 <<< ((32 : Int32) &&& 0x3f).toInt64) ||| v29) + (-9223372036854775808 : Int64)) < ((v32 * v3) + (-9223372036854775808 : Int64)) then (if (4294967295 : Int64) < (v33 + v2) then (v32 - (1 : Int64)) else (if (4294967295 : Int64) < (v32 - (1 : Int64)) then ((v32 - (1 : Int64)) - (1 : Int64)) else (if ((((v33 + v2) <<< ((32 : Int32) &&& 0x3f).toInt64) ||| v29) + (-9223372036854775808 : Int64)) < (((v32 - (1 : Int64)) * v3) + (-9223372036854775808 : Int64)) then ((v32 - (1 : Int64)) - (1 : Int64)) else (v32 - (1 : Int64))))) else v32))) (hv49 : v49 = (if (4294967295 : Int64) < v32 then (if (4294967295 : Int64) < (v33 + v2) then (v33 + v2) else (if (4294967295 : Int64) < (v32 - (1 : Int64)) then ((v33 + v2) + v2) else (if ((((v33 + v2) <<< ((32 : Int32) &&& 0x3f).toInt64) ||| v29) + (-9223372036854775808 : Int64)) < (((v32 - (1 : Int64)) * v3) + (-9223372036854775808 : Int64)) then ((v33 + v2) + v2) else (v33 + v2)))) else (if (((v33 <<< ((32 : Int32) &&& 0x3f).toInt64) ||| v29) + (-9223372036854775808 : Int64)) < ((v32 * v3) + (-9223372036854775808 : Int64)) then (if (4294967295 : Int64) < (v33 + v2) then (v33 + v2) else (if (4294967295 : Int64) < (v32 - (1 : Int64)) then ((v33 + v2) + v2) else (if ((((v33 + v2) <<< ((32 : Int32) &&& 0x3f).toInt64) ||| v29) + (-9223372036854775808 : Int64)) < (((v32 - (1 : Int64)) * v3) + (-9223372036854775808 : Int64)) then ((v33 + v2) + v2) else (v33 + v2)))) else v33))) (hv50 : v50 = ((v27 <<< ((32 : Int32) &&& 0x3f).toInt64) ||| v48)) (hv51 : v51 = (((v28 <<< ((32 : Int32) &&& 0x3f).toInt64) + v29) - (v48 * v1))) : own_q q0 q1 q2 v50 := by
  obtain ⟨e1, e2, b1, b2, b3⟩ := own_base hq hv1 hv2 hv3
  exact own_final hq hv1 hv2 hv3 hv4 hv5 hv6 hv29 (fun hu hl => u_digit e2 b1 b2 b3 hl hu hv7 hv8 hv9 hv10 hv25) hv27 hv28 (fun hu hl => u_digit e2 b1 b2 b3 hl hu hv30 hv31 hv32 hv33 hv48) hv50
def Q1 (Z : State) (q0 : Int64) (q1 : Int64) (q2 : Int64) (p3 : Int32) (h0 : Heap) (n0 : Nat) (v : Option Value) (h : Heap) (L : List Loc) : Prop := ∃ r : Int64, v = some (.long r) ∧ Fr n0 L ∧ h = h0 ∧ (own_q q0 q1 q2 r) ∧ True
set_option maxRecDepth 65536 in
set_option maxHeartbeats 40000000 in
theorem rm1 (l : Launch) (Z : State) (aw : Array Value) (hw : ∀ d ∈ tables_1, d.before aw Z = true) (ws : List Jvm.Cond) (q0 : Int64) (q1 : Int64) (q2 : Int64) (p3 : Int32) (h0 : Heap) (n0 : Nat) (Z0 : n0 ≤ h0.size) (hq : (own_ok q0 q2 p3)) :
    MetFree l (⟨"com/example/amortine/amortine/Words", "quotient", "(JJJI)J"⟩ : MethodName) (head1 (Jvm.Cond.code (⟨"com/example/amortine/amortine/Words", "quotient", "(JJJI)J"⟩ : MethodName) prog_96_method_3_code 26 (some .long) :: ws) ({ frames := 0, cells := 0, slots := 0, locals := 0 } : Room)) (fun a U => a = #[(.long q0), (.long q1), (.long q2), (.int p3)] ∧ Z.Warmed39 U.vm ∧ U.heap = h0) (fun _ _ _ _ _ => True) (fun _ U o U' => ∃ v L, o = .returned v ∧ Q1 Z q0 q1 q2 p3 h0 n0 v U'.heap L ∧ FrameEnd U o U' L ({ frames := 0, cells := 0, slots := 0, locals := 0 } : Room).cells ({ frames := 0, cells := 0, slots := 0, locals := 0 } : Room).slots) := by
  refine MetFree.of_bodySF (plainFor_of_name pn_1) hisR ?_
  intro p e s m args below meth c s₁ Bd hml0 hP hK
  obtain ⟨rfl, hZ, hh⟩ := hP
  have hx := Bd.exec
  have hby := Bd.bytes
  have hml : c.maxLocals = 26 := hml0
  have hown : s.vm.findClass "com/example/amortine/amortine/Words" = some m.cls := findClass_of_methodNamed Bd.named
  have hnm := (name_of_methodNamed Bd.named Bd.method).1
  have X0 : Stand p l e ({ frames := 0, cells := 0, slots := 0, locals := 0 } : Room) s m #[(.long q0), (.long q1), (.long q2), (.int p3)] below meth c s₁ [] 0 0 := Stand.of_body Bd
  have e0 : s₁.heap = h0 := by rw [← hh, Bd.state]; rfl
  have N0 := Fr.nil n0
  obtain ⟨A0, hA0⟩ : ∃ A0, A0 = s₁.setTop (entryFrame m #[(.long q0), (.long q1), (.long q2), (.int p3)] 26) := ⟨_, rfl⟩
  have go0 : Go p e below A0 (s₁.setTop (mkF m 0 #[.val (.long q0), .second, .val (.long q1), .second, .val (.long q2), .second, .val (.int p3), .unset, .unset, .unset, .unset, .unset, .unset, .unset, .unset, .unset, .unset, .unset, .unset, .unset, .unset, .unset, .unset, .unset, .unset, .unset] [])) := fun t k => by rw [hA0]; exact castTop (ef_1 m q0 q1 q2 p3) k
  have go1 : Go p e below A0 (s₁.setTop (mkF m 7 #[.val (.long q0), .second, .val (.long q1), .second, .val (.long q2), .second, .val (.int p3), .val (.long (q2 <<< (p3 &&& 0x3f).toInt64)), .second, .unset, .unset, .unset, .unset, .unset, .unset, .unset, .unset, .unset, .unset, .unset, .unset, .unset, .unset, .unset, .unset, .unset] [])) := by
    intro t k
    refine go0 t ?_
    refine o_lload X0 hx hby d1_0 2 rfl rfl ?_
    refine o_iload X0 hx hby d1_2 4 rfl rfl ?_
    refine o_lshl X0 hx hby d1_4 5 rfl ?_
    refine o_lstore X0 hx hby d1_5 7 rfl (l' := #[.val (.long q0), .second, .val (.long q1), .second, .val (.long q2), .second, .val (.int p3), .val (.long (q2 <<< (p3 &&& 0x3f).toInt64)), .second, .unset, .unset, .unset, .unset, .unset, .unset, .unset, .unset, .unset, .unset, .unset, .unset, .unset, .unset, .unset, .unset, .unset]) rfl ?_
    exact k
  obtain ⟨v1, hv1, go2⟩ : ∃ v1 : Int64, v1 = (q2 <<< (p3 &&& 0x3f).toInt64) ∧ Go p e below A0 (s₁.setTop (mkF m 7 #[.val (.long q0), .second, .val (.long q1), .second, .val (.long q2), .second, .val (.int p3), .val (.long v1), .second, .unset, .unset, .unset, .unset, .unset, .unset, .unset, .unset, .unset, .unset, .unset, .unset, .unset, .unset, .unset, .unset, .unset] [])) := ⟨_, rfl, go1⟩
  have go3 : Go p e below A0 (s₁.setTop (mkF m 14 #[.val (.long q0), .second, .val (.long q1), .second, .val (.long q2), .second, .val (.int p3), .val (.long v1), .second, .val (.long ((v1.toUInt64 >>> ((32 : Int32) &&& 0x3f).toInt64.toUInt64).toInt64)), .second, .unset, .unset, .unset, .unset, .unset, .unset, .unset, .unset, .unset, .unset, .unset, .unset, .unset, .unset, .unset] [])) := by
    intro t k
    refine go2 t ?_
    refine o_lload X0 hx hby d1_7 9 rfl rfl ?_
    refine o_bipush X0 hx hby d1_9 11 rfl (v := (32 : Int32)) rfl ?_
    refine o_lushr X0 hx hby d1_11 12 rfl ?_
    refine o_lstore X0 hx hby d1_12 14 rfl (l' := #[.val (.long q0), .second, .val (.long q1), .second, .val (.long q2), .second, .val (.int p3), .val (.long v1), .second, .val (.long ((v1.toUInt64 >>> ((32 : Int32) &&& 0x3f).toInt64.toUInt64).toInt64)), .second, .unset, .unset, .unset, .unset, .unset, .unset, .unset, .unset, .unset, .unset, .unset, .unset, .unset, .unset, .unset]) rfl ?_
    exact k
  obtain ⟨v2, hv2, go4⟩ : ∃ v2 : Int64, v2 = ((v1.toUInt64 >>> ((32 : Int32) &&& 0x3f).toInt64.toUInt64).toInt64) ∧ Go p e below A0 (s₁.setTop (mkF m 14 #[.val (.long q0), .second, .val (.long q1), .second, .val (.long q2), .second, .val (.int p3), .val (.long v1), .second, .val (.long v2), .second, .unset, .unset, .unset, .unset, .unset, .unset, .unset, .unset, .unset, .unset, .unset, .unset, .unset, .unset, .unset] [])) := ⟨_, rfl, go3⟩
  have go5 : Go p e below A0 (s₁.setTop (mkF m 22 #[.val (.long q0), .second, .val (.long q1), .second, .val (.long q2), .second, .val (.int p3), .val (.long v1), .second, .val (.long v2), .second, .val (.long (v1 &&& (4294967295 : Int64))), .second, .unset, .unset, .unset, .unset, .unset, .unset, .unset, .unset, .unset, .unset, .unset, .unset, .unset] [])) := by
    intro t k
    refine go4 t ?_
    refine o_lload X0 hx hby d1_14 16 rfl rfl ?_
    refine o_ldc2Long X0 hx hby hown (mvT hZ (hw _ (List.mem_of_getElem? (i := 6) rfl))) d1_16 19 rfl ?_
    refine o_land X0 hx hby d1_19 20 rfl ?_
    refine o_lstore X0 hx hby d1_20 22 rfl (l' := #[.val (.long q0), .second, .val (.long q1), .second, .val (.long q2), .second, .val (.int p3), .val (.long v1), .second, .val (.long v2), .second, .val (.long (v1 &&& (4294967295 : Int64))), .second, .unset, .unset, .unset, .unset, .unset, .unset, .unset, .unset, .unset, .unset, .unset, .unset, .unset]) rfl ?_
    exact k
  obtain ⟨v3, hv3, go6⟩ : ∃ v3 : Int64, v3 = (v1 &&& (4294967295 : Int64)) ∧ Go p e below A0 (s₁.setTop (mkF m 22 #[.val (.long q0), .second, .val (.long q1), .second, .val (.long q2), .second, .val (.int p3), .val (.long v1), .second, .val (.long v2), .second, .val (.long v3), .second, .unset, .unset, .unset, .unset, .unset, .unset, .unset, .unset, .unset, .unset, .unset, .unset, .unset] [])) := ⟨_, rfl, go5⟩
  have go7 : Go p e below A0 (s₁.setTop (mkF m 24 #[.val (.long q0), .second, .val (.long q1), .second, .val (.long q2), .second, .val (.int p3), .val (.long v1), .second, .val (.long v2), .second, .val (.long v3), .second, .unset, .unset, .unset, .unset, .unset, .unset, .unset, .unset, .unset, .unset, .unset, .unset, .unset] [(.int p3)])) := by
    intro t k
    refine go6 t ?_
    refine o_iload X0 hx hby d1_22 24 rfl rfl ?_
    exact k
  obtain ⟨v4, hv4, go10⟩ : ∃ (v4 : Int64), v4 = (if p3 = (0 : Int32) then q0 else ((q0 <<< (p3 &&& 0x3f).toInt64) ||| ((q1.toUInt64 >>> (((64 : Int32) - p3) &&& 0x3f).toInt64.toUInt64).toInt64))) ∧ Go p e below A0 (s₁.setTop (mkF m 43 #[.val (.long q0), .second, .val (.long q1), .second, .val (.long q2), .second, .val (.int p3), .val (.long v1), .second, .val (.long v2), .second, .val (.long v3), .second, .unset, .unset, .unset, .unset, .unset, .unset, .unset, .unset, .unset, .unset, .unset, .unset, .unset] [(.long v4)])) := by
    by_cases hc24_1 : p3 = (0 : Int32)
    · have go8 : Go p e below A0 (s₁.setTop (mkF m 43 #[.val (.long q0), .second, .val (.long q1), .second, .val (.long q2), .second, .val (.int p3), .val (.long v1), .second, .val (.long v2), .second, .val (.long v3), .second, .unset, .unset, .unset, .unset, .unset, .unset, .unset, .unset, .unset, .unset, .unset, .unset, .unset] [(.long q0)])) := by
        intro t k
        refine go7 t ?_
        refine o_ifN X0 hx hby d1_24 27 rfl (teq hc24_1).2 ?_
        refine o_lloadN X0 hx hby d1_27 28 rfl rfl ?_
        refine o_goto X0 hx hby d1_28 43 rfl ?_
        exact k
      exact ⟨q0, (if_pos hc24_1).symm, go8⟩
    · have go9 : Go p e below A0 (s₁.setTop (mkF m 43 #[.val (.long q0), .second, .val (.long q1), .second, .val (.long q2), .second, .val (.int p3), .val (.long v1), .second, .val (.long v2), .second, .val (.long v3), .second, .unset, .unset, .unset, .unset, .unset, .unset, .unset, .unset, .unset, .unset, .unset, .unset, .unset] [(.long ((q0 <<< (p3 &&& 0x3f).toInt64) ||| ((q1.toUInt64 >>> (((64 : Int32) - p3) &&& 0x3f).toInt64.toUInt64).toInt64)))])) := by
        intro t k
        refine go7 t ?_
        refine o_ifY X0 hx hby d1_24 31 rfl (feq hc24_1).2 ?_
        refine o_lloadN X0 hx hby d1_31 32 rfl rfl ?_
        refine o_iload X0 hx hby d1_32 34 rfl rfl ?_
        refine o_lshl X0 hx hby d1_34 35 rfl ?_
        refine o_lloadN X0 hx hby d1_35 36 rfl rfl ?_
        refine o_bipush X0 hx hby d1_36 38 rfl (v := (64 : Int32)) rfl ?_
        refine o_iload X0 hx hby d1_38 40 rfl rfl ?_
        refine o_isub X0 hx hby d1_40 41 rfl ?_
        refine o_lushr X0 hx hby d1_41 42 rfl ?_
        refine o_lor X0 hx hby d1_42 43 rfl ?_
        exact k
      exact ⟨((q0 <<< (p3 &&& 0x3f).toInt64) ||| ((q1.toUInt64 >>> (((64 : Int32) - p3) &&& 0x3f).toInt64.toUInt64).toInt64)), (if_neg hc24_1).symm, go9⟩
  have go11 : Go p e below A0 (s₁.setTop (mkF m 45 #[.val (.long q0), .second, .val (.long q1), .second, .val (.long q2), .second, .val (.int p3), .val (.long v1), .second, .val (.long v2), .second, .val (.long v3), .second, .val (.long v4), .second, .unset, .unset, .unset, .unset, .unset, .unset, .unset, .unset, .unset, .unset, .unset] [])) := by
    intro t k
    refine go10 t ?_
    refine o_lstore X0 hx hby d1_43 45 rfl (l' := #[.val (.long q0), .second, .val (.long q1), .second, .val (.long q2), .second, .val (.int p3), .val (.long v1), .second, .val (.long v2), .second, .val (.long v3), .second, .val (.long v4), .second, .unset, .unset, .unset, .unset, .unset, .unset, .unset, .unset, .unset, .unset, .unset]) rfl ?_
    exact k
  have go12 : Go p e below A0 (s₁.setTop (mkF m 51 #[.val (.long q0), .second, .val (.long q1), .second, .val (.long q2), .second, .val (.int p3), .val (.long v1), .second, .val (.long v2), .second, .val (.long v3), .second, .val (.long v4), .second, .val (.long (q1 <<< (p3 &&& 0x3f).toInt64)), .second, .unset, .unset, .unset, .unset, .unset, .unset, .unset, .unset, .unset] [])) := by
    intro t k
    refine go11 t ?_
    refine o_lloadN X0 hx hby d1_45 46 rfl rfl ?_
    refine o_iload X0 hx hby d1_46 48 rfl rfl ?_
    refine o_lshl X0 hx hby d1_48 49 rfl ?_
    refine o_lstore X0 hx hby d1_49 51 rfl (l' := #[.val (.long q0), .second, .val (.long q1), .second, .val (.long q2), .second, .val (.int p3), .val (.long v1), .second, .val (.long v2), .second, .val (.long v3), .second, .val (.long v4), .second, .val (.long (q1 <<< (p3 &&& 0x3f).toInt64)), .second, .unset, .unset, .unset, .unset, .unset, .unset, .unset, .unset, .unset]) rfl ?_
    exact k
  obtain ⟨v5, hv5, go13⟩ : ∃ v5 : Int64, v5 = (q1 <<< (p3 &&& 0x3f).toInt64) ∧ Go p e below A0 (s₁.setTop (mkF m 51 #[.val (.long q0), .second, .val (.long q1), .second, .val (.long q2), .second, .val (.int p3), .val (.long v1), .second, .val (.long v2), .second, .val (.long v3), .second, .val (.long v4), .second, .val (.long v5), .second, .unset, .unset, .unset, .unset, .unset, .unset, .unset, .unset, .unset] [])) := ⟨_, rfl, go12⟩
  have go14 : Go p e below A0 (s₁.setTop (mkF m 54 #[.val (.long q0), .second, .val (.long q1), .second, .val (.long q2), .second, .val (.int p3), .val (.long v1), .second, .val (.long v2), .second, .val (.long v3), .second, .val (.long v4), .second, .val (.long v5), .second, .val (.long (0 : Int64)), .second, .unset, .unset, .unset, .unset, .unset, .unset, .unset] [])) := by
    intro t k
    refine go13 t ?_
    refine o_lconst X0 hx hby d1_51 52 rfl (v := (0 : Int64)) rfl ?_
    refine o_lstore X0 hx hby d1_52 54 rfl (l' := #[.val (.long q0), .second, .val (.long q1), .second, .val (.long q2), .second, .val (.int p3), .val (.long v1), .second, .val (.long v2), .second, .val (.long v3), .second, .val (.long v4), .second, .val (.long v5), .second, .val (.long (0 : Int64)), .second, .unset, .unset, .unset, .unset, .unset, .unset, .unset]) rfl ?_
    exact k
  have go15 : Go p e below A0 (s₁.setTop (mkF m 57 #[.val (.long q0), .second, .val (.long q1), .second, .val (.long q2), .second, .val (.int p3), .val (.long v1), .second, .val (.long v2), .second, .val (.long v3), .second, .val (.long v4), .second, .val (.long v5), .second, .val (.long (0 : Int64)), .second, .val (.int (0 : Int32)), .unset, .unset, .unset, .unset, .unset, .unset] [])) := by
    intro t k
    refine go14 t ?_
    refine o_iconst X0 hx hby d1_54 55 rfl (v := (0 : Int32)) rfl ?_
    refine o_istore X0 hx hby d1_55 57 rfl (l' := #[.val (.long q0), .second, .val (.long q1), .second, .val (.long q2), .second, .val (.int p3), .val (.long v1), .second, .val (.long v2), .second, .val (.long v3), .second, .val (.long v4), .second, .val (.long v5), .second, .val (.long (0 : Int64)), .second, .val (.int (0 : Int32)), .unset, .unset, .unset, .unset, .unset, .unset]) rfl ?_
    exact k
  have go16 : Go p e below A0 (s₁.setTop (mkF m 84 #[.val (.long q0), .second, .val (.long q1), .second, .val (.long q2), .second, .val (.int p3), .val (.long v1), .second, .val (.long v2), .second, .val (.long v3), .second, .val (.long v4), .second, .val (.long v5), .second, .val (.long (0 : Int64)), .second, .val (.int (0 : Int32)), .val (.long ((v5.toUInt64 >>> ((32 : Int32) &&& 0x3f).toInt64.toUInt64).toInt64)), .second, .unset, .unset, .unset, .unset] [])) := by
    intro t k
    refine go15 t ?_
    refine o_iload X0 hx hby d1_57 59 rfl rfl ?_
    refine o_iconst X0 hx hby d1_59 60 rfl (v := (2 : Int32)) rfl ?_
    refine o_icmpN X0 hx hby d1_60 63 rfl (tlt (show (0 : Int32) < (2 : Int32) by decide)).2.1 ?_
    refine o_iload X0 hx hby d1_63 65 rfl rfl ?_
    refine o_ifN X0 hx hby d1_65 68 rfl (teq (show (0 : Int32) = (0 : Int32) by decide)).2 ?_
    refine o_lload X0 hx hby d1_68 70 rfl rfl ?_
    refine o_bipush X0 hx hby d1_70 72 rfl (v := (32 : Int32)) rfl ?_
    refine o_lushr X0 hx hby d1_72 73 rfl ?_
    refine o_goto X0 hx hby d1_73 82 rfl ?_
    refine o_lstore X0 hx hby d1_82 84 rfl (l' := #[.val (.long q0), .second, .val (.long q1), .second, .val (.long q2), .second, .val (.int p3), .val (.long v1), .second, .val (.long v2), .second, .val (.long v3), .second, .val (.long v4), .second, .val (.long v5), .second, .val (.long (0 : Int64)), .second, .val (.int (0 : Int32)), .val (.long ((v5.toUInt64 >>> ((32 : Int32) &&& 0x3f).toInt64.toUInt64).toInt64)), .second, .unset, .unset, .unset, .unset]) rfl ?_
    exact k
  obtain ⟨v6, hv6, go17⟩ : ∃ v6 : Int64, v6 = ((v5.toUInt64 >>> ((32 : Int32) &&& 0x3f).toInt64.toUInt64).toInt64) ∧ Go p e below A0 (s₁.setTop (mkF m 84 #[.val (.long q0), .second, .val (.long q1), .second, .val (.long q2), .second, .val (.int p3), .val (.long v1), .second, .val (.long v2), .second, .val (.long v3), .second, .val (.long v4), .second, .val (.long v5), .second, .val (.long (0 : Int64)), .second, .val (.int (0 : Int32)), .val (.long v6), .second, .unset, .unset, .unset, .unset] [])) := ⟨_, rfl, go16⟩
  have go18 : Go p e below A0 (s₁.setTop (mkF m 90 #[.val (.long q0), .second, .val (.long q1), .second, .val (.long q2), .second, .val (.int p3), .val (.long v1), .second, .val (.long v2), .second, .val (.long v3), .second, .val (.long v4), .second, .val (.long v5), .second, .val (.long (0 : Int64)), .second, .val (.int (0 : Int32)), .val (.long v6), .second, .unset, .unset, .unset, .unset] [(.long v2), (.long ((v4.toUInt64 >>> ((1 : Int32) &&& 0x3f).toInt64.toUInt64).toInt64))])) := by
    intro t k
    refine go17 t ?_
    refine o_lload X0 hx hby d1_84 86 rfl rfl ?_
    refine o_iconst X0 hx hby d1_86 87 rfl (v := (1 : Int32)) rfl ?_
    refine o_lushr X0 hx hby d1_87 88 rfl ?_
    refine o_lload X0 hx hby d1_88 90 rfl rfl ?_
    exact k
  have f_nz90_1 : ¬ (v2 = (0 : Int64)) := pf1_nz90_0 q0 q1 q2 p3 hq v1 v2 v3 v4 v5 v6 hv1 hv2 hv3 hv4 hv5 hv6
  have go19 : Go p e below A0 (s₁.setTop (mkF m 95 #[.val (.long q0), .second, .val (.long q1), .second, .val (.long q2), .second, .val (.int p3), .val (.long v1), .second, .val (.long v2), .second, .val (.long v3), .second, .val (.long v4), .second, .val (.long v5), .second, .val (.long (0 : Int64)), .second, .val (.int (0 : Int32)), .val (.long v6), .second, .val (.long ((((v4.toUInt64 >>> ((1 : Int32) &&& 0x3f).toInt64.toUInt64).toInt64) / v2) <<< ((1 : Int32) &&& 0x3f).toInt64)), .second, .unset, .unset] [])) := by
    intro t k
    refine go18 t ?_
    refine o_ldiv X0 hx hby d1_90 91 rfl f_nz90_1 ?_
    refine o_iconst X0 hx hby d1_91 92 rfl (v := (1 : Int32)) rfl ?_
    refine o_lshl X0 hx hby d1_92 93 rfl ?_
    refine o_lstore X0 hx hby d1_93 95 rfl (l' := #[.val (.long q0), .second, .val (.long q1), .second, .val (.long q2), .second, .val (.int p3), .val (.long v1), .second, .val (.long v2), .second, .val (.long v3), .second, .val (.long v4), .second, .val (.long v5), .second, .val (.long (0 : Int64)), .second, .val (.int (0 : Int32)), .val (.long v6), .second, .val (.long ((((v4.toUInt64 >>> ((1 : Int32) &&& 0x3f).toInt64.toUInt64).toInt64) / v2) <<< ((1 : Int32) &&& 0x3f).toInt64)), .second, .unset, .unset]) rfl ?_
    exact k
  obtain ⟨v7, hv7, go20⟩ : ∃ v7 : Int64, v7 = ((((v4.toUInt64 >>> ((1 : Int32) &&& 0x3f).toInt64.toUInt64).toInt64) / v2) <<< ((1 : Int32) &&& 0x3f).toInt64) ∧ Go p e below A0 (s₁.setTop (mkF m 95 #[.val (.long q0), .second, .val (.long q1), .second, .val (.long q2), .second, .val (.int p3), .val (.long v1), .second, .val (.long v2), .second, .val (.long v3), .second, .val (.long v4), .second, .val (.long v5), .second, .val (.long (0 : Int64)), .second, .val (.int (0 : Int32)), .val (.long v6), .second, .val (.long v7), .second, .unset, .unset] [])) := ⟨_, rfl, go19⟩
  have go21 : Go p e below A0 (s₁.setTop (mkF m 105 #[.val (.long q0), .second, .val (.long q1), .second, .val (.long q2), .second, .val (.int p3), .val (.long v1), .second, .val (.long v2), .second, .val (.long v3), .second, .val (.long v4), .second, .val (.long v5), .second, .val (.long (0 : Int64)), .second, .val (.int (0 : Int32)), .val (.long v6), .second, .val (.long v7), .second, .val (.long (v4 - (v7 * v2))), .second] [])) := by
    intro t k
    refine go20 t ?_
    refine o_lload X0 hx hby d1_95 97 rfl rfl ?_
    refine o_lload X0 hx hby d1_97 99 rfl rfl ?_
    refine o_lload X0 hx hby d1_99 101 rfl rfl ?_
    refine o_lmul X0 hx hby d1_101 102 rfl ?_
    refine o_lsub X0 hx hby d1_102 103 rfl ?_
    refine o_lstore X0 hx hby d1_103 105 rfl (l' := #[.val (.long q0), .second, .val (.long q1), .second, .val (.long q2), .second, .val (.int p3), .val (.long v1), .second, .val (.long v2), .second, .val (.long v3), .second, .val (.long v4), .second, .val (.long v5), .second, .val (.long (0 : Int64)), .second, .val (.int (0 : Int32)), .val (.long v6), .second, .val (.long v7), .second, .val (.long (v4 - (v7 * v2))), .second]) rfl ?_
    exact k
  obtain ⟨v8, hv8, go22⟩ : ∃ v8 : Int64, v8 = (v4 - (v7 * v2)) ∧ Go p e below A0 (s₁.setTop (mkF m 105 #[.val (.long q0), .second, .val (.long q1), .second, .val (.long q2), .second, .val (.int p3), .val (.long v1), .second, .val (.long v2), .second, .val (.long v3), .second, .val (.long v4), .second, .val (.long v5), .second, .val (.long (0 : Int64)), .second, .val (.int (0 : Int32)), .val (.long v6), .second, .val (.long v7), .second, .val (.long v8), .second] [])) := ⟨_, rfl, go21⟩
  have go23 : Go p e below A0 (s₁.setTop (mkF m 118 #[.val (.long q0), .second, .val (.long q1), .second, .val (.long q2), .second, .val (.int p3), .val (.long v1), .second, .val (.long v2), .second, .val (.long v3), .second, .val (.long v4), .second, .val (.long v5), .second, .val (.long (0 : Int64)), .second, .val (.int (0 : Int32)), .val (.long v6), .second, .val (.long v7), .second, .val (.long v8), .second] [(.int (lcmpW (v8 + (-9223372036854775808 : Int64)) (v2 + (-9223372036854775808 : Int64))))])) := by
    intro t k
    refine go22 t ?_
    refine o_lload X0 hx hby d1_105 107 rfl rfl ?_
    refine o_ldc2Long X0 hx hby hown (mvT hZ (hw _ (List.mem_of_getElem? (i := 7) rfl))) d1_107 110 rfl ?_
    refine o_ladd X0 hx hby d1_110 111 rfl ?_
    refine o_lload X0 hx hby d1_111 113 rfl rfl ?_
    refine o_ldc2Long X0 hx hby hown (mvT hZ (hw _ (List.mem_of_getElem? (i := 7) rfl))) d1_113 116 rfl ?_
    refine o_ladd X0 hx hby d1_116 117 rfl ?_
    refine o_lcmp X0 hx hby d1_117 118 rfl ?_
    exact k
  obtain ⟨v9, v10, hv9, hv10, go26⟩ : ∃ (v9 : Int64) (v10 : Int64), v9 = (if (v8 + (-9223372036854775808 : Int64)) < (v2 + (-9223372036854775808 : Int64)) then v7 else (v7 + (1 : Int64))) ∧ v10 = (if (v8 + (-9223372036854775808 : Int64)) < (v2 + (-9223372036854775808 : Int64)) then v8 else (v8 - v2)) ∧ Go p e below A0 (s₁.setTop (mkF m 134 #[.val (.long q0), .second, .val (.long q1), .second, .val (.long q2), .second, .val (.int p3), .val (.long v1), .second, .val (.long v2), .second, .val (.long v3), .second, .val (.long v4), .second, .val (.long v5), .second, .val (.long (0 : Int64)), .second, .val (.int (0 : Int32)), .val (.long v6), .second, .val (.long v9), .second, .val (.long v10), .second] [])) := by
    by_cases hc118_2 : (v8 + (-9223372036854775808 : Int64)) < (v2 + (-9223372036854775808 : Int64))
    · have go24 : Go p e below A0 (s₁.setTop (mkF m 134 #[.val (.long q0), .second, .val (.long q1), .second, .val (.long q2), .second, .val (.int p3), .val (.long v1), .second, .val (.long v2), .second, .val (.long v3), .second, .val (.long v4), .second, .val (.long v5), .second, .val (.long (0 : Int64)), .second, .val (.int (0 : Int32)), .val (.long v6), .second, .val (.long v7), .second, .val (.long v8), .second] [])) := by
        intro t k
        refine go23 t ?_
        refine o_ifY X0 hx hby d1_118 134 rfl (tlt ((lw_lt (v8 + (-9223372036854775808 : Int64)) (v2 + (-9223372036854775808 : Int64))).mpr hc118_2)).1 ?_
        exact k
      exact ⟨v7, v8, (if_pos hc118_2).symm, (if_pos hc118_2).symm, go24⟩
    · have go25 : Go p e below A0 (s₁.setTop (mkF m 134 #[.val (.long q0), .second, .val (.long q1), .second, .val (.long q2), .second, .val (.int p3), .val (.long v1), .second, .val (.long v2), .second, .val (.long v3), .second, .val (.long v4), .second, .val (.long v5), .second, .val (.long (0 : Int64)), .second, .val (.int (0 : Int32)), .val (.long v6), .second, .val (.long (v7 + (1 : Int64))), .second, .val (.long (v8 - v2)), .second] [])) := by
        intro t k
        refine go23 t ?_
        refine o_ifN X0 hx hby d1_118 121 rfl (flt (fun q => hc118_2 ((lw_lt (v8 + (-9223372036854775808 : Int64)) (v2 + (-9223372036854775808 : Int64))).mp q))).1 ?_
        refine o_lload X0 hx hby d1_121 123 rfl rfl ?_
        refine o_lconst X0 hx hby d1_123 124 rfl (v := (1 : Int64)) rfl ?_
        refine o_ladd X0 hx hby d1_124 125 rfl ?_
        refine o_lstore X0 hx hby d1_125 127 rfl (l' := #[.val (.long q0), .second, .val (.long q1), .second, .val (.long q2), .second, .val (.int p3), .val (.long v1), .second, .val (.long v2), .second, .val (.long v3), .second, .val (.long v4), .second, .val (.long v5), .second, .val (.long (0 : Int64)), .second, .val (.int (0 : Int32)), .val (.long v6), .second, .val (.long (v7 + (1 : Int64))), .second, .val (.long v8), .second]) rfl ?_
        refine o_lload X0 hx hby d1_127 129 rfl rfl ?_
        refine o_lload X0 hx hby d1_129 131 rfl rfl ?_
        refine o_lsub X0 hx hby d1_131 132 rfl ?_
        refine o_lstore X0 hx hby d1_132 134 rfl (l' := #[.val (.long q0), .second, .val (.long q1), .second, .val (.long q2), .second, .val (.int p3), .val (.long v1), .second, .val (.long v2), .second, .val (.long v3), .second, .val (.long v4), .second, .val (.long v5), .second, .val (.long (0 : Int64)), .second, .val (.int (0 : Int32)), .val (.long v6), .second, .val (.long (v7 + (1 : Int64))), .second, .val (.long (v8 - v2)), .second]) rfl ?_
        exact k
      exact ⟨(v7 + (1 : Int64)), (v8 - v2), (if_neg hc118_2).symm, (if_neg hc118_2).symm, go25⟩
  have go27 : Go p e below A0 (s₁.setTop (mkF m 140 #[.val (.long q0), .second, .val (.long q1), .second, .val (.long q2), .second, .val (.int p3), .val (.long v1), .second, .val (.long v2), .second, .val (.long v3), .second, .val (.long v4), .second, .val (.long v5), .second, .val (.long (0 : Int64)), .second, .val (.int (0 : Int32)), .val (.long v6), .second, .val (.long v9), .second, .val (.long v10), .second] [(.int (lcmpW v9 (4294967295 : Int64)))])) := by
    intro t k
    refine go26 t ?_
    refine o_lload X0 hx hby d1_134 136 rfl rfl ?_
    refine o_ldc2Long X0 hx hby hown (mvT hZ (hw _ (List.mem_of_getElem? (i := 6) rfl))) d1_136 139 rfl ?_
    refine o_lcmp X0 hx hby d1_139 140 rfl ?_
    exact k
  obtain ⟨v25, v26, hv25, hv26, go55⟩ : ∃ (v25 : Int64) (v26 : Int64), v25 = (if (4294967295 : Int64) < v9 then (if (4294967295 : Int64) < (v10 + v2) then (v9 - (1 : Int64)) else (if (4294967295 : Int64) < (v9 - (1 : Int64)) then ((v9 - (1 : Int64)) - (1 : Int64)) else (if ((((v10 + v2) <<< ((32 : Int32) &&& 0x3f).toInt64) ||| v6) + (-9223372036854775808 : Int64)) < (((v9 - (1 : Int64)) * v3) + (-9223372036854775808 : Int64)) then ((v9 - (1 : Int64)) - (1 : Int64)) else (v9 - (1 : Int64))))) else (if (((v10 <<< ((32 : Int32) &&& 0x3f).toInt64) ||| v6) + (-9223372036854775808 : Int64)) < ((v9 * v3) + (-9223372036854775808 : Int64)) then (if (4294967295 : Int64) < (v10 + v2) then (v9 - (1 : Int64)) else (if (4294967295 : Int64) < (v9 - (1 : Int64)) then ((v9 - (1 : Int64)) - (1 : Int64)) else (if ((((v10 + v2) <<< ((32 : Int32) &&& 0x3f).toInt64) ||| v6) + (-9223372036854775808 : Int64)) < (((v9 - (1 : Int64)) * v3) + (-9223372036854775808 : Int64)) then ((v9 - (1 : Int64)) - (1 : Int64)) else (v9 - (1 : Int64))))) else v9)) ∧ v26 = (if (4294967295 : Int64) < v9 then (if (4294967295 : Int64) < (v10 + v2) then (v10 + v2) else (if (4294967295 : Int64) < (v9 - (1 : Int64)) then ((v10 + v2) + v2) else (if ((((v10 + v2) <<< ((32 : Int32) &&& 0x3f).toInt64) ||| v6) + (-9223372036854775808 : Int64)) < (((v9 - (1 : Int64)) * v3) + (-9223372036854775808 : Int64)) then ((v10 + v2) + v2) else (v10 + v2)))) else (if (((v10 <<< ((32 : Int32) &&& 0x3f).toInt64) ||| v6) + (-9223372036854775808 : Int64)) < ((v9 * v3) + (-9223372036854775808 : Int64)) then (if (4294967295 : Int64) < (v10 + v2) then (v10 + v2) else (if (4294967295 : Int64) < (v9 - (1 : Int64)) then ((v10 + v2) + v2) else (if ((((v10 + v2) <<< ((32 : Int32) &&& 0x3f).toInt64) ||| v6) + (-9223372036854775808 : Int64)) < (((v9 - (1 : Int64)) * v3) + (-9223372036854775808 : Int64)) then ((v10 + v2) + v2) else (v10 + v2)))) else v10)) ∧ Go p e below A0 (s₁.setTop (mkF m 193 #[.val (.long q0), .second, .val (.long q1), .second, .val (.long q2), .second, .val (.int p3), .val (.long v1), .second, .val (.long v2), .second, .val (.long v3), .second, .val (.long v4), .second, .val (.long v5), .second, .val (.long (0 : Int64)), .second, .val (.int (0 : Int32)), .val (.long v6), .second, .val (.long v25), .second, .val (.long v26), .second] [])) := by
    by_cases hc140_3 : (4294967295 : Int64) < v9
    · have go28 : Go p e below A0 (s₁.setTop (mkF m 187 #[.val (.long q0), .second, .val (.long q1), .second, .val (.long q2), .second, .val (.int p3), .val (.long v1), .second, .val (.long v2), .second, .val (.long v3), .second, .val (.long v4), .second, .val (.long v5), .second, .val (.long (0 : Int64)), .second, .val (.int (0 : Int32)), .val (.long v6), .second, .val (.long (v9 - (1 : Int64))), .second, .val (.long (v10 + v2)), .second] [(.int (lcmpW (v10 + v2) (4294967295 : Int64)))])) := by
        intro t k
        refine go27 t ?_
        refine o_ifY X0 hx hby d1_140 168 rfl (tlt ((lw_gt v9 (4294967295 : Int64)).mpr hc140_3)).2.2.1 ?_
        refine o_lload X0 hx hby d1_168 170 rfl rfl ?_
        refine o_lconst X0 hx hby d1_170 171 rfl (v := (1 : Int64)) rfl ?_
        refine o_lsub X0 hx hby d1_171 172 rfl ?_
        refine o_lstore X0 hx hby d1_172 174 rfl (l' := #[.val (.long q0), .second, .val (.long q1), .second, .val (.long q2), .second, .val (.int p3), .val (.long v1), .second, .val (.long v2), .second, .val (.long v3), .second, .val (.long v4), .second, .val (.long v5), .second, .val (.long (0 : Int64)), .second, .val (.int (0 : Int32)), .val (.long v6), .second, .val (.long (v9 - (1 : Int64))), .second, .val (.long v10), .second]) rfl ?_
        refine o_lload X0 hx hby d1_174 176 rfl rfl ?_
        refine o_lload X0 hx hby d1_176 178 rfl rfl ?_
        refine o_ladd X0 hx hby d1_178 179 rfl ?_
        refine o_lstore X0 hx hby d1_179 181 rfl (l' := #[.val (.long q0), .second, .val (.long q1), .second, .val (.long q2), .second, .val (.int p3), .val (.long v1), .second, .val (.long v2), .second, .val (.long v3), .second, .val (.long v4), .second, .val (.long v5), .second, .val (.long (0 : Int64)), .second, .val (.int (0 : Int32)), .val (.long v6), .second, .val (.long (v9 - (1 : Int64))), .second, .val (.long (v10 + v2)), .second]) rfl ?_
        refine o_lload X0 hx hby d1_181 183 rfl rfl ?_
        refine o_ldc2Long X0 hx hby hown (mvT hZ (hw _ (List.mem_of_getElem? (i := 6) rfl))) d1_183 186 rfl ?_
        refine o_lcmp X0 hx hby d1_186 187 rfl ?_
        exact k
      obtain ⟨v15, v16, hv15, hv16, go39⟩ : ∃ (v15 : Int64) (v16 : Int64), v15 = (if (4294967295 : Int64) < (v10 + v2) then (v9 - (1 : Int64)) else (if (4294967295 : Int64) < (v9 - (1 : Int64)) then ((v9 - (1 : Int64)) - (1 : Int64)) else (if ((((v10 + v2) <<< ((32 : Int32) &&& 0x3f).toInt64) ||| v6) + (-9223372036854775808 : Int64)) < (((v9 - (1 : Int64)) * v3) + (-9223372036854775808 : Int64)) then ((v9 - (1 : Int64)) - (1 : Int64)) else (v9 - (1 : Int64))))) ∧ v16 = (if (4294967295 : Int64) < (v10 + v2) then (v10 + v2) else (if (4294967295 : Int64) < (v9 - (1 : Int64)) then ((v10 + v2) + v2) else (if ((((v10 + v2) <<< ((32 : Int32) &&& 0x3f).toInt64) ||| v6) + (-9223372036854775808 : Int64)) < (((v9 - (1 : Int64)) * v3) + (-9223372036854775808 : Int64)) then ((v10 + v2) + v2) else (v10 + v2)))) ∧ Go p e below A0 (s₁.setTop (mkF m 193 #[.val (.long q0), .second, .val (.long q1), .second, .val (.long q2), .second, .val (.int p3), .val (.long v1), .second, .val (.long v2), .second, .val (.long v3), .second, .val (.long v4), .second, .val (.long v5), .second, .val (.long (0 : Int64)), .second, .val (.int (0 : Int32)), .val (.long v6), .second, .val (.long v15), .second, .val (.long v16), .second] [])) := by
        by_cases hc187_4 : (4294967295 : Int64) < (v10 + v2)
        · have go29 : Go p e below A0 (s₁.setTop (mkF m 193 #[.val (.long q0), .second, .val (.long q1), .second, .val (.long q2), .second, .val (.int p3), .val (.long v1), .second, .val (.long v2), .second, .val (.long v3), .second, .val (.long v4), .second, .val (.long v5), .second, .val (.long (0 : Int64)), .second, .val (.int (0 : Int32)), .val (.long v6), .second, .val (.long (v9 - (1 : Int64))), .second, .val (.long (v10 + v2)), .second] [])) := by
            intro t k
            refine go28 t ?_
            refine o_ifN X0 hx hby d1_187 190 rfl (tlt ((lw_gt (v10 + v2) (4294967295 : Int64)).mpr hc187_4)).2.2.2 ?_
            refine o_goto X0 hx hby d1_190 193 rfl ?_
            exact k
          exact ⟨(v9 - (1 : Int64)), (v10 + v2), (if_pos hc187_4).symm, (if_pos hc187_4).symm, go29⟩
        · have go30 : Go p e below A0 (s₁.setTop (mkF m 140 #[.val (.long q0), .second, .val (.long q1), .second, .val (.long q2), .second, .val (.int p3), .val (.long v1), .second, .val (.long v2), .second, .val (.long v3), .second, .val (.long v4), .second, .val (.long v5), .second, .val (.long (0 : Int64)), .second, .val (.int (0 : Int32)), .val (.long v6), .second, .val (.long (v9 - (1 : Int64))), .second, .val (.long (v10 + v2)), .second] [(.int (lcmpW (v9 - (1 : Int64)) (4294967295 : Int64)))])) := by
            intro t k
            refine go28 t ?_
            refine o_ifY X0 hx hby d1_187 134 rfl (flt (fun q => hc187_4 ((lw_gt (v10 + v2) (4294967295 : Int64)).mp q))).2.2.2 ?_
            refine o_lload X0 hx hby d1_134 136 rfl rfl ?_
            refine o_ldc2Long X0 hx hby hown (mvT hZ (hw _ (List.mem_of_getElem? (i := 6) rfl))) d1_136 139 rfl ?_
            refine o_lcmp X0 hx hby d1_139 140 rfl ?_
            exact k
          obtain ⟨v13, v14, hv13, hv14, go38⟩ : ∃ (v13 : Int64) (v14 : Int64), v13 = (if (4294967295 : Int64) < (v9 - (1 : Int64)) then ((v9 - (1 : Int64)) - (1 : Int64)) else (if ((((v10 + v2) <<< ((32 : Int32) &&& 0x3f).toInt64) ||| v6) + (-9223372036854775808 : Int64)) < (((v9 - (1 : Int64)) * v3) + (-9223372036854775808 : Int64)) then ((v9 - (1 : Int64)) - (1 : Int64)) else (v9 - (1 : Int64)))) ∧ v14 = (if (4294967295 : Int64) < (v9 - (1 : Int64)) then ((v10 + v2) + v2) else (if ((((v10 + v2) <<< ((32 : Int32) &&& 0x3f).toInt64) ||| v6) + (-9223372036854775808 : Int64)) < (((v9 - (1 : Int64)) * v3) + (-9223372036854775808 : Int64)) then ((v10 + v2) + v2) else (v10 + v2))) ∧ Go p e below A0 (s₁.setTop (mkF m 193 #[.val (.long q0), .second, .val (.long q1), .second, .val (.long q2), .second, .val (.int p3), .val (.long v1), .second, .val (.long v2), .second, .val (.long v3), .second, .val (.long v4), .second, .val (.long v5), .second, .val (.long (0 : Int64)), .second, .val (.int (0 : Int32)), .val (.long v6), .second, .val (.long v13), .second, .val (.long v14), .second] [])) := by
            by_cases hc140_5 : (4294967295 : Int64) < (v9 - (1 : Int64))
            · have go31 : Go p e below A0 (s₁.setTop (mkF m 187 #[.val (.long q0), .second, .val (.long q1), .second, .val (.long q2), .second, .val (.int p3), .val (.long v1), .second, .val (.long v2), .second, .val (.long v3), .second, .val (.long v4), .second, .val (.long v5), .second, .val (.long (0 : Int64)), .second, .val (.int (0 : Int32)), .val (.long v6), .second, .val (.long ((v9 - (1 : Int64)) - (1 : Int64))), .second, .val (.long ((v10 + v2) + v2)), .second] [(.int (lcmpW ((v10 + v2) + v2) (4294967295 : Int64)))])) := by
                intro t k
                refine go30 t ?_
                refine o_ifY X0 hx hby d1_140 168 rfl (tlt ((lw_gt (v9 - (1 : Int64)) (4294967295 : Int64)).mpr hc140_5)).2.2.1 ?_
                refine o_lload X0 hx hby d1_168 170 rfl rfl ?_
                refine o_lconst X0 hx hby d1_170 171 rfl (v := (1 : Int64)) rfl ?_
                refine o_lsub X0 hx hby d1_171 172 rfl ?_
                refine o_lstore X0 hx hby d1_172 174 rfl (l' := #[.val (.long q0), .second, .val (.long q1), .second, .val (.long q2), .second, .val (.int p3), .val (.long v1), .second, .val (.long v2), .second, .val (.long v3), .second, .val (.long v4), .second, .val (.long v5), .second, .val (.long (0 : Int64)), .second, .val (.int (0 : Int32)), .val (.long v6), .second, .val (.long ((v9 - (1 : Int64)) - (1 : Int64))), .second, .val (.long (v10 + v2)), .second]) rfl ?_
                refine o_lload X0 hx hby d1_174 176 rfl rfl ?_
                refine o_lload X0 hx hby d1_176 178 rfl rfl ?_
                refine o_ladd X0 hx hby d1_178 179 rfl ?_
                refine o_lstore X0 hx hby d1_179 181 rfl (l' := #[.val (.long q0), .second, .val (.long q1), .second, .val (.long q2), .second, .val (.int p3), .val (.long v1), .second, .val (.long v2), .second, .val (.long v3), .second, .val (.long v4), .second, .val (.long v5), .second, .val (.long (0 : Int64)), .second, .val (.int (0 : Int32)), .val (.long v6), .second, .val (.long ((v9 - (1 : Int64)) - (1 : Int64))), .second, .val (.long ((v10 + v2) + v2)), .second]) rfl ?_
                refine o_lload X0 hx hby d1_181 183 rfl rfl ?_
                refine o_ldc2Long X0 hx hby hown (mvT hZ (hw _ (List.mem_of_getElem? (i := 6) rfl))) d1_183 186 rfl ?_
                refine o_lcmp X0 hx hby d1_186 187 rfl ?_
                exact k
              have f_c187_2 : (4294967295 : Int64) < ((v10 + v2) + v2) := pf1_c187_1 q0 q1 q2 p3 hq v1 v2 v3 v4 v5 v6 v7 v8 v9 v10 hv1 hv2 hv3 hv4 hv5 hv6 hv7 hv8 hv9 hv10 hc140_3 hc187_4 hc140_5
              have go32 : Go p e below A0 (s₁.setTop (mkF m 193 #[.val (.long q0), .second, .val (.long q1), .second, .val (.long q2), .second, .val (.int p3), .val (.long v1), .second, .val (.long v2), .second, .val (.long v3), .second, .val (.long v4), .second, .val (.long v5), .second, .val (.long (0 : Int64)), .second, .val (.int (0 : Int32)), .val (.long v6), .second, .val (.long ((v9 - (1 : Int64)) - (1 : Int64))), .second, .val (.long ((v10 + v2) + v2)), .second] [])) := by
                intro t k
                refine go31 t ?_
                refine o_ifN X0 hx hby d1_187 190 rfl (tlt ((lw_gt ((v10 + v2) + v2) (4294967295 : Int64)).mpr (f_c187_2))).2.2.2 ?_
                refine o_goto X0 hx hby d1_190 193 rfl ?_
                exact k
              exact ⟨((v9 - (1 : Int64)) - (1 : Int64)), ((v10 + v2) + v2), (if_pos hc140_5).symm, (if_pos hc140_5).symm, go32⟩
            · have go33 : Go p e below A0 (s₁.setTop (mkF m 165 #[.val (.long q0), .second, .val (.long q1), .second, .val (.long q2), .second, .val (.int p3), .val (.long v1), .second, .val (.long v2), .second, .val (.long v3), .second, .val (.long v4), .second, .val (.long v5), .second, .val (.long (0 : Int64)), .second, .val (.int (0 : Int32)), .val (.long v6), .second, .val (.long (v9 - (1 : Int64))), .second, .val (.long (v10 + v2)), .second] [(.int (lcmpW (((v9 - (1 : Int64)) * v3) + (-9223372036854775808 : Int64)) ((((v10 + v2) <<< ((32 : Int32) &&& 0x3f).toInt64) ||| v6) + (-9223372036854775808 : Int64))))])) := by
                intro t k
                refine go30 t ?_
                refine o_ifN X0 hx hby d1_140 143 rfl (flt (fun q => hc140_5 ((lw_gt (v9 - (1 : Int64)) (4294967295 : Int64)).mp q))).2.2.1 ?_
                refine o_lload X0 hx hby d1_143 145 rfl rfl ?_
                refine o_lload X0 hx hby d1_145 147 rfl rfl ?_
                refine o_lmul X0 hx hby d1_147 148 rfl ?_
                refine o_ldc2Long X0 hx hby hown (mvT hZ (hw _ (List.mem_of_getElem? (i := 7) rfl))) d1_148 151 rfl ?_
                refine o_ladd X0 hx hby d1_151 152 rfl ?_
                refine o_lload X0 hx hby d1_152 154 rfl rfl ?_
                refine o_bipush X0 hx hby d1_154 156 rfl (v := (32 : Int32)) rfl ?_
                refine o_lshl X0 hx hby d1_156 157 rfl ?_
                refine o_lload X0 hx hby d1_157 159 rfl rfl ?_
                refine o_lor X0 hx hby d1_159 160 rfl ?_
                refine o_ldc2Long X0 hx hby hown (mvT hZ (hw _ (List.mem_of_getElem? (i := 7) rfl))) d1_160 163 rfl ?_
                refine o_ladd X0 hx hby d1_163 164 rfl ?_
                refine o_lcmp X0 hx hby d1_164 165 rfl ?_
                exact k
              obtain ⟨v11, v12, hv11, hv12, go37⟩ : ∃ (v11 : Int64) (v12 : Int64), v11 = (if ((((v10 + v2) <<< ((32 : Int32) &&& 0x3f).toInt64) ||| v6) + (-9223372036854775808 : Int64)) < (((v9 - (1 : Int64)) * v3) + (-9223372036854775808 : Int64)) then ((v9 - (1 : Int64)) - (1 : Int64)) else (v9 - (1 : Int64))) ∧ v12 = (if ((((v10 + v2) <<< ((32 : Int32) &&& 0x3f).toInt64) ||| v6) + (-9223372036854775808 : Int64)) < (((v9 - (1 : Int64)) * v3) + (-9223372036854775808 : Int64)) then ((v10 + v2) + v2) else (v10 + v2)) ∧ Go p e below A0 (s₁.setTop (mkF m 193 #[.val (.long q0), .second, .val (.long q1), .second, .val (.long q2), .second, .val (.int p3), .val (.long v1), .second, .val (.long v2), .second, .val (.long v3), .second, .val (.long v4), .second, .val (.long v5), .second, .val (.long (0 : Int64)), .second, .val (.int (0 : Int32)), .val (.long v6), .second, .val (.long v11), .second, .val (.long v12), .second] [])) := by
                by_cases hc165_6 : ((((v10 + v2) <<< ((32 : Int32) &&& 0x3f).toInt64) ||| v6) + (-9223372036854775808 : Int64)) < (((v9 - (1 : Int64)) * v3) + (-9223372036854775808 : Int64))
                · have go34 : Go p e below A0 (s₁.setTop (mkF m 187 #[.val (.long q0), .second, .val (.long q1), .second, .val (.long q2), .second, .val (.int p3), .val (.long v1), .second, .val (.long v2), .second, .val (.long v3), .second, .val (.long v4), .second, .val (.long v5), .second, .val (.long (0 : Int64)), .second, .val (.int (0 : Int32)), .val (.long v6), .second, .val (.long ((v9 - (1 : Int64)) - (1 : Int64))), .second, .val (.long ((v10 + v2) + v2)), .second] [(.int (lcmpW ((v10 + v2) + v2) (4294967295 : Int64)))])) := by
                    intro t k
                    refine go33 t ?_
                    refine o_ifN X0 hx hby d1_165 168 rfl (tlt ((lw_gt (((v9 - (1 : Int64)) * v3) + (-9223372036854775808 : Int64)) ((((v10 + v2) <<< ((32 : Int32) &&& 0x3f).toInt64) ||| v6) + (-9223372036854775808 : Int64))).mpr hc165_6)).2.2.2 ?_
                    refine o_lload X0 hx hby d1_168 170 rfl rfl ?_
                    refine o_lconst X0 hx hby d1_170 171 rfl (v := (1 : Int64)) rfl ?_
                    refine o_lsub X0 hx hby d1_171 172 rfl ?_
                    refine o_lstore X0 hx hby d1_172 174 rfl (l' := #[.val (.long q0), .second, .val (.long q1), .second, .val (.long q2), .second, .val (.int p3), .val (.long v1), .second, .val (.long v2), .second, .val (.long v3), .second, .val (.long v4), .second, .val (.long v5), .second, .val (.long (0 : Int64)), .second, .val (.int (0 : Int32)), .val (.long v6), .second, .val (.long ((v9 - (1 : Int64)) - (1 : Int64))), .second, .val (.long (v10 + v2)), .second]) rfl ?_
                    refine o_lload X0 hx hby d1_174 176 rfl rfl ?_
                    refine o_lload X0 hx hby d1_176 178 rfl rfl ?_
                    refine o_ladd X0 hx hby d1_178 179 rfl ?_
                    refine o_lstore X0 hx hby d1_179 181 rfl (l' := #[.val (.long q0), .second, .val (.long q1), .second, .val (.long q2), .second, .val (.int p3), .val (.long v1), .second, .val (.long v2), .second, .val (.long v3), .second, .val (.long v4), .second, .val (.long v5), .second, .val (.long (0 : Int64)), .second, .val (.int (0 : Int32)), .val (.long v6), .second, .val (.long ((v9 - (1 : Int64)) - (1 : Int64))), .second, .val (.long ((v10 + v2) + v2)), .second]) rfl ?_
                    refine o_lload X0 hx hby d1_181 183 rfl rfl ?_
                    refine o_ldc2Long X0 hx hby hown (mvT hZ (hw _ (List.mem_of_getElem? (i := 6) rfl))) d1_183 186 rfl ?_
                    refine o_lcmp X0 hx hby d1_186 187 rfl ?_
                    exact k
                  have f_c187_3 : (4294967295 : Int64) < ((v10 + v2) + v2) := pf1_c187_2 q0 q1 q2 p3 hq v1 v2 v3 v4 v5 v6 v7 v8 v9 v10 hv1 hv2 hv3 hv4 hv5 hv6 hv7 hv8 hv9 hv10 hc140_3 hc187_4 hc140_5 hc165_6
                  have go35 : Go p e below A0 (s₁.setTop (mkF m 193 #[.val (.long q0), .second, .val (.long q1), .second, .val (.long q2), .second, .val (.int p3), .val (.long v1), .second, .val (.long v2), .second, .val (.long v3), .second, .val (.long v4), .second, .val (.long v5), .second, .val (.long (0 : Int64)), .second, .val (.int (0 : Int32)), .val (.long v6), .second, .val (.long ((v9 - (1 : Int64)) - (1 : Int64))), .second, .val (.long ((v10 + v2) + v2)), .second] [])) := by
                    intro t k
                    refine go34 t ?_
                    refine o_ifN X0 hx hby d1_187 190 rfl (tlt ((lw_gt ((v10 + v2) + v2) (4294967295 : Int64)).mpr (f_c187_3))).2.2.2 ?_
                    refine o_goto X0 hx hby d1_190 193 rfl ?_
                    exact k
                  exact ⟨((v9 - (1 : Int64)) - (1 : Int64)), ((v10 + v2) + v2), (if_pos hc165_6).symm, (if_pos hc165_6).symm, go35⟩
                · have go36 : Go p e below A0 (s₁.setTop (mkF m 193 #[.val (.long q0), .second, .val (.long q1), .second, .val (.long q2), .second, .val (.int p3), .val (.long v1), .second, .val (.long v2), .second, .val (.long v3), .second, .val (.long v4), .second, .val (.long v5), .second, .val (.long (0 : Int64)), .second, .val (.int (0 : Int32)), .val (.long v6), .second, .val (.long (v9 - (1 : Int64))), .second, .val (.long (v10 + v2)), .second] [])) := by
                    intro t k
                    refine go33 t ?_
                    refine o_ifY X0 hx hby d1_165 193 rfl (flt (fun q => hc165_6 ((lw_gt (((v9 - (1 : Int64)) * v3) + (-9223372036854775808 : Int64)) ((((v10 + v2) <<< ((32 : Int32) &&& 0x3f).toInt64) ||| v6) + (-9223372036854775808 : Int64))).mp q))).2.2.2 ?_
                    exact k
                  exact ⟨(v9 - (1 : Int64)), (v10 + v2), (if_neg hc165_6).symm, (if_neg hc165_6).symm, go36⟩
              rw [hv11] at go37
              rw [hv12] at go37
              exact ⟨(if ((((v10 + v2) <<< ((32 : Int32) &&& 0x3f).toInt64) ||| v6) + (-9223372036854775808 : Int64)) < (((v9 - (1 : Int64)) * v3) + (-9223372036854775808 : Int64)) then ((v9 - (1 : Int64)) - (1 : Int64)) else (v9 - (1 : Int64))), (if ((((v10 + v2) <<< ((32 : Int32) &&& 0x3f).toInt64) ||| v6) + (-9223372036854775808 : Int64)) < (((v9 - (1 : Int64)) * v3) + (-9223372036854775808 : Int64)) then ((v10 + v2) + v2) else (v10 + v2)), (if_neg hc140_5).symm, (if_neg hc140_5).symm, go37⟩
          rw [hv13] at go38
          rw [hv14] at go38
          exact ⟨(if (4294967295 : Int64) < (v9 - (1 : Int64)) then ((v9 - (1 : Int64)) - (1 : Int64)) else (if ((((v10 + v2) <<< ((32 : Int32) &&& 0x3f).toInt64) ||| v6) + (-9223372036854775808 : Int64)) < (((v9 - (1 : Int64)) * v3) + (-9223372036854775808 : Int64)) then ((v9 - (1 : Int64)) - (1 : Int64)) else (v9 - (1 : Int64)))), (if (4294967295 : Int64) < (v9 - (1 : Int64)) then ((v10 + v2) + v2) else (if ((((v10 + v2) <<< ((32 : Int32) &&& 0x3f).toInt64) ||| v6) + (-9223372036854775808 : Int64)) < (((v9 - (1 : Int64)) * v3) + (-9223372036854775808 : Int64)) then ((v10 + v2) + v2) else (v10 + v2))), (if_neg hc187_4).symm, (if_neg hc187_4).symm, go38⟩
      rw [hv15] at go39
      rw [hv16] at go39
      exact ⟨(if (4294967295 : Int64) < (v10 + v2) then (v9 - (1 : Int64)) else (if (4294967295 : Int64) < (v9 - (1 : Int64)) then ((v9 - (1 : Int64)) - (1 : Int64)) else (if ((((v10 + v2) <<< ((32 : Int32) &&& 0x3f).toInt64) ||| v6) + (-9223372036854775808 : Int64)) < (((v9 - (1 : Int64)) * v3) + (-9223372036854775808 : Int64)) then ((v9 - (1 : Int64)) - (1 : Int64)) else (v9 - (1 : Int64))))), (if (4294967295 : Int64) < (v10 + v2) then (v10 + v2) else (if (4294967295 : Int64) < (v9 - (1 : Int64)) then ((v10 + v2) + v2) else (if ((((v10 + v2) <<< ((32 : Int32) &&& 0x3f).toInt64) ||| v6) + (-9223372036854775808 : Int64)) < (((v9 - (1 : Int64)) * v3) + (-9223372036854775808 : Int64)) then ((v10 + v2) + v2) else (v10 + v2)))), (if_pos hc140_3).symm, (if_pos hc140_3).symm, go39⟩
    · have go40 : Go p e below A0 (s₁.setTop (mkF m 165 #[.val (.long q0), .second, .val (.long q1), .second, .val (.long q2), .second, .val (.int p3), .val (.long v1), .second, .val (.long v2), .second, .val (.long v3), .second, .val (.long v4), .second, .val (.long v5), .second, .val (.long (0 : Int64)), .second, .val (.int (0 : Int32)), .val (.long v6), .second, .val (.long v9), .second, .val (.long v10), .second] [(.int (lcmpW ((v9 * v3) + (-9223372036854775808 : Int64)) (((v10 <<< ((32 : Int32) &&& 0x3f).toInt64) ||| v6) + (-9223372036854775808 : Int64))))])) := by
        intro t k
        refine go27 t ?_
        refine o_ifN X0 hx hby d1_140 143 rfl (flt (fun q => hc140_3 ((lw_gt v9 (4294967295 : Int64)).mp q))).2.2.1 ?_
        refine o_lload X0 hx hby d1_143 145 rfl rfl ?_
        refine o_lload X0 hx hby d1_145 147 rfl rfl ?_
        refine o_lmul X0 hx hby d1_147 148 rfl ?_
        refine o_ldc2Long X0 hx hby hown (mvT hZ (hw _ (List.mem_of_getElem? (i := 7) rfl))) d1_148 151 rfl ?_
        refine o_ladd X0 hx hby d1_151 152 rfl ?_
        refine o_lload X0 hx hby d1_152 154 rfl rfl ?_
        refine o_bipush X0 hx hby d1_154 156 rfl (v := (32 : Int32)) rfl ?_
        refine o_lshl X0 hx hby d1_156 157 rfl ?_
        refine o_lload X0 hx hby d1_157 159 rfl rfl ?_
        refine o_lor X0 hx hby d1_159 160 rfl ?_
        refine o_ldc2Long X0 hx hby hown (mvT hZ (hw _ (List.mem_of_getElem? (i := 7) rfl))) d1_160 163 rfl ?_
        refine o_ladd X0 hx hby d1_163 164 rfl ?_
        refine o_lcmp X0 hx hby d1_164 165 rfl ?_
        exact k
      obtain ⟨v23, v24, hv23, hv24, go54⟩ : ∃ (v23 : Int64) (v24 : Int64), v23 = (if (((v10 <<< ((32 : Int32) &&& 0x3f).toInt64) ||| v6) + (-9223372036854775808 : Int64)) < ((v9 * v3) + (-9223372036854775808 : Int64)) then (if (4294967295 : Int64) < (v10 + v2) then (v9 - (1 : Int64)) else (if (4294967295 : Int64) < (v9 - (1 : Int64)) then ((v9 - (1 : Int64)) - (1 : Int64)) else (if ((((v10 + v2) <<< ((32 : Int32) &&& 0x3f).toInt64) ||| v6) + (-9223372036854775808 : Int64)) < (((v9 - (1 : Int64)) * v3) + (-9223372036854775808 : Int64)) then ((v9 - (1 : Int64)) - (1 : Int64)) else (v9 - (1 : Int64))))) else v9) ∧ v24 = (if (((v10 <<< ((32 : Int32) &&& 0x3f).toInt64) ||| v6) + (-9223372036854775808 : Int64)) < ((v9 * v3) + (-9223372036854775808 : Int64)) then (if (4294967295 : Int64) < (v10 + v2) then (v10 + v2) else (if (4294967295 : Int64) < (v9 - (1 : Int64)) then ((v10 + v2) + v2) else (if ((((v10 + v2) <<< ((32 : Int32) &&& 0x3f).toInt64) ||| v6) + (-9223372036854775808 : Int64)) < (((v9 - (1 : Int64)) * v3) + (-9223372036854775808 : Int64)) then ((v10 + v2) + v2) else (v10 + v2)))) else v10) ∧ Go p e below A0 (s₁.setTop (mkF m 193 #[.val (.long q0), .second, .val (.long q1), .second, .val (.long q2), .second, .val (.int p3), .val (.long v1), .second, .val (.long v2), .second, .val (.long v3), .second, .val (.long v4), .second, .val (.long v5), .second, .val (.long (0 : Int64)), .second, .val (.int (0 : Int32)), .val (.long v6), .second, .val (.long v23), .second, .val (.long v24), .second] [])) := by
        by_cases hc165_7 : (((v10 <<< ((32 : Int32) &&& 0x3f).toInt64) ||| v6) + (-9223372036854775808 : Int64)) < ((v9 * v3) + (-9223372036854775808 : Int64))
        · have go41 : Go p e below A0 (s₁.setTop (mkF m 187 #[.val (.long q0), .second, .val (.long q1), .second, .val (.long q2), .second, .val (.int p3), .val (.long v1), .second, .val (.long v2), .second, .val (.long v3), .second, .val (.long v4), .second, .val (.long v5), .second, .val (.long (0 : Int64)), .second, .val (.int (0 : Int32)), .val (.long v6), .second, .val (.long (v9 - (1 : Int64))), .second, .val (.long (v10 + v2)), .second] [(.int (lcmpW (v10 + v2) (4294967295 : Int64)))])) := by
            intro t k
            refine go40 t ?_
            refine o_ifN X0 hx hby d1_165 168 rfl (tlt ((lw_gt ((v9 * v3) + (-9223372036854775808 : Int64)) (((v10 <<< ((32 : Int32) &&& 0x3f).toInt64) ||| v6) + (-9223372036854775808 : Int64))).mpr hc165_7)).2.2.2 ?_
            refine o_lload X0 hx hby d1_168 170 rfl rfl ?_
            refine o_lconst X0 hx hby d1_170 171 rfl (v := (1 : Int64)) rfl ?_
            refine o_lsub X0 hx hby d1_171 172 rfl ?_
            refine o_lstore X0 hx hby d1_172 174 rfl (l' := #[.val (.long q0), .second, .val (.long q1), .second, .val (.long q2), .second, .val (.int p3), .val (.long v1), .second, .val (.long v2), .second, .val (.long v3), .second, .val (.long v4), .second, .val (.long v5), .second, .val (.long (0 : Int64)), .second, .val (.int (0 : Int32)), .val (.long v6), .second, .val (.long (v9 - (1 : Int64))), .second, .val (.long v10), .second]) rfl ?_
            refine o_lload X0 hx hby d1_174 176 rfl rfl ?_
            refine o_lload X0 hx hby d1_176 178 rfl rfl ?_
            refine o_ladd X0 hx hby d1_178 179 rfl ?_
            refine o_lstore X0 hx hby d1_179 181 rfl (l' := #[.val (.long q0), .second, .val (.long q1), .second, .val (.long q2), .second, .val (.int p3), .val (.long v1), .second, .val (.long v2), .second, .val (.long v3), .second, .val (.long v4), .second, .val (.long v5), .second, .val (.long (0 : Int64)), .second, .val (.int (0 : Int32)), .val (.long v6), .second, .val (.long (v9 - (1 : Int64))), .second, .val (.long (v10 + v2)), .second]) rfl ?_
            refine o_lload X0 hx hby d1_181 183 rfl rfl ?_
            refine o_ldc2Long X0 hx hby hown (mvT hZ (hw _ (List.mem_of_getElem? (i := 6) rfl))) d1_183 186 rfl ?_
            refine o_lcmp X0 hx hby d1_186 187 rfl ?_
            exact k
          obtain ⟨v21, v22, hv21, hv22, go52⟩ : ∃ (v21 : Int64) (v22 : Int64), v21 = (if (4294967295 : Int64) < (v10 + v2) then (v9 - (1 : Int64)) else (if (4294967295 : Int64) < (v9 - (1 : Int64)) then ((v9 - (1 : Int64)) - (1 : Int64)) else (if ((((v10 + v2) <<< ((32 : Int32) &&& 0x3f).toInt64) ||| v6) + (-9223372036854775808 : Int64)) < (((v9 - (1 : Int64)) * v3) + (-9223372036854775808 : Int64)) then ((v9 - (1 : Int64)) - (1 : Int64)) else (v9 - (1 : Int64))))) ∧ v22 = (if (4294967295 : Int64) < (v10 + v2) then (v10 + v2) else (if (4294967295 : Int64) < (v9 - (1 : Int64)) then ((v10 + v2) + v2) else (if ((((v10 + v2) <<< ((32 : Int32) &&& 0x3f).toInt64) ||| v6) + (-9223372036854775808 : Int64)) < (((v9 - (1 : Int64)) * v3) + (-9223372036854775808 : Int64)) then ((v10 + v2) + v2) else (v10 + v2)))) ∧ Go p e below A0 (s₁.setTop (mkF m 193 #[.val (.long q0), .second, .val (.long q1), .second, .val (.long q2), .second, .val (.int p3), .val (.long v1), .second, .val (.long v2), .second, .val (.long v3), .second, .val (.long v4), .second, .val (.long v5), .second, .val (.long (0 : Int64)), .second, .val (.int (0 : Int32)), .val (.long v6), .second, .val (.long v21), .second, .val (.long v22), .second] [])) := by
            by_cases hc187_8 : (4294967295 : Int64) < (v10 + v2)
            · have go42 : Go p e below A0 (s₁.setTop (mkF m 193 #[.val (.long q0), .second, .val (.long q1), .second, .val (.long q2), .second, .val (.int p3), .val (.long v1), .second, .val (.long v2), .second, .val (.long v3), .second, .val (.long v4), .second, .val (.long v5), .second, .val (.long (0 : Int64)), .second, .val (.int (0 : Int32)), .val (.long v6), .second, .val (.long (v9 - (1 : Int64))), .second, .val (.long (v10 + v2)), .second] [])) := by
                intro t k
                refine go41 t ?_
                refine o_ifN X0 hx hby d1_187 190 rfl (tlt ((lw_gt (v10 + v2) (4294967295 : Int64)).mpr hc187_8)).2.2.2 ?_
                refine o_goto X0 hx hby d1_190 193 rfl ?_
                exact k
              exact ⟨(v9 - (1 : Int64)), (v10 + v2), (if_pos hc187_8).symm, (if_pos hc187_8).symm, go42⟩
            · have go43 : Go p e below A0 (s₁.setTop (mkF m 140 #[.val (.long q0), .second, .val (.long q1), .second, .val (.long q2), .second, .val (.int p3), .val (.long v1), .second, .val (.long v2), .second, .val (.long v3), .second, .val (.long v4), .second, .val (.long v5), .second, .val (.long (0 : Int64)), .second, .val (.int (0 : Int32)), .val (.long v6), .second, .val (.long (v9 - (1 : Int64))), .second, .val (.long (v10 + v2)), .second] [(.int (lcmpW (v9 - (1 : Int64)) (4294967295 : Int64)))])) := by
                intro t k
                refine go41 t ?_
                refine o_ifY X0 hx hby d1_187 134 rfl (flt (fun q => hc187_8 ((lw_gt (v10 + v2) (4294967295 : Int64)).mp q))).2.2.2 ?_
                refine o_lload X0 hx hby d1_134 136 rfl rfl ?_
                refine o_ldc2Long X0 hx hby hown (mvT hZ (hw _ (List.mem_of_getElem? (i := 6) rfl))) d1_136 139 rfl ?_
                refine o_lcmp X0 hx hby d1_139 140 rfl ?_
                exact k
              obtain ⟨v19, v20, hv19, hv20, go51⟩ : ∃ (v19 : Int64) (v20 : Int64), v19 = (if (4294967295 : Int64) < (v9 - (1 : Int64)) then ((v9 - (1 : Int64)) - (1 : Int64)) else (if ((((v10 + v2) <<< ((32 : Int32) &&& 0x3f).toInt64) ||| v6) + (-9223372036854775808 : Int64)) < (((v9 - (1 : Int64)) * v3) + (-9223372036854775808 : Int64)) then ((v9 - (1 : Int64)) - (1 : Int64)) else (v9 - (1 : Int64)))) ∧ v20 = (if (4294967295 : Int64) < (v9 - (1 : Int64)) then ((v10 + v2) + v2) else (if ((((v10 + v2) <<< ((32 : Int32) &&& 0x3f).toInt64) ||| v6) + (-9223372036854775808 : Int64)) < (((v9 - (1 : Int64)) * v3) + (-9223372036854775808 : Int64)) then ((v10 + v2) + v2) else (v10 + v2))) ∧ Go p e below A0 (s₁.setTop (mkF m 193 #[.val (.long q0), .second, .val (.long q1), .second, .val (.long q2), .second, .val (.int p3), .val (.long v1), .second, .val (.long v2), .second, .val (.long v3), .second, .val (.long v4), .second, .val (.long v5), .second, .val (.long (0 : Int64)), .second, .val (.int (0 : Int32)), .val (.long v6), .second, .val (.long v19), .second, .val (.long v20), .second] [])) := by
                by_cases hc140_9 : (4294967295 : Int64) < (v9 - (1 : Int64))
                · have go44 : Go p e below A0 (s₁.setTop (mkF m 187 #[.val (.long q0), .second, .val (.long q1), .second, .val (.long q2), .second, .val (.int p3), .val (.long v1), .second, .val (.long v2), .second, .val (.long v3), .second, .val (.long v4), .second, .val (.long v5), .second, .val (.long (0 : Int64)), .second, .val (.int (0 : Int32)), .val (.long v6), .second, .val (.long ((v9 - (1 : Int64)) - (1 : Int64))), .second, .val (.long ((v10 + v2) + v2)), .second] [(.int (lcmpW ((v10 + v2) + v2) (4294967295 : Int64)))])) := by
                    intro t k
                    refine go43 t ?_
                    refine o_ifY X0 hx hby d1_140 168 rfl (tlt ((lw_gt (v9 - (1 : Int64)) (4294967295 : Int64)).mpr hc140_9)).2.2.1 ?_
                    refine o_lload X0 hx hby d1_168 170 rfl rfl ?_
                    refine o_lconst X0 hx hby d1_170 171 rfl (v := (1 : Int64)) rfl ?_
                    refine o_lsub X0 hx hby d1_171 172 rfl ?_
                    refine o_lstore X0 hx hby d1_172 174 rfl (l' := #[.val (.long q0), .second, .val (.long q1), .second, .val (.long q2), .second, .val (.int p3), .val (.long v1), .second, .val (.long v2), .second, .val (.long v3), .second, .val (.long v4), .second, .val (.long v5), .second, .val (.long (0 : Int64)), .second, .val (.int (0 : Int32)), .val (.long v6), .second, .val (.long ((v9 - (1 : Int64)) - (1 : Int64))), .second, .val (.long (v10 + v2)), .second]) rfl ?_
                    refine o_lload X0 hx hby d1_174 176 rfl rfl ?_
                    refine o_lload X0 hx hby d1_176 178 rfl rfl ?_
                    refine o_ladd X0 hx hby d1_178 179 rfl ?_
                    refine o_lstore X0 hx hby d1_179 181 rfl (l' := #[.val (.long q0), .second, .val (.long q1), .second, .val (.long q2), .second, .val (.int p3), .val (.long v1), .second, .val (.long v2), .second, .val (.long v3), .second, .val (.long v4), .second, .val (.long v5), .second, .val (.long (0 : Int64)), .second, .val (.int (0 : Int32)), .val (.long v6), .second, .val (.long ((v9 - (1 : Int64)) - (1 : Int64))), .second, .val (.long ((v10 + v2) + v2)), .second]) rfl ?_
                    refine o_lload X0 hx hby d1_181 183 rfl rfl ?_
                    refine o_ldc2Long X0 hx hby hown (mvT hZ (hw _ (List.mem_of_getElem? (i := 6) rfl))) d1_183 186 rfl ?_
                    refine o_lcmp X0 hx hby d1_186 187 rfl ?_
                    exact k
                  have f_c187_4 : (4294967295 : Int64) < ((v10 + v2) + v2) := pf1_c187_3 q0 q1 q2 p3 hq v1 v2 v3 v4 v5 v6 v7 v8 v9 v10 hv1 hv2 hv3 hv4 hv5 hv6 hv7 hv8 hv9 hv10 hc140_3 hc165_7 hc187_8 hc140_9
                  have go45 : Go p e below A0 (s₁.setTop (mkF m 193 #[.val (.long q0), .second, .val (.long q1), .second, .val (.long q2), .second, .val (.int p3), .val (.long v1), .second, .val (.long v2), .second, .val (.long v3), .second, .val (.long v4), .second, .val (.long v5), .second, .val (.long (0 : Int64)), .second, .val (.int (0 : Int32)), .val (.long v6), .second, .val (.long ((v9 - (1 : Int64)) - (1 : Int64))), .second, .val (.long ((v10 + v2) + v2)), .second] [])) := by
                    intro t k
                    refine go44 t ?_
                    refine o_ifN X0 hx hby d1_187 190 rfl (tlt ((lw_gt ((v10 + v2) + v2) (4294967295 : Int64)).mpr (f_c187_4))).2.2.2 ?_
                    refine o_goto X0 hx hby d1_190 193 rfl ?_
                    exact k
                  exact ⟨((v9 - (1 : Int64)) - (1 : Int64)), ((v10 + v2) + v2), (if_pos hc140_9).symm, (if_pos hc140_9).symm, go45⟩
                · have go46 : Go p e below A0 (s₁.setTop (mkF m 165 #[.val (.long q0), .second, .val (.long q1), .second, .val (.long q2), .second, .val (.int p3), .val (.long v1), .second, .val (.long v2), .second, .val (.long v3), .second, .val (.long v4), .second, .val (.long v5), .second, .val (.long (0 : Int64)), .second, .val (.int (0 : Int32)), .val (.long v6), .second, .val (.long (v9 - (1 : Int64))), .second, .val (.long (v10 + v2)), .second] [(.int (lcmpW (((v9 - (1 : Int64)) * v3) + (-9223372036854775808 : Int64)) ((((v10 + v2) <<< ((32 : Int32) &&& 0x3f).toInt64) ||| v6) + (-9223372036854775808 : Int64))))])) := by
                    intro t k
                    refine go43 t ?_
                    refine o_ifN X0 hx hby d1_140 143 rfl (flt (fun q => hc140_9 ((lw_gt (v9 - (1 : Int64)) (4294967295 : Int64)).mp q))).2.2.1 ?_
                    refine o_lload X0 hx hby d1_143 145 rfl rfl ?_
                    refine o_lload X0 hx hby d1_145 147 rfl rfl ?_
                    refine o_lmul X0 hx hby d1_147 148 rfl ?_
                    refine o_ldc2Long X0 hx hby hown (mvT hZ (hw _ (List.mem_of_getElem? (i := 7) rfl))) d1_148 151 rfl ?_
                    refine o_ladd X0 hx hby d1_151 152 rfl ?_
                    refine o_lload X0 hx hby d1_152 154 rfl rfl ?_
                    refine o_bipush X0 hx hby d1_154 156 rfl (v := (32 : Int32)) rfl ?_
                    refine o_lshl X0 hx hby d1_156 157 rfl ?_
                    refine o_lload X0 hx hby d1_157 159 rfl rfl ?_
                    refine o_lor X0 hx hby d1_159 160 rfl ?_
                    refine o_ldc2Long X0 hx hby hown (mvT hZ (hw _ (List.mem_of_getElem? (i := 7) rfl))) d1_160 163 rfl ?_
                    refine o_ladd X0 hx hby d1_163 164 rfl ?_
                    refine o_lcmp X0 hx hby d1_164 165 rfl ?_
                    exact k
                  obtain ⟨v17, v18, hv17, hv18, go50⟩ : ∃ (v17 : Int64) (v18 : Int64), v17 = (if ((((v10 + v2) <<< ((32 : Int32) &&& 0x3f).toInt64) ||| v6) + (-9223372036854775808 : Int64)) < (((v9 - (1 : Int64)) * v3) + (-9223372036854775808 : Int64)) then ((v9 - (1 : Int64)) - (1 : Int64)) else (v9 - (1 : Int64))) ∧ v18 = (if ((((v10 + v2) <<< ((32 : Int32) &&& 0x3f).toInt64) ||| v6) + (-9223372036854775808 : Int64)) < (((v9 - (1 : Int64)) * v3) + (-9223372036854775808 : Int64)) then ((v10 + v2) + v2) else (v10 + v2)) ∧ Go p e below A0 (s₁.setTop (mkF m 193 #[.val (.long q0), .second, .val (.long q1), .second, .val (.long q2), .second, .val (.int p3), .val (.long v1), .second, .val (.long v2), .second, .val (.long v3), .second, .val (.long v4), .second, .val (.long v5), .second, .val (.long (0 : Int64)), .second, .val (.int (0 : Int32)), .val (.long v6), .second, .val (.long v17), .second, .val (.long v18), .second] [])) := by
                    by_cases hc165_10 : ((((v10 + v2) <<< ((32 : Int32) &&& 0x3f).toInt64) ||| v6) + (-9223372036854775808 : Int64)) < (((v9 - (1 : Int64)) * v3) + (-9223372036854775808 : Int64))
                    · have go47 : Go p e below A0 (s₁.setTop (mkF m 187 #[.val (.long q0), .second, .val (.long q1), .second, .val (.long q2), .second, .val (.int p3), .val (.long v1), .second, .val (.long v2), .second, .val (.long v3), .second, .val (.long v4), .second, .val (.long v5), .second, .val (.long (0 : Int64)), .second, .val (.int (0 : Int32)), .val (.long v6), .second, .val (.long ((v9 - (1 : Int64)) - (1 : Int64))), .second, .val (.long ((v10 + v2) + v2)), .second] [(.int (lcmpW ((v10 + v2) + v2) (4294967295 : Int64)))])) := by
                        intro t k
                        refine go46 t ?_
                        refine o_ifN X0 hx hby d1_165 168 rfl (tlt ((lw_gt (((v9 - (1 : Int64)) * v3) + (-9223372036854775808 : Int64)) ((((v10 + v2) <<< ((32 : Int32) &&& 0x3f).toInt64) ||| v6) + (-9223372036854775808 : Int64))).mpr hc165_10)).2.2.2 ?_
                        refine o_lload X0 hx hby d1_168 170 rfl rfl ?_
                        refine o_lconst X0 hx hby d1_170 171 rfl (v := (1 : Int64)) rfl ?_
                        refine o_lsub X0 hx hby d1_171 172 rfl ?_
                        refine o_lstore X0 hx hby d1_172 174 rfl (l' := #[.val (.long q0), .second, .val (.long q1), .second, .val (.long q2), .second, .val (.int p3), .val (.long v1), .second, .val (.long v2), .second, .val (.long v3), .second, .val (.long v4), .second, .val (.long v5), .second, .val (.long (0 : Int64)), .second, .val (.int (0 : Int32)), .val (.long v6), .second, .val (.long ((v9 - (1 : Int64)) - (1 : Int64))), .second, .val (.long (v10 + v2)), .second]) rfl ?_
                        refine o_lload X0 hx hby d1_174 176 rfl rfl ?_
                        refine o_lload X0 hx hby d1_176 178 rfl rfl ?_
                        refine o_ladd X0 hx hby d1_178 179 rfl ?_
                        refine o_lstore X0 hx hby d1_179 181 rfl (l' := #[.val (.long q0), .second, .val (.long q1), .second, .val (.long q2), .second, .val (.int p3), .val (.long v1), .second, .val (.long v2), .second, .val (.long v3), .second, .val (.long v4), .second, .val (.long v5), .second, .val (.long (0 : Int64)), .second, .val (.int (0 : Int32)), .val (.long v6), .second, .val (.long ((v9 - (1 : Int64)) - (1 : Int64))), .second, .val (.long ((v10 + v2) + v2)), .second]) rfl ?_
                        refine o_lload X0 hx hby d1_181 183 rfl rfl ?_
                        refine o_ldc2Long X0 hx hby hown (mvT hZ (hw _ (List.mem_of_getElem? (i := 6) rfl))) d1_183 186 rfl ?_
                        refine o_lcmp X0 hx hby d1_186 187 rfl ?_
                        exact k
                      have f_c187_5 : (4294967295 : Int64) < ((v10 + v2) + v2) := pf1_c187_4 q0 q1 q2 p3 hq v1 v2 v3 v4 v5 v6 v7 v8 v9 v10 hv1 hv2 hv3 hv4 hv5 hv6 hv7 hv8 hv9 hv10 hc140_3 hc165_7 hc187_8 hc140_9 hc165_10
                      have go48 : Go p e below A0 (s₁.setTop (mkF m 193 #[.val (.long q0), .second, .val (.long q1), .second, .val (.long q2), .second, .val (.int p3), .val (.long v1), .second, .val (.long v2), .second, .val (.long v3), .second, .val (.long v4), .second, .val (.long v5), .second, .val (.long (0 : Int64)), .second, .val (.int (0 : Int32)), .val (.long v6), .second, .val (.long ((v9 - (1 : Int64)) - (1 : Int64))), .second, .val (.long ((v10 + v2) + v2)), .second] [])) := by
                        intro t k
                        refine go47 t ?_
                        refine o_ifN X0 hx hby d1_187 190 rfl (tlt ((lw_gt ((v10 + v2) + v2) (4294967295 : Int64)).mpr (f_c187_5))).2.2.2 ?_
                        refine o_goto X0 hx hby d1_190 193 rfl ?_
                        exact k
                      exact ⟨((v9 - (1 : Int64)) - (1 : Int64)), ((v10 + v2) + v2), (if_pos hc165_10).symm, (if_pos hc165_10).symm, go48⟩
                    · have go49 : Go p e below A0 (s₁.setTop (mkF m 193 #[.val (.long q0), .second, .val (.long q1), .second, .val (.long q2), .second, .val (.int p3), .val (.long v1), .second, .val (.long v2), .second, .val (.long v3), .second, .val (.long v4), .second, .val (.long v5), .second, .val (.long (0 : Int64)), .second, .val (.int (0 : Int32)), .val (.long v6), .second, .val (.long (v9 - (1 : Int64))), .second, .val (.long (v10 + v2)), .second] [])) := by
                        intro t k
                        refine go46 t ?_
                        refine o_ifY X0 hx hby d1_165 193 rfl (flt (fun q => hc165_10 ((lw_gt (((v9 - (1 : Int64)) * v3) + (-9223372036854775808 : Int64)) ((((v10 + v2) <<< ((32 : Int32) &&& 0x3f).toInt64) ||| v6) + (-9223372036854775808 : Int64))).mp q))).2.2.2 ?_
                        exact k
                      exact ⟨(v9 - (1 : Int64)), (v10 + v2), (if_neg hc165_10).symm, (if_neg hc165_10).symm, go49⟩
                  rw [hv17] at go50
                  rw [hv18] at go50
                  exact ⟨(if ((((v10 + v2) <<< ((32 : Int32) &&& 0x3f).toInt64) ||| v6) + (-9223372036854775808 : Int64)) < (((v9 - (1 : Int64)) * v3) + (-9223372036854775808 : Int64)) then ((v9 - (1 : Int64)) - (1 : Int64)) else (v9 - (1 : Int64))), (if ((((v10 + v2) <<< ((32 : Int32) &&& 0x3f).toInt64) ||| v6) + (-9223372036854775808 : Int64)) < (((v9 - (1 : Int64)) * v3) + (-9223372036854775808 : Int64)) then ((v10 + v2) + v2) else (v10 + v2)), (if_neg hc140_9).symm, (if_neg hc140_9).symm, go50⟩
              rw [hv19] at go51
              rw [hv20] at go51
              exact ⟨(if (4294967295 : Int64) < (v9 - (1 : Int64)) then ((v9 - (1 : Int64)) - (1 : Int64)) else (if ((((v10 + v2) <<< ((32 : Int32) &&& 0x3f).toInt64) ||| v6) + (-9223372036854775808 : Int64)) < (((v9 - (1 : Int64)) * v3) + (-9223372036854775808 : Int64)) then ((v9 - (1 : Int64)) - (1 : Int64)) else (v9 - (1 : Int64)))), (if (4294967295 : Int64) < (v9 - (1 : Int64)) then ((v10 + v2) + v2) else (if ((((v10 + v2) <<< ((32 : Int32) &&& 0x3f).toInt64) ||| v6) + (-9223372036854775808 : Int64)) < (((v9 - (1 : Int64)) * v3) + (-9223372036854775808 : Int64)) then ((v10 + v2) + v2) else (v10 + v2))), (if_neg hc187_8).symm, (if_neg hc187_8).symm, go51⟩
          rw [hv21] at go52
          rw [hv22] at go52
          exact ⟨(if (4294967295 : Int64) < (v10 + v2) then (v9 - (1 : Int64)) else (if (4294967295 : Int64) < (v9 - (1 : Int64)) then ((v9 - (1 : Int64)) - (1 : Int64)) else (if ((((v10 + v2) <<< ((32 : Int32) &&& 0x3f).toInt64) ||| v6) + (-9223372036854775808 : Int64)) < (((v9 - (1 : Int64)) * v3) + (-9223372036854775808 : Int64)) then ((v9 - (1 : Int64)) - (1 : Int64)) else (v9 - (1 : Int64))))), (if (4294967295 : Int64) < (v10 + v2) then (v10 + v2) else (if (4294967295 : Int64) < (v9 - (1 : Int64)) then ((v10 + v2) + v2) else (if ((((v10 + v2) <<< ((32 : Int32) &&& 0x3f).toInt64) ||| v6) + (-9223372036854775808 : Int64)) < (((v9 - (1 : Int64)) * v3) + (-9223372036854775808 : Int64)) then ((v10 + v2) + v2) else (v10 + v2)))), (if_pos hc165_7).symm, (if_pos hc165_7).symm, go52⟩
        · have go53 : Go p e below A0 (s₁.setTop (mkF m 193 #[.val (.long q0), .second, .val (.long q1), .second, .val (.long q2), .second, .val (.int p3), .val (.long v1), .second, .val (.long v2), .second, .val (.long v3), .second, .val (.long v4), .second, .val (.long v5), .second, .val (.long (0 : Int64)), .second, .val (.int (0 : Int32)), .val (.long v6), .second, .val (.long v9), .second, .val (.long v10), .second] [])) := by
            intro t k
            refine go40 t ?_
            refine o_ifY X0 hx hby d1_165 193 rfl (flt (fun q => hc165_7 ((lw_gt ((v9 * v3) + (-9223372036854775808 : Int64)) (((v10 <<< ((32 : Int32) &&& 0x3f).toInt64) ||| v6) + (-9223372036854775808 : Int64))).mp q))).2.2.2 ?_
            exact k
          exact ⟨v9, v10, (if_neg hc165_7).symm, (if_neg hc165_7).symm, go53⟩
      rw [hv23] at go54
      rw [hv24] at go54
      exact ⟨(if (((v10 <<< ((32 : Int32) &&& 0x3f).toInt64) ||| v6) + (-9223372036854775808 : Int64)) < ((v9 * v3) + (-9223372036854775808 : Int64)) then (if (4294967295 : Int64) < (v10 + v2) then (v9 - (1 : Int64)) else (if (4294967295 : Int64) < (v9 - (1 : Int64)) then ((v9 - (1 : Int64)) - (1 : Int64)) else (if ((((v10 + v2) <<< ((32 : Int32) &&& 0x3f).toInt64) ||| v6) + (-9223372036854775808 : Int64)) < (((v9 - (1 : Int64)) * v3) + (-9223372036854775808 : Int64)) then ((v9 - (1 : Int64)) - (1 : Int64)) else (v9 - (1 : Int64))))) else v9), (if (((v10 <<< ((32 : Int32) &&& 0x3f).toInt64) ||| v6) + (-9223372036854775808 : Int64)) < ((v9 * v3) + (-9223372036854775808 : Int64)) then (if (4294967295 : Int64) < (v10 + v2) then (v10 + v2) else (if (4294967295 : Int64) < (v9 - (1 : Int64)) then ((v10 + v2) + v2) else (if ((((v10 + v2) <<< ((32 : Int32) &&& 0x3f).toInt64) ||| v6) + (-9223372036854775808 : Int64)) < (((v9 - (1 : Int64)) * v3) + (-9223372036854775808 : Int64)) then ((v10 + v2) + v2) else (v10 + v2)))) else v10), (if_neg hc140_3).symm, (if_neg hc140_3).symm, go54⟩
  have go56 : Go p e below A0 (s₁.setTop (mkF m 203 #[.val (.long q0), .second, .val (.long q1), .second, .val (.long q2), .second, .val (.int p3), .val (.long v1), .second, .val (.long v2), .second, .val (.long v3), .second, .val (.long v4), .second, .val (.long v5), .second, .val (.long (((0 : Int64) <<< ((32 : Int32) &&& 0x3f).toInt64) ||| v25)), .second, .val (.int (0 : Int32)), .val (.long v6), .second, .val (.long v25), .second, .val (.long v26), .second] [])) := by
    intro t k
    refine go55 t ?_
    refine o_lload X0 hx hby d1_193 195 rfl rfl ?_
    refine o_bipush X0 hx hby d1_195 197 rfl (v := (32 : Int32)) rfl ?_
    refine o_lshl X0 hx hby d1_197 198 rfl ?_
    refine o_lload X0 hx hby d1_198 200 rfl rfl ?_
    refine o_lor X0 hx hby d1_200 201 rfl ?_
    refine o_lstore X0 hx hby d1_201 203 rfl (l' := #[.val (.long q0), .second, .val (.long q1), .second, .val (.long q2), .second, .val (.int p3), .val (.long v1), .second, .val (.long v2), .second, .val (.long v3), .second, .val (.long v4), .second, .val (.long v5), .second, .val (.long (((0 : Int64) <<< ((32 : Int32) &&& 0x3f).toInt64) ||| v25)), .second, .val (.int (0 : Int32)), .val (.long v6), .second, .val (.long v25), .second, .val (.long v26), .second]) rfl ?_
    exact k
  obtain ⟨v27, hv27, go57⟩ : ∃ v27 : Int64, v27 = (((0 : Int64) <<< ((32 : Int32) &&& 0x3f).toInt64) ||| v25) ∧ Go p e below A0 (s₁.setTop (mkF m 203 #[.val (.long q0), .second, .val (.long q1), .second, .val (.long q2), .second, .val (.int p3), .val (.long v1), .second, .val (.long v2), .second, .val (.long v3), .second, .val (.long v4), .second, .val (.long v5), .second, .val (.long v27), .second, .val (.int (0 : Int32)), .val (.long v6), .second, .val (.long v25), .second, .val (.long v26), .second] [])) := ⟨_, rfl, go56⟩
  have go58 : Go p e below A0 (s₁.setTop (mkF m 219 #[.val (.long q0), .second, .val (.long q1), .second, .val (.long q2), .second, .val (.int p3), .val (.long v1), .second, .val (.long v2), .second, .val (.long v3), .second, .val (.long (((v4 <<< ((32 : Int32) &&& 0x3f).toInt64) + v6) - (v25 * v1))), .second, .val (.long v5), .second, .val (.long v27), .second, .val (.int (0 : Int32)), .val (.long v6), .second, .val (.long v25), .second, .val (.long v26), .second] [])) := by
    intro t k
    refine go57 t ?_
    refine o_lload X0 hx hby d1_203 205 rfl rfl ?_
    refine o_bipush X0 hx hby d1_205 207 rfl (v := (32 : Int32)) rfl ?_
    refine o_lshl X0 hx hby d1_207 208 rfl ?_
    refine o_lload X0 hx hby d1_208 210 rfl rfl ?_
    refine o_ladd X0 hx hby d1_210 211 rfl ?_
    refine o_lload X0 hx hby d1_211 213 rfl rfl ?_
    refine o_lload X0 hx hby d1_213 215 rfl rfl ?_
    refine o_lmul X0 hx hby d1_215 216 rfl ?_
    refine o_lsub X0 hx hby d1_216 217 rfl ?_
    refine o_lstore X0 hx hby d1_217 219 rfl (l' := #[.val (.long q0), .second, .val (.long q1), .second, .val (.long q2), .second, .val (.int p3), .val (.long v1), .second, .val (.long v2), .second, .val (.long v3), .second, .val (.long (((v4 <<< ((32 : Int32) &&& 0x3f).toInt64) + v6) - (v25 * v1))), .second, .val (.long v5), .second, .val (.long v27), .second, .val (.int (0 : Int32)), .val (.long v6), .second, .val (.long v25), .second, .val (.long v26), .second]) rfl ?_
    exact k
  obtain ⟨v28, hv28, go59⟩ : ∃ v28 : Int64, v28 = (((v4 <<< ((32 : Int32) &&& 0x3f).toInt64) + v6) - (v25 * v1)) ∧ Go p e below A0 (s₁.setTop (mkF m 219 #[.val (.long q0), .second, .val (.long q1), .second, .val (.long q2), .second, .val (.int p3), .val (.long v1), .second, .val (.long v2), .second, .val (.long v3), .second, .val (.long v28), .second, .val (.long v5), .second, .val (.long v27), .second, .val (.int (0 : Int32)), .val (.long v6), .second, .val (.long v25), .second, .val (.long v26), .second] [])) := ⟨_, rfl, go58⟩
  have go60 : Go p e below A0 (s₁.setTop (mkF m 222 #[.val (.long q0), .second, .val (.long q1), .second, .val (.long q2), .second, .val (.int p3), .val (.long v1), .second, .val (.long v2), .second, .val (.long v3), .second, .val (.long v28), .second, .val (.long v5), .second, .val (.long v27), .second, .val (.int (1 : Int32)), .val (.long v6), .second, .val (.long v25), .second, .val (.long v26), .second] [])) := by
    intro t k
    refine go59 t ?_
    refine o_iinc X0 hx hby d1_219 222 rfl rfl (i := (1 : Int32)) rfl (l' := #[.val (.long q0), .second, .val (.long q1), .second, .val (.long q2), .second, .val (.int p3), .val (.long v1), .second, .val (.long v2), .second, .val (.long v3), .second, .val (.long v28), .second, .val (.long v5), .second, .val (.long v27), .second, .val (.int (1 : Int32)), .val (.long v6), .second, .val (.long v25), .second, .val (.long v26), .second]) rfl ?_
    exact k
  have go61 : Go p e below A0 (s₁.setTop (mkF m 84 #[.val (.long q0), .second, .val (.long q1), .second, .val (.long q2), .second, .val (.int p3), .val (.long v1), .second, .val (.long v2), .second, .val (.long v3), .second, .val (.long v28), .second, .val (.long v5), .second, .val (.long v27), .second, .val (.int (1 : Int32)), .val (.long (v5 &&& (4294967295 : Int64))), .second, .val (.long v25), .second, .val (.long v26), .second] [])) := by
    intro t k
    refine go60 t ?_
    refine o_goto X0 hx hby d1_222 57 rfl ?_
    refine o_iload X0 hx hby d1_57 59 rfl rfl ?_
    refine o_iconst X0 hx hby d1_59 60 rfl (v := (2 : Int32)) rfl ?_
    refine o_icmpN X0 hx hby d1_60 63 rfl (tlt (show (1 : Int32) < (2 : Int32) by decide)).2.1 ?_
    refine o_iload X0 hx hby d1_63 65 rfl rfl ?_
    refine o_ifY X0 hx hby d1_65 76 rfl (feq (show ¬ ((1 : Int32) = (0 : Int32)) by decide)).2 ?_
    refine o_lload X0 hx hby d1_76 78 rfl rfl ?_
    refine o_ldc2Long X0 hx hby hown (mvT hZ (hw _ (List.mem_of_getElem? (i := 6) rfl))) d1_78 81 rfl ?_
    refine o_land X0 hx hby d1_81 82 rfl ?_
    refine o_lstore X0 hx hby d1_82 84 rfl (l' := #[.val (.long q0), .second, .val (.long q1), .second, .val (.long q2), .second, .val (.int p3), .val (.long v1), .second, .val (.long v2), .second, .val (.long v3), .second, .val (.long v28), .second, .val (.long v5), .second, .val (.long v27), .second, .val (.int (1 : Int32)), .val (.long (v5 &&& (4294967295 : Int64))), .second, .val (.long v25), .second, .val (.long v26), .second]) rfl ?_
    exact k
  obtain ⟨v29, hv29, go62⟩ : ∃ v29 : Int64, v29 = (v5 &&& (4294967295 : Int64)) ∧ Go p e below A0 (s₁.setTop (mkF m 84 #[.val (.long q0), .second, .val (.long q1), .second, .val (.long q2), .second, .val (.int p3), .val (.long v1), .second, .val (.long v2), .second, .val (.long v3), .second, .val (.long v28), .second, .val (.long v5), .second, .val (.long v27), .second, .val (.int (1 : Int32)), .val (.long v29), .second, .val (.long v25), .second, .val (.long v26), .second] [])) := ⟨_, rfl, go61⟩
  have go63 : Go p e below A0 (s₁.setTop (mkF m 90 #[.val (.long q0), .second, .val (.long q1), .second, .val (.long q2), .second, .val (.int p3), .val (.long v1), .second, .val (.long v2), .second, .val (.long v3), .second, .val (.long v28), .second, .val (.long v5), .second, .val (.long v27), .second, .val (.int (1 : Int32)), .val (.long v29), .second, .val (.long v25), .second, .val (.long v26), .second] [(.long v2), (.long ((v28.toUInt64 >>> ((1 : Int32) &&& 0x3f).toInt64.toUInt64).toInt64))])) := by
    intro t k
    refine go62 t ?_
    refine o_lload X0 hx hby d1_84 86 rfl rfl ?_
    refine o_iconst X0 hx hby d1_86 87 rfl (v := (1 : Int32)) rfl ?_
    refine o_lushr X0 hx hby d1_87 88 rfl ?_
    refine o_lload X0 hx hby d1_88 90 rfl rfl ?_
    exact k
  have f_nz90_6 : ¬ (v2 = (0 : Int64)) := pf1_nz90_5 q0 q1 q2 p3 hq v1 v2 v3 v4 v5 v6 v7 v8 v9 v10 v25 v26 v27 v28 v29 hv1 hv2 hv3 hv4 hv5 hv6 hv7 hv8 hv9 hv10 hv25 hv26 hv27 hv28 hv29
  have go64 : Go p e below A0 (s₁.setTop (mkF m 95 #[.val (.long q0), .second, .val (.long q1), .second, .val (.long q2), .second, .val (.int p3), .val (.long v1), .second, .val (.long v2), .second, .val (.long v3), .second, .val (.long v28), .second, .val (.long v5), .second, .val (.long v27), .second, .val (.int (1 : Int32)), .val (.long v29), .second, .val (.long ((((v28.toUInt64 >>> ((1 : Int32) &&& 0x3f).toInt64.toUInt64).toInt64) / v2) <<< ((1 : Int32) &&& 0x3f).toInt64)), .second, .val (.long v26), .second] [])) := by
    intro t k
    refine go63 t ?_
    refine o_ldiv X0 hx hby d1_90 91 rfl f_nz90_6 ?_
    refine o_iconst X0 hx hby d1_91 92 rfl (v := (1 : Int32)) rfl ?_
    refine o_lshl X0 hx hby d1_92 93 rfl ?_
    refine o_lstore X0 hx hby d1_93 95 rfl (l' := #[.val (.long q0), .second, .val (.long q1), .second, .val (.long q2), .second, .val (.int p3), .val (.long v1), .second, .val (.long v2), .second, .val (.long v3), .second, .val (.long v28), .second, .val (.long v5), .second, .val (.long v27), .second, .val (.int (1 : Int32)), .val (.long v29), .second, .val (.long ((((v28.toUInt64 >>> ((1 : Int32) &&& 0x3f).toInt64.toUInt64).toInt64) / v2) <<< ((1 : Int32) &&& 0x3f).toInt64)), .second, .val (.long v26), .second]) rfl ?_
    exact k
  obtain ⟨v30, hv30, go65⟩ : ∃ v30 : Int64, v30 = ((((v28.toUInt64 >>> ((1 : Int32) &&& 0x3f).toInt64.toUInt64).toInt64) / v2) <<< ((1 : Int32) &&& 0x3f).toInt64) ∧ Go p e below A0 (s₁.setTop (mkF m 95 #[.val (.long q0), .second, .val (.long q1), .second, .val (.long q2), .second, .val (.int p3), .val (.long v1), .second, .val (.long v2), .second, .val (.long v3), .second, .val (.long v28), .second, .val (.long v5), .second, .val (.long v27), .second, .val (.int (1 : Int32)), .val (.long v29), .second, .val (.long v30), .second, .val (.long v26), .second] [])) := ⟨_, rfl, go64⟩
  have go66 : Go p e below A0 (s₁.setTop (mkF m 105 #[.val (.long q0), .second, .val (.long q1), .second, .val (.long q2), .second, .val (.int p3), .val (.long v1), .second, .val (.long v2), .second, .val (.long v3), .second, .val (.long v28), .second, .val (.long v5), .second, .val (.long v27), .second, .val (.int (1 : Int32)), .val (.long v29), .second, .val (.long v30), .second, .val (.long (v28 - (v30 * v2))), .second] [])) := by
    intro t k
    refine go65 t ?_
    refine o_lload X0 hx hby d1_95 97 rfl rfl ?_
    refine o_lload X0 hx hby d1_97 99 rfl rfl ?_
    refine o_lload X0 hx hby d1_99 101 rfl rfl ?_
    refine o_lmul X0 hx hby d1_101 102 rfl ?_
    refine o_lsub X0 hx hby d1_102 103 rfl ?_
    refine o_lstore X0 hx hby d1_103 105 rfl (l' := #[.val (.long q0), .second, .val (.long q1), .second, .val (.long q2), .second, .val (.int p3), .val (.long v1), .second, .val (.long v2), .second, .val (.long v3), .second, .val (.long v28), .second, .val (.long v5), .second, .val (.long v27), .second, .val (.int (1 : Int32)), .val (.long v29), .second, .val (.long v30), .second, .val (.long (v28 - (v30 * v2))), .second]) rfl ?_
    exact k
  obtain ⟨v31, hv31, go67⟩ : ∃ v31 : Int64, v31 = (v28 - (v30 * v2)) ∧ Go p e below A0 (s₁.setTop (mkF m 105 #[.val (.long q0), .second, .val (.long q1), .second, .val (.long q2), .second, .val (.int p3), .val (.long v1), .second, .val (.long v2), .second, .val (.long v3), .second, .val (.long v28), .second, .val (.long v5), .second, .val (.long v27), .second, .val (.int (1 : Int32)), .val (.long v29), .second, .val (.long v30), .second, .val (.long v31), .second] [])) := ⟨_, rfl, go66⟩
  have go68 : Go p e below A0 (s₁.setTop (mkF m 118 #[.val (.long q0), .second, .val (.long q1), .second, .val (.long q2), .second, .val (.int p3), .val (.long v1), .second, .val (.long v2), .second, .val (.long v3), .second, .val (.long v28), .second, .val (.long v5), .second, .val (.long v27), .second, .val (.int (1 : Int32)), .val (.long v29), .second, .val (.long v30), .second, .val (.long v31), .second] [(.int (lcmpW (v31 + (-9223372036854775808 : Int64)) (v2 + (-9223372036854775808 : Int64))))])) := by
    intro t k
    refine go67 t ?_
    refine o_lload X0 hx hby d1_105 107 rfl rfl ?_
    refine o_ldc2Long X0 hx hby hown (mvT hZ (hw _ (List.mem_of_getElem? (i := 7) rfl))) d1_107 110 rfl ?_
    refine o_ladd X0 hx hby d1_110 111 rfl ?_
    refine o_lload X0 hx hby d1_111 113 rfl rfl ?_
    refine o_ldc2Long X0 hx hby hown (mvT hZ (hw _ (List.mem_of_getElem? (i := 7) rfl))) d1_113 116 rfl ?_
    refine o_ladd X0 hx hby d1_116 117 rfl ?_
    refine o_lcmp X0 hx hby d1_117 118 rfl ?_
    exact k
  obtain ⟨v32, v33, hv32, hv33, go71⟩ : ∃ (v32 : Int64) (v33 : Int64), v32 = (if (v31 + (-9223372036854775808 : Int64)) < (v2 + (-9223372036854775808 : Int64)) then v30 else (v30 + (1 : Int64))) ∧ v33 = (if (v31 + (-9223372036854775808 : Int64)) < (v2 + (-9223372036854775808 : Int64)) then v31 else (v31 - v2)) ∧ Go p e below A0 (s₁.setTop (mkF m 134 #[.val (.long q0), .second, .val (.long q1), .second, .val (.long q2), .second, .val (.int p3), .val (.long v1), .second, .val (.long v2), .second, .val (.long v3), .second, .val (.long v28), .second, .val (.long v5), .second, .val (.long v27), .second, .val (.int (1 : Int32)), .val (.long v29), .second, .val (.long v32), .second, .val (.long v33), .second] [])) := by
    by_cases hc118_11 : (v31 + (-9223372036854775808 : Int64)) < (v2 + (-9223372036854775808 : Int64))
    · have go69 : Go p e below A0 (s₁.setTop (mkF m 134 #[.val (.long q0), .second, .val (.long q1), .second, .val (.long q2), .second, .val (.int p3), .val (.long v1), .second, .val (.long v2), .second, .val (.long v3), .second, .val (.long v28), .second, .val (.long v5), .second, .val (.long v27), .second, .val (.int (1 : Int32)), .val (.long v29), .second, .val (.long v30), .second, .val (.long v31), .second] [])) := by
        intro t k
        refine go68 t ?_
        refine o_ifY X0 hx hby d1_118 134 rfl (tlt ((lw_lt (v31 + (-9223372036854775808 : Int64)) (v2 + (-9223372036854775808 : Int64))).mpr hc118_11)).1 ?_
        exact k
      exact ⟨v30, v31, (if_pos hc118_11).symm, (if_pos hc118_11).symm, go69⟩
    · have go70 : Go p e below A0 (s₁.setTop (mkF m 134 #[.val (.long q0), .second, .val (.long q1), .second, .val (.long q2), .second, .val (.int p3), .val (.long v1), .second, .val (.long v2), .second, .val (.long v3), .second, .val (.long v28), .second, .val (.long v5), .second, .val (.long v27), .second, .val (.int (1 : Int32)), .val (.long v29), .second, .val (.long (v30 + (1 : Int64))), .second, .val (.long (v31 - v2)), .second] [])) := by
        intro t k
        refine go68 t ?_
        refine o_ifN X0 hx hby d1_118 121 rfl (flt (fun q => hc118_11 ((lw_lt (v31 + (-9223372036854775808 : Int64)) (v2 + (-9223372036854775808 : Int64))).mp q))).1 ?_
        refine o_lload X0 hx hby d1_121 123 rfl rfl ?_
        refine o_lconst X0 hx hby d1_123 124 rfl (v := (1 : Int64)) rfl ?_
        refine o_ladd X0 hx hby d1_124 125 rfl ?_
        refine o_lstore X0 hx hby d1_125 127 rfl (l' := #[.val (.long q0), .second, .val (.long q1), .second, .val (.long q2), .second, .val (.int p3), .val (.long v1), .second, .val (.long v2), .second, .val (.long v3), .second, .val (.long v28), .second, .val (.long v5), .second, .val (.long v27), .second, .val (.int (1 : Int32)), .val (.long v29), .second, .val (.long (v30 + (1 : Int64))), .second, .val (.long v31), .second]) rfl ?_
        refine o_lload X0 hx hby d1_127 129 rfl rfl ?_
        refine o_lload X0 hx hby d1_129 131 rfl rfl ?_
        refine o_lsub X0 hx hby d1_131 132 rfl ?_
        refine o_lstore X0 hx hby d1_132 134 rfl (l' := #[.val (.long q0), .second, .val (.long q1), .second, .val (.long q2), .second, .val (.int p3), .val (.long v1), .second, .val (.long v2), .second, .val (.long v3), .second, .val (.long v28), .second, .val (.long v5), .second, .val (.long v27), .second, .val (.int (1 : Int32)), .val (.long v29), .second, .val (.long (v30 + (1 : Int64))), .second, .val (.long (v31 - v2)), .second]) rfl ?_
        exact k
      exact ⟨(v30 + (1 : Int64)), (v31 - v2), (if_neg hc118_11).symm, (if_neg hc118_11).symm, go70⟩
  have go72 : Go p e below A0 (s₁.setTop (mkF m 140 #[.val (.long q0), .second, .val (.long q1), .second, .val (.long q2), .second, .val (.int p3), .val (.long v1), .second, .val (.long v2), .second, .val (.long v3), .second, .val (.long v28), .second, .val (.long v5), .second, .val (.long v27), .second, .val (.int (1 : Int32)), .val (.long v29), .second, .val (.long v32), .second, .val (.long v33), .second] [(.int (lcmpW v32 (4294967295 : Int64)))])) := by
    intro t k
    refine go71 t ?_
    refine o_lload X0 hx hby d1_134 136 rfl rfl ?_
    refine o_ldc2Long X0 hx hby hown (mvT hZ (hw _ (List.mem_of_getElem? (i := 6) rfl))) d1_136 139 rfl ?_
    refine o_lcmp X0 hx hby d1_139 140 rfl ?_
    exact k
  obtain ⟨v48, v49, hv48, hv49, go100⟩ : ∃ (v48 : Int64) (v49 : Int64), v48 = (if (4294967295 : Int64) < v32 then (if (4294967295 : Int64) < (v33 + v2) then (v32 - (1 : Int64)) else (if (4294967295 : Int64) < (v32 - (1 : Int64)) then ((v32 - (1 : Int64)) - (1 : Int64)) else (if ((((v33 + v2) <<< ((32 : Int32) &&& 0x3f).toInt64) ||| v29) + (-9223372036854775808 : Int64)) < (((v32 - (1 : Int64)) * v3) + (-9223372036854775808 : Int64)) then ((v32 - (1 : Int64)) - (1 : Int64)) else (v32 - (1 : Int64))))) else (if (((v33 <<< ((32 : Int32) &&& 0x3f).toInt64) ||| v29) + (-9223372036854775808 : Int64)) < ((v32 * v3) + (-9223372036854775808 : Int64)) then (if (4294967295 : Int64) < (v33 + v2) then (v32 - (1 : Int64)) else (if (4294967295 : Int64) < (v32 - (1 : Int64)) then ((v32 - (1 : Int64)) - (1 : Int64)) else (if ((((v33 + v2) <<< ((32 : Int32) &&& 0x3f).toInt64) ||| v29) + (-9223372036854775808 : Int64)) < (((v32 - (1 : Int64)) * v3) + (-9223372036854775808 : Int64)) then ((v32 - (1 : Int64)) - (1 : Int64)) else (v32 - (1 : Int64))))) else v32)) ∧ v49 = (if (4294967295 : Int64) < v32 then (if (4294967295 : Int64) < (v33 + v2) then (v33 + v2) else (if (4294967295 : Int64) < (v32 - (1 : Int64)) then ((v33 + v2) + v2) else (if ((((v33 + v2) <<< ((32 : Int32) &&& 0x3f).toInt64) ||| v29) + (-9223372036854775808 : Int64)) < (((v32 - (1 : Int64)) * v3) + (-9223372036854775808 : Int64)) then ((v33 + v2) + v2) else (v33 + v2)))) else (if (((v33 <<< ((32 : Int32) &&& 0x3f).toInt64) ||| v29) + (-9223372036854775808 : Int64)) < ((v32 * v3) + (-9223372036854775808 : Int64)) then (if (4294967295 : Int64) < (v33 + v2) then (v33 + v2) else (if (4294967295 : Int64) < (v32 - (1 : Int64)) then ((v33 + v2) + v2) else (if ((((v33 + v2) <<< ((32 : Int32) &&& 0x3f).toInt64) ||| v29) + (-9223372036854775808 : Int64)) < (((v32 - (1 : Int64)) * v3) + (-9223372036854775808 : Int64)) then ((v33 + v2) + v2) else (v33 + v2)))) else v33)) ∧ Go p e below A0 (s₁.setTop (mkF m 193 #[.val (.long q0), .second, .val (.long q1), .second, .val (.long q2), .second, .val (.int p3), .val (.long v1), .second, .val (.long v2), .second, .val (.long v3), .second, .val (.long v28), .second, .val (.long v5), .second, .val (.long v27), .second, .val (.int (1 : Int32)), .val (.long v29), .second, .val (.long v48), .second, .val (.long v49), .second] [])) := by
    by_cases hc140_12 : (4294967295 : Int64) < v32
    · have go73 : Go p e below A0 (s₁.setTop (mkF m 187 #[.val (.long q0), .second, .val (.long q1), .second, .val (.long q2), .second, .val (.int p3), .val (.long v1), .second, .val (.long v2), .second, .val (.long v3), .second, .val (.long v28), .second, .val (.long v5), .second, .val (.long v27), .second, .val (.int (1 : Int32)), .val (.long v29), .second, .val (.long (v32 - (1 : Int64))), .second, .val (.long (v33 + v2)), .second] [(.int (lcmpW (v33 + v2) (4294967295 : Int64)))])) := by
        intro t k
        refine go72 t ?_
        refine o_ifY X0 hx hby d1_140 168 rfl (tlt ((lw_gt v32 (4294967295 : Int64)).mpr hc140_12)).2.2.1 ?_
        refine o_lload X0 hx hby d1_168 170 rfl rfl ?_
        refine o_lconst X0 hx hby d1_170 171 rfl (v := (1 : Int64)) rfl ?_
        refine o_lsub X0 hx hby d1_171 172 rfl ?_
        refine o_lstore X0 hx hby d1_172 174 rfl (l' := #[.val (.long q0), .second, .val (.long q1), .second, .val (.long q2), .second, .val (.int p3), .val (.long v1), .second, .val (.long v2), .second, .val (.long v3), .second, .val (.long v28), .second, .val (.long v5), .second, .val (.long v27), .second, .val (.int (1 : Int32)), .val (.long v29), .second, .val (.long (v32 - (1 : Int64))), .second, .val (.long v33), .second]) rfl ?_
        refine o_lload X0 hx hby d1_174 176 rfl rfl ?_
        refine o_lload X0 hx hby d1_176 178 rfl rfl ?_
        refine o_ladd X0 hx hby d1_178 179 rfl ?_
        refine o_lstore X0 hx hby d1_179 181 rfl (l' := #[.val (.long q0), .second, .val (.long q1), .second, .val (.long q2), .second, .val (.int p3), .val (.long v1), .second, .val (.long v2), .second, .val (.long v3), .second, .val (.long v28), .second, .val (.long v5), .second, .val (.long v27), .second, .val (.int (1 : Int32)), .val (.long v29), .second, .val (.long (v32 - (1 : Int64))), .second, .val (.long (v33 + v2)), .second]) rfl ?_
        refine o_lload X0 hx hby d1_181 183 rfl rfl ?_
        refine o_ldc2Long X0 hx hby hown (mvT hZ (hw _ (List.mem_of_getElem? (i := 6) rfl))) d1_183 186 rfl ?_
        refine o_lcmp X0 hx hby d1_186 187 rfl ?_
        exact k
      obtain ⟨v38, v39, hv38, hv39, go84⟩ : ∃ (v38 : Int64) (v39 : Int64), v38 = (if (4294967295 : Int64) < (v33 + v2) then (v32 - (1 : Int64)) else (if (4294967295 : Int64) < (v32 - (1 : Int64)) then ((v32 - (1 : Int64)) - (1 : Int64)) else (if ((((v33 + v2) <<< ((32 : Int32) &&& 0x3f).toInt64) ||| v29) + (-9223372036854775808 : Int64)) < (((v32 - (1 : Int64)) * v3) + (-9223372036854775808 : Int64)) then ((v32 - (1 : Int64)) - (1 : Int64)) else (v32 - (1 : Int64))))) ∧ v39 = (if (4294967295 : Int64) < (v33 + v2) then (v33 + v2) else (if (4294967295 : Int64) < (v32 - (1 : Int64)) then ((v33 + v2) + v2) else (if ((((v33 + v2) <<< ((32 : Int32) &&& 0x3f).toInt64) ||| v29) + (-9223372036854775808 : Int64)) < (((v32 - (1 : Int64)) * v3) + (-9223372036854775808 : Int64)) then ((v33 + v2) + v2) else (v33 + v2)))) ∧ Go p e below A0 (s₁.setTop (mkF m 193 #[.val (.long q0), .second, .val (.long q1), .second, .val (.long q2), .second, .val (.int p3), .val (.long v1), .second, .val (.long v2), .second, .val (.long v3), .second, .val (.long v28), .second, .val (.long v5), .second, .val (.long v27), .second, .val (.int (1 : Int32)), .val (.long v29), .second, .val (.long v38), .second, .val (.long v39), .second] [])) := by
        by_cases hc187_13 : (4294967295 : Int64) < (v33 + v2)
        · have go74 : Go p e below A0 (s₁.setTop (mkF m 193 #[.val (.long q0), .second, .val (.long q1), .second, .val (.long q2), .second, .val (.int p3), .val (.long v1), .second, .val (.long v2), .second, .val (.long v3), .second, .val (.long v28), .second, .val (.long v5), .second, .val (.long v27), .second, .val (.int (1 : Int32)), .val (.long v29), .second, .val (.long (v32 - (1 : Int64))), .second, .val (.long (v33 + v2)), .second] [])) := by
            intro t k
            refine go73 t ?_
            refine o_ifN X0 hx hby d1_187 190 rfl (tlt ((lw_gt (v33 + v2) (4294967295 : Int64)).mpr hc187_13)).2.2.2 ?_
            refine o_goto X0 hx hby d1_190 193 rfl ?_
            exact k
          exact ⟨(v32 - (1 : Int64)), (v33 + v2), (if_pos hc187_13).symm, (if_pos hc187_13).symm, go74⟩
        · have go75 : Go p e below A0 (s₁.setTop (mkF m 140 #[.val (.long q0), .second, .val (.long q1), .second, .val (.long q2), .second, .val (.int p3), .val (.long v1), .second, .val (.long v2), .second, .val (.long v3), .second, .val (.long v28), .second, .val (.long v5), .second, .val (.long v27), .second, .val (.int (1 : Int32)), .val (.long v29), .second, .val (.long (v32 - (1 : Int64))), .second, .val (.long (v33 + v2)), .second] [(.int (lcmpW (v32 - (1 : Int64)) (4294967295 : Int64)))])) := by
            intro t k
            refine go73 t ?_
            refine o_ifY X0 hx hby d1_187 134 rfl (flt (fun q => hc187_13 ((lw_gt (v33 + v2) (4294967295 : Int64)).mp q))).2.2.2 ?_
            refine o_lload X0 hx hby d1_134 136 rfl rfl ?_
            refine o_ldc2Long X0 hx hby hown (mvT hZ (hw _ (List.mem_of_getElem? (i := 6) rfl))) d1_136 139 rfl ?_
            refine o_lcmp X0 hx hby d1_139 140 rfl ?_
            exact k
          obtain ⟨v36, v37, hv36, hv37, go83⟩ : ∃ (v36 : Int64) (v37 : Int64), v36 = (if (4294967295 : Int64) < (v32 - (1 : Int64)) then ((v32 - (1 : Int64)) - (1 : Int64)) else (if ((((v33 + v2) <<< ((32 : Int32) &&& 0x3f).toInt64) ||| v29) + (-9223372036854775808 : Int64)) < (((v32 - (1 : Int64)) * v3) + (-9223372036854775808 : Int64)) then ((v32 - (1 : Int64)) - (1 : Int64)) else (v32 - (1 : Int64)))) ∧ v37 = (if (4294967295 : Int64) < (v32 - (1 : Int64)) then ((v33 + v2) + v2) else (if ((((v33 + v2) <<< ((32 : Int32) &&& 0x3f).toInt64) ||| v29) + (-9223372036854775808 : Int64)) < (((v32 - (1 : Int64)) * v3) + (-9223372036854775808 : Int64)) then ((v33 + v2) + v2) else (v33 + v2))) ∧ Go p e below A0 (s₁.setTop (mkF m 193 #[.val (.long q0), .second, .val (.long q1), .second, .val (.long q2), .second, .val (.int p3), .val (.long v1), .second, .val (.long v2), .second, .val (.long v3), .second, .val (.long v28), .second, .val (.long v5), .second, .val (.long v27), .second, .val (.int (1 : Int32)), .val (.long v29), .second, .val (.long v36), .second, .val (.long v37), .second] [])) := by
            by_cases hc140_14 : (4294967295 : Int64) < (v32 - (1 : Int64))
            · have go76 : Go p e below A0 (s₁.setTop (mkF m 187 #[.val (.long q0), .second, .val (.long q1), .second, .val (.long q2), .second, .val (.int p3), .val (.long v1), .second, .val (.long v2), .second, .val (.long v3), .second, .val (.long v28), .second, .val (.long v5), .second, .val (.long v27), .second, .val (.int (1 : Int32)), .val (.long v29), .second, .val (.long ((v32 - (1 : Int64)) - (1 : Int64))), .second, .val (.long ((v33 + v2) + v2)), .second] [(.int (lcmpW ((v33 + v2) + v2) (4294967295 : Int64)))])) := by
                intro t k
                refine go75 t ?_
                refine o_ifY X0 hx hby d1_140 168 rfl (tlt ((lw_gt (v32 - (1 : Int64)) (4294967295 : Int64)).mpr hc140_14)).2.2.1 ?_
                refine o_lload X0 hx hby d1_168 170 rfl rfl ?_
                refine o_lconst X0 hx hby d1_170 171 rfl (v := (1 : Int64)) rfl ?_
                refine o_lsub X0 hx hby d1_171 172 rfl ?_
                refine o_lstore X0 hx hby d1_172 174 rfl (l' := #[.val (.long q0), .second, .val (.long q1), .second, .val (.long q2), .second, .val (.int p3), .val (.long v1), .second, .val (.long v2), .second, .val (.long v3), .second, .val (.long v28), .second, .val (.long v5), .second, .val (.long v27), .second, .val (.int (1 : Int32)), .val (.long v29), .second, .val (.long ((v32 - (1 : Int64)) - (1 : Int64))), .second, .val (.long (v33 + v2)), .second]) rfl ?_
                refine o_lload X0 hx hby d1_174 176 rfl rfl ?_
                refine o_lload X0 hx hby d1_176 178 rfl rfl ?_
                refine o_ladd X0 hx hby d1_178 179 rfl ?_
                refine o_lstore X0 hx hby d1_179 181 rfl (l' := #[.val (.long q0), .second, .val (.long q1), .second, .val (.long q2), .second, .val (.int p3), .val (.long v1), .second, .val (.long v2), .second, .val (.long v3), .second, .val (.long v28), .second, .val (.long v5), .second, .val (.long v27), .second, .val (.int (1 : Int32)), .val (.long v29), .second, .val (.long ((v32 - (1 : Int64)) - (1 : Int64))), .second, .val (.long ((v33 + v2) + v2)), .second]) rfl ?_
                refine o_lload X0 hx hby d1_181 183 rfl rfl ?_
                refine o_ldc2Long X0 hx hby hown (mvT hZ (hw _ (List.mem_of_getElem? (i := 6) rfl))) d1_183 186 rfl ?_
                refine o_lcmp X0 hx hby d1_186 187 rfl ?_
                exact k
              have f_c187_7 : (4294967295 : Int64) < ((v33 + v2) + v2) := pf1_c187_6 q0 q1 q2 p3 hq v1 v2 v3 v4 v5 v6 v7 v8 v9 v10 v25 v26 v27 v28 v29 v30 v31 v32 v33 hv1 hv2 hv3 hv4 hv5 hv6 hv7 hv8 hv9 hv10 hv25 hv26 hv27 hv28 hv29 hv30 hv31 hv32 hv33 hc140_12 hc187_13 hc140_14
              have go77 : Go p e below A0 (s₁.setTop (mkF m 193 #[.val (.long q0), .second, .val (.long q1), .second, .val (.long q2), .second, .val (.int p3), .val (.long v1), .second, .val (.long v2), .second, .val (.long v3), .second, .val (.long v28), .second, .val (.long v5), .second, .val (.long v27), .second, .val (.int (1 : Int32)), .val (.long v29), .second, .val (.long ((v32 - (1 : Int64)) - (1 : Int64))), .second, .val (.long ((v33 + v2) + v2)), .second] [])) := by
                intro t k
                refine go76 t ?_
                refine o_ifN X0 hx hby d1_187 190 rfl (tlt ((lw_gt ((v33 + v2) + v2) (4294967295 : Int64)).mpr (f_c187_7))).2.2.2 ?_
                refine o_goto X0 hx hby d1_190 193 rfl ?_
                exact k
              exact ⟨((v32 - (1 : Int64)) - (1 : Int64)), ((v33 + v2) + v2), (if_pos hc140_14).symm, (if_pos hc140_14).symm, go77⟩
            · have go78 : Go p e below A0 (s₁.setTop (mkF m 165 #[.val (.long q0), .second, .val (.long q1), .second, .val (.long q2), .second, .val (.int p3), .val (.long v1), .second, .val (.long v2), .second, .val (.long v3), .second, .val (.long v28), .second, .val (.long v5), .second, .val (.long v27), .second, .val (.int (1 : Int32)), .val (.long v29), .second, .val (.long (v32 - (1 : Int64))), .second, .val (.long (v33 + v2)), .second] [(.int (lcmpW (((v32 - (1 : Int64)) * v3) + (-9223372036854775808 : Int64)) ((((v33 + v2) <<< ((32 : Int32) &&& 0x3f).toInt64) ||| v29) + (-9223372036854775808 : Int64))))])) := by
                intro t k
                refine go75 t ?_
                refine o_ifN X0 hx hby d1_140 143 rfl (flt (fun q => hc140_14 ((lw_gt (v32 - (1 : Int64)) (4294967295 : Int64)).mp q))).2.2.1 ?_
                refine o_lload X0 hx hby d1_143 145 rfl rfl ?_
                refine o_lload X0 hx hby d1_145 147 rfl rfl ?_
                refine o_lmul X0 hx hby d1_147 148 rfl ?_
                refine o_ldc2Long X0 hx hby hown (mvT hZ (hw _ (List.mem_of_getElem? (i := 7) rfl))) d1_148 151 rfl ?_
                refine o_ladd X0 hx hby d1_151 152 rfl ?_
                refine o_lload X0 hx hby d1_152 154 rfl rfl ?_
                refine o_bipush X0 hx hby d1_154 156 rfl (v := (32 : Int32)) rfl ?_
                refine o_lshl X0 hx hby d1_156 157 rfl ?_
                refine o_lload X0 hx hby d1_157 159 rfl rfl ?_
                refine o_lor X0 hx hby d1_159 160 rfl ?_
                refine o_ldc2Long X0 hx hby hown (mvT hZ (hw _ (List.mem_of_getElem? (i := 7) rfl))) d1_160 163 rfl ?_
                refine o_ladd X0 hx hby d1_163 164 rfl ?_
                refine o_lcmp X0 hx hby d1_164 165 rfl ?_
                exact k
              obtain ⟨v34, v35, hv34, hv35, go82⟩ : ∃ (v34 : Int64) (v35 : Int64), v34 = (if ((((v33 + v2) <<< ((32 : Int32) &&& 0x3f).toInt64) ||| v29) + (-9223372036854775808 : Int64)) < (((v32 - (1 : Int64)) * v3) + (-9223372036854775808 : Int64)) then ((v32 - (1 : Int64)) - (1 : Int64)) else (v32 - (1 : Int64))) ∧ v35 = (if ((((v33 + v2) <<< ((32 : Int32) &&& 0x3f).toInt64) ||| v29) + (-9223372036854775808 : Int64)) < (((v32 - (1 : Int64)) * v3) + (-9223372036854775808 : Int64)) then ((v33 + v2) + v2) else (v33 + v2)) ∧ Go p e below A0 (s₁.setTop (mkF m 193 #[.val (.long q0), .second, .val (.long q1), .second, .val (.long q2), .second, .val (.int p3), .val (.long v1), .second, .val (.long v2), .second, .val (.long v3), .second, .val (.long v28), .second, .val (.long v5), .second, .val (.long v27), .second, .val (.int (1 : Int32)), .val (.long v29), .second, .val (.long v34), .second, .val (.long v35), .second] [])) := by
                by_cases hc165_15 : ((((v33 + v2) <<< ((32 : Int32) &&& 0x3f).toInt64) ||| v29) + (-9223372036854775808 : Int64)) < (((v32 - (1 : Int64)) * v3) + (-9223372036854775808 : Int64))
                · have go79 : Go p e below A0 (s₁.setTop (mkF m 187 #[.val (.long q0), .second, .val (.long q1), .second, .val (.long q2), .second, .val (.int p3), .val (.long v1), .second, .val (.long v2), .second, .val (.long v3), .second, .val (.long v28), .second, .val (.long v5), .second, .val (.long v27), .second, .val (.int (1 : Int32)), .val (.long v29), .second, .val (.long ((v32 - (1 : Int64)) - (1 : Int64))), .second, .val (.long ((v33 + v2) + v2)), .second] [(.int (lcmpW ((v33 + v2) + v2) (4294967295 : Int64)))])) := by
                    intro t k
                    refine go78 t ?_
                    refine o_ifN X0 hx hby d1_165 168 rfl (tlt ((lw_gt (((v32 - (1 : Int64)) * v3) + (-9223372036854775808 : Int64)) ((((v33 + v2) <<< ((32 : Int32) &&& 0x3f).toInt64) ||| v29) + (-9223372036854775808 : Int64))).mpr hc165_15)).2.2.2 ?_
                    refine o_lload X0 hx hby d1_168 170 rfl rfl ?_
                    refine o_lconst X0 hx hby d1_170 171 rfl (v := (1 : Int64)) rfl ?_
                    refine o_lsub X0 hx hby d1_171 172 rfl ?_
                    refine o_lstore X0 hx hby d1_172 174 rfl (l' := #[.val (.long q0), .second, .val (.long q1), .second, .val (.long q2), .second, .val (.int p3), .val (.long v1), .second, .val (.long v2), .second, .val (.long v3), .second, .val (.long v28), .second, .val (.long v5), .second, .val (.long v27), .second, .val (.int (1 : Int32)), .val (.long v29), .second, .val (.long ((v32 - (1 : Int64)) - (1 : Int64))), .second, .val (.long (v33 + v2)), .second]) rfl ?_
                    refine o_lload X0 hx hby d1_174 176 rfl rfl ?_
                    refine o_lload X0 hx hby d1_176 178 rfl rfl ?_
                    refine o_ladd X0 hx hby d1_178 179 rfl ?_
                    refine o_lstore X0 hx hby d1_179 181 rfl (l' := #[.val (.long q0), .second, .val (.long q1), .second, .val (.long q2), .second, .val (.int p3), .val (.long v1), .second, .val (.long v2), .second, .val (.long v3), .second, .val (.long v28), .second, .val (.long v5), .second, .val (.long v27), .second, .val (.int (1 : Int32)), .val (.long v29), .second, .val (.long ((v32 - (1 : Int64)) - (1 : Int64))), .second, .val (.long ((v33 + v2) + v2)), .second]) rfl ?_
                    refine o_lload X0 hx hby d1_181 183 rfl rfl ?_
                    refine o_ldc2Long X0 hx hby hown (mvT hZ (hw _ (List.mem_of_getElem? (i := 6) rfl))) d1_183 186 rfl ?_
                    refine o_lcmp X0 hx hby d1_186 187 rfl ?_
                    exact k
                  have f_c187_8 : (4294967295 : Int64) < ((v33 + v2) + v2) := pf1_c187_7 q0 q1 q2 p3 hq v1 v2 v3 v4 v5 v6 v7 v8 v9 v10 v25 v26 v27 v28 v29 v30 v31 v32 v33 hv1 hv2 hv3 hv4 hv5 hv6 hv7 hv8 hv9 hv10 hv25 hv26 hv27 hv28 hv29 hv30 hv31 hv32 hv33 hc140_12 hc187_13 hc140_14 hc165_15
                  have go80 : Go p e below A0 (s₁.setTop (mkF m 193 #[.val (.long q0), .second, .val (.long q1), .second, .val (.long q2), .second, .val (.int p3), .val (.long v1), .second, .val (.long v2), .second, .val (.long v3), .second, .val (.long v28), .second, .val (.long v5), .second, .val (.long v27), .second, .val (.int (1 : Int32)), .val (.long v29), .second, .val (.long ((v32 - (1 : Int64)) - (1 : Int64))), .second, .val (.long ((v33 + v2) + v2)), .second] [])) := by
                    intro t k
                    refine go79 t ?_
                    refine o_ifN X0 hx hby d1_187 190 rfl (tlt ((lw_gt ((v33 + v2) + v2) (4294967295 : Int64)).mpr (f_c187_8))).2.2.2 ?_
                    refine o_goto X0 hx hby d1_190 193 rfl ?_
                    exact k
                  exact ⟨((v32 - (1 : Int64)) - (1 : Int64)), ((v33 + v2) + v2), (if_pos hc165_15).symm, (if_pos hc165_15).symm, go80⟩
                · have go81 : Go p e below A0 (s₁.setTop (mkF m 193 #[.val (.long q0), .second, .val (.long q1), .second, .val (.long q2), .second, .val (.int p3), .val (.long v1), .second, .val (.long v2), .second, .val (.long v3), .second, .val (.long v28), .second, .val (.long v5), .second, .val (.long v27), .second, .val (.int (1 : Int32)), .val (.long v29), .second, .val (.long (v32 - (1 : Int64))), .second, .val (.long (v33 + v2)), .second] [])) := by
                    intro t k
                    refine go78 t ?_
                    refine o_ifY X0 hx hby d1_165 193 rfl (flt (fun q => hc165_15 ((lw_gt (((v32 - (1 : Int64)) * v3) + (-9223372036854775808 : Int64)) ((((v33 + v2) <<< ((32 : Int32) &&& 0x3f).toInt64) ||| v29) + (-9223372036854775808 : Int64))).mp q))).2.2.2 ?_
                    exact k
                  exact ⟨(v32 - (1 : Int64)), (v33 + v2), (if_neg hc165_15).symm, (if_neg hc165_15).symm, go81⟩
              rw [hv34] at go82
              rw [hv35] at go82
              exact ⟨(if ((((v33 + v2) <<< ((32 : Int32) &&& 0x3f).toInt64) ||| v29) + (-9223372036854775808 : Int64)) < (((v32 - (1 : Int64)) * v3) + (-9223372036854775808 : Int64)) then ((v32 - (1 : Int64)) - (1 : Int64)) else (v32 - (1 : Int64))), (if ((((v33 + v2) <<< ((32 : Int32) &&& 0x3f).toInt64) ||| v29) + (-9223372036854775808 : Int64)) < (((v32 - (1 : Int64)) * v3) + (-9223372036854775808 : Int64)) then ((v33 + v2) + v2) else (v33 + v2)), (if_neg hc140_14).symm, (if_neg hc140_14).symm, go82⟩
          rw [hv36] at go83
          rw [hv37] at go83
          exact ⟨(if (4294967295 : Int64) < (v32 - (1 : Int64)) then ((v32 - (1 : Int64)) - (1 : Int64)) else (if ((((v33 + v2) <<< ((32 : Int32) &&& 0x3f).toInt64) ||| v29) + (-9223372036854775808 : Int64)) < (((v32 - (1 : Int64)) * v3) + (-9223372036854775808 : Int64)) then ((v32 - (1 : Int64)) - (1 : Int64)) else (v32 - (1 : Int64)))), (if (4294967295 : Int64) < (v32 - (1 : Int64)) then ((v33 + v2) + v2) else (if ((((v33 + v2) <<< ((32 : Int32) &&& 0x3f).toInt64) ||| v29) + (-9223372036854775808 : Int64)) < (((v32 - (1 : Int64)) * v3) + (-9223372036854775808 : Int64)) then ((v33 + v2) + v2) else (v33 + v2))), (if_neg hc187_13).symm, (if_neg hc187_13).symm, go83⟩
      rw [hv38] at go84
      rw [hv39] at go84
      exact ⟨(if (4294967295 : Int64) < (v33 + v2) then (v32 - (1 : Int64)) else (if (4294967295 : Int64) < (v32 - (1 : Int64)) then ((v32 - (1 : Int64)) - (1 : Int64)) else (if ((((v33 + v2) <<< ((32 : Int32) &&& 0x3f).toInt64) ||| v29) + (-9223372036854775808 : Int64)) < (((v32 - (1 : Int64)) * v3) + (-9223372036854775808 : Int64)) then ((v32 - (1 : Int64)) - (1 : Int64)) else (v32 - (1 : Int64))))), (if (4294967295 : Int64) < (v33 + v2) then (v33 + v2) else (if (4294967295 : Int64) < (v32 - (1 : Int64)) then ((v33 + v2) + v2) else (if ((((v33 + v2) <<< ((32 : Int32) &&& 0x3f).toInt64) ||| v29) + (-9223372036854775808 : Int64)) < (((v32 - (1 : Int64)) * v3) + (-9223372036854775808 : Int64)) then ((v33 + v2) + v2) else (v33 + v2)))), (if_pos hc140_12).symm, (if_pos hc140_12).symm, go84⟩
    · have go85 : Go p e below A0 (s₁.setTop (mkF m 165 #[.val (.long q0), .second, .val (.long q1), .second, .val (.long q2), .second, .val (.int p3), .val (.long v1), .second, .val (.long v2), .second, .val (.long v3), .second, .val (.long v28), .second, .val (.long v5), .second, .val (.long v27), .second, .val (.int (1 : Int32)), .val (.long v29), .second, .val (.long v32), .second, .val (.long v33), .second] [(.int (lcmpW ((v32 * v3) + (-9223372036854775808 : Int64)) (((v33 <<< ((32 : Int32) &&& 0x3f).toInt64) ||| v29) + (-9223372036854775808 : Int64))))])) := by
        intro t k
        refine go72 t ?_
        refine o_ifN X0 hx hby d1_140 143 rfl (flt (fun q => hc140_12 ((lw_gt v32 (4294967295 : Int64)).mp q))).2.2.1 ?_
        refine o_lload X0 hx hby d1_143 145 rfl rfl ?_
        refine o_lload X0 hx hby d1_145 147 rfl rfl ?_
        refine o_lmul X0 hx hby d1_147 148 rfl ?_
        refine o_ldc2Long X0 hx hby hown (mvT hZ (hw _ (List.mem_of_getElem? (i := 7) rfl))) d1_148 151 rfl ?_
        refine o_ladd X0 hx hby d1_151 152 rfl ?_
        refine o_lload X0 hx hby d1_152 154 rfl rfl ?_
        refine o_bipush X0 hx hby d1_154 156 rfl (v := (32 : Int32)) rfl ?_
        refine o_lshl X0 hx hby d1_156 157 rfl ?_
        refine o_lload X0 hx hby d1_157 159 rfl rfl ?_
        refine o_lor X0 hx hby d1_159 160 rfl ?_
        refine o_ldc2Long X0 hx hby hown (mvT hZ (hw _ (List.mem_of_getElem? (i := 7) rfl))) d1_160 163 rfl ?_
        refine o_ladd X0 hx hby d1_163 164 rfl ?_
        refine o_lcmp X0 hx hby d1_164 165 rfl ?_
        exact k
      obtain ⟨v46, v47, hv46, hv47, go99⟩ : ∃ (v46 : Int64) (v47 : Int64), v46 = (if (((v33 <<< ((32 : Int32) &&& 0x3f).toInt64) ||| v29) + (-9223372036854775808 : Int64)) < ((v32 * v3) + (-9223372036854775808 : Int64)) then (if (4294967295 : Int64) < (v33 + v2) then (v32 - (1 : Int64)) else (if (4294967295 : Int64) < (v32 - (1 : Int64)) then ((v32 - (1 : Int64)) - (1 : Int64)) else (if ((((v33 + v2) <<< ((32 : Int32) &&& 0x3f).toInt64) ||| v29) + (-9223372036854775808 : Int64)) < (((v32 - (1 : Int64)) * v3) + (-9223372036854775808 : Int64)) then ((v32 - (1 : Int64)) - (1 : Int64)) else (v32 - (1 : Int64))))) else v32) ∧ v47 = (if (((v33 <<< ((32 : Int32) &&& 0x3f).toInt64) ||| v29) + (-9223372036854775808 : Int64)) < ((v32 * v3) + (-9223372036854775808 : Int64)) then (if (4294967295 : Int64) < (v33 + v2) then (v33 + v2) else (if (4294967295 : Int64) < (v32 - (1 : Int64)) then ((v33 + v2) + v2) else (if ((((v33 + v2) <<< ((32 : Int32) &&& 0x3f).toInt64) ||| v29) + (-9223372036854775808 : Int64)) < (((v32 - (1 : Int64)) * v3) + (-9223372036854775808 : Int64)) then ((v33 + v2) + v2) else (v33 + v2)))) else v33) ∧ Go p e below A0 (s₁.setTop (mkF m 193 #[.val (.long q0), .second, .val (.long q1), .second, .val (.long q2), .second, .val (.int p3), .val (.long v1), .second, .val (.long v2), .second, .val (.long v3), .second, .val (.long v28), .second, .val (.long v5), .second, .val (.long v27), .second, .val (.int (1 : Int32)), .val (.long v29), .second, .val (.long v46), .second, .val (.long v47), .second] [])) := by
        by_cases hc165_16 : (((v33 <<< ((32 : Int32) &&& 0x3f).toInt64) ||| v29) + (-9223372036854775808 : Int64)) < ((v32 * v3) + (-9223372036854775808 : Int64))
        · have go86 : Go p e below A0 (s₁.setTop (mkF m 187 #[.val (.long q0), .second, .val (.long q1), .second, .val (.long q2), .second, .val (.int p3), .val (.long v1), .second, .val (.long v2), .second, .val (.long v3), .second, .val (.long v28), .second, .val (.long v5), .second, .val (.long v27), .second, .val (.int (1 : Int32)), .val (.long v29), .second, .val (.long (v32 - (1 : Int64))), .second, .val (.long (v33 + v2)), .second] [(.int (lcmpW (v33 + v2) (4294967295 : Int64)))])) := by
            intro t k
            refine go85 t ?_
            refine o_ifN X0 hx hby d1_165 168 rfl (tlt ((lw_gt ((v32 * v3) + (-9223372036854775808 : Int64)) (((v33 <<< ((32 : Int32) &&& 0x3f).toInt64) ||| v29) + (-9223372036854775808 : Int64))).mpr hc165_16)).2.2.2 ?_
            refine o_lload X0 hx hby d1_168 170 rfl rfl ?_
            refine o_lconst X0 hx hby d1_170 171 rfl (v := (1 : Int64)) rfl ?_
            refine o_lsub X0 hx hby d1_171 172 rfl ?_
            refine o_lstore X0 hx hby d1_172 174 rfl (l' := #[.val (.long q0), .second, .val (.long q1), .second, .val (.long q2), .second, .val (.int p3), .val (.long v1), .second, .val (.long v2), .second, .val (.long v3), .second, .val (.long v28), .second, .val (.long v5), .second, .val (.long v27), .second, .val (.int (1 : Int32)), .val (.long v29), .second, .val (.long (v32 - (1 : Int64))), .second, .val (.long v33), .second]) rfl ?_
            refine o_lload X0 hx hby d1_174 176 rfl rfl ?_
            refine o_lload X0 hx hby d1_176 178 rfl rfl ?_
            refine o_ladd X0 hx hby d1_178 179 rfl ?_
            refine o_lstore X0 hx hby d1_179 181 rfl (l' := #[.val (.long q0), .second, .val (.long q1), .second, .val (.long q2), .second, .val (.int p3), .val (.long v1), .second, .val (.long v2), .second, .val (.long v3), .second, .val (.long v28), .second, .val (.long v5), .second, .val (.long v27), .second, .val (.int (1 : Int32)), .val (.long v29), .second, .val (.long (v32 - (1 : Int64))), .second, .val (.long (v33 + v2)), .second]) rfl ?_
            refine o_lload X0 hx hby d1_181 183 rfl rfl ?_
            refine o_ldc2Long X0 hx hby hown (mvT hZ (hw _ (List.mem_of_getElem? (i := 6) rfl))) d1_183 186 rfl ?_
            refine o_lcmp X0 hx hby d1_186 187 rfl ?_
            exact k
          obtain ⟨v44, v45, hv44, hv45, go97⟩ : ∃ (v44 : Int64) (v45 : Int64), v44 = (if (4294967295 : Int64) < (v33 + v2) then (v32 - (1 : Int64)) else (if (4294967295 : Int64) < (v32 - (1 : Int64)) then ((v32 - (1 : Int64)) - (1 : Int64)) else (if ((((v33 + v2) <<< ((32 : Int32) &&& 0x3f).toInt64) ||| v29) + (-9223372036854775808 : Int64)) < (((v32 - (1 : Int64)) * v3) + (-9223372036854775808 : Int64)) then ((v32 - (1 : Int64)) - (1 : Int64)) else (v32 - (1 : Int64))))) ∧ v45 = (if (4294967295 : Int64) < (v33 + v2) then (v33 + v2) else (if (4294967295 : Int64) < (v32 - (1 : Int64)) then ((v33 + v2) + v2) else (if ((((v33 + v2) <<< ((32 : Int32) &&& 0x3f).toInt64) ||| v29) + (-9223372036854775808 : Int64)) < (((v32 - (1 : Int64)) * v3) + (-9223372036854775808 : Int64)) then ((v33 + v2) + v2) else (v33 + v2)))) ∧ Go p e below A0 (s₁.setTop (mkF m 193 #[.val (.long q0), .second, .val (.long q1), .second, .val (.long q2), .second, .val (.int p3), .val (.long v1), .second, .val (.long v2), .second, .val (.long v3), .second, .val (.long v28), .second, .val (.long v5), .second, .val (.long v27), .second, .val (.int (1 : Int32)), .val (.long v29), .second, .val (.long v44), .second, .val (.long v45), .second] [])) := by
            by_cases hc187_17 : (4294967295 : Int64) < (v33 + v2)
            · have go87 : Go p e below A0 (s₁.setTop (mkF m 193 #[.val (.long q0), .second, .val (.long q1), .second, .val (.long q2), .second, .val (.int p3), .val (.long v1), .second, .val (.long v2), .second, .val (.long v3), .second, .val (.long v28), .second, .val (.long v5), .second, .val (.long v27), .second, .val (.int (1 : Int32)), .val (.long v29), .second, .val (.long (v32 - (1 : Int64))), .second, .val (.long (v33 + v2)), .second] [])) := by
                intro t k
                refine go86 t ?_
                refine o_ifN X0 hx hby d1_187 190 rfl (tlt ((lw_gt (v33 + v2) (4294967295 : Int64)).mpr hc187_17)).2.2.2 ?_
                refine o_goto X0 hx hby d1_190 193 rfl ?_
                exact k
              exact ⟨(v32 - (1 : Int64)), (v33 + v2), (if_pos hc187_17).symm, (if_pos hc187_17).symm, go87⟩
            · have go88 : Go p e below A0 (s₁.setTop (mkF m 140 #[.val (.long q0), .second, .val (.long q1), .second, .val (.long q2), .second, .val (.int p3), .val (.long v1), .second, .val (.long v2), .second, .val (.long v3), .second, .val (.long v28), .second, .val (.long v5), .second, .val (.long v27), .second, .val (.int (1 : Int32)), .val (.long v29), .second, .val (.long (v32 - (1 : Int64))), .second, .val (.long (v33 + v2)), .second] [(.int (lcmpW (v32 - (1 : Int64)) (4294967295 : Int64)))])) := by
                intro t k
                refine go86 t ?_
                refine o_ifY X0 hx hby d1_187 134 rfl (flt (fun q => hc187_17 ((lw_gt (v33 + v2) (4294967295 : Int64)).mp q))).2.2.2 ?_
                refine o_lload X0 hx hby d1_134 136 rfl rfl ?_
                refine o_ldc2Long X0 hx hby hown (mvT hZ (hw _ (List.mem_of_getElem? (i := 6) rfl))) d1_136 139 rfl ?_
                refine o_lcmp X0 hx hby d1_139 140 rfl ?_
                exact k
              obtain ⟨v42, v43, hv42, hv43, go96⟩ : ∃ (v42 : Int64) (v43 : Int64), v42 = (if (4294967295 : Int64) < (v32 - (1 : Int64)) then ((v32 - (1 : Int64)) - (1 : Int64)) else (if ((((v33 + v2) <<< ((32 : Int32) &&& 0x3f).toInt64) ||| v29) + (-9223372036854775808 : Int64)) < (((v32 - (1 : Int64)) * v3) + (-9223372036854775808 : Int64)) then ((v32 - (1 : Int64)) - (1 : Int64)) else (v32 - (1 : Int64)))) ∧ v43 = (if (4294967295 : Int64) < (v32 - (1 : Int64)) then ((v33 + v2) + v2) else (if ((((v33 + v2) <<< ((32 : Int32) &&& 0x3f).toInt64) ||| v29) + (-9223372036854775808 : Int64)) < (((v32 - (1 : Int64)) * v3) + (-9223372036854775808 : Int64)) then ((v33 + v2) + v2) else (v33 + v2))) ∧ Go p e below A0 (s₁.setTop (mkF m 193 #[.val (.long q0), .second, .val (.long q1), .second, .val (.long q2), .second, .val (.int p3), .val (.long v1), .second, .val (.long v2), .second, .val (.long v3), .second, .val (.long v28), .second, .val (.long v5), .second, .val (.long v27), .second, .val (.int (1 : Int32)), .val (.long v29), .second, .val (.long v42), .second, .val (.long v43), .second] [])) := by
                by_cases hc140_18 : (4294967295 : Int64) < (v32 - (1 : Int64))
                · have go89 : Go p e below A0 (s₁.setTop (mkF m 187 #[.val (.long q0), .second, .val (.long q1), .second, .val (.long q2), .second, .val (.int p3), .val (.long v1), .second, .val (.long v2), .second, .val (.long v3), .second, .val (.long v28), .second, .val (.long v5), .second, .val (.long v27), .second, .val (.int (1 : Int32)), .val (.long v29), .second, .val (.long ((v32 - (1 : Int64)) - (1 : Int64))), .second, .val (.long ((v33 + v2) + v2)), .second] [(.int (lcmpW ((v33 + v2) + v2) (4294967295 : Int64)))])) := by
                    intro t k
                    refine go88 t ?_
                    refine o_ifY X0 hx hby d1_140 168 rfl (tlt ((lw_gt (v32 - (1 : Int64)) (4294967295 : Int64)).mpr hc140_18)).2.2.1 ?_
                    refine o_lload X0 hx hby d1_168 170 rfl rfl ?_
                    refine o_lconst X0 hx hby d1_170 171 rfl (v := (1 : Int64)) rfl ?_
                    refine o_lsub X0 hx hby d1_171 172 rfl ?_
                    refine o_lstore X0 hx hby d1_172 174 rfl (l' := #[.val (.long q0), .second, .val (.long q1), .second, .val (.long q2), .second, .val (.int p3), .val (.long v1), .second, .val (.long v2), .second, .val (.long v3), .second, .val (.long v28), .second, .val (.long v5), .second, .val (.long v27), .second, .val (.int (1 : Int32)), .val (.long v29), .second, .val (.long ((v32 - (1 : Int64)) - (1 : Int64))), .second, .val (.long (v33 + v2)), .second]) rfl ?_
                    refine o_lload X0 hx hby d1_174 176 rfl rfl ?_
                    refine o_lload X0 hx hby d1_176 178 rfl rfl ?_
                    refine o_ladd X0 hx hby d1_178 179 rfl ?_
                    refine o_lstore X0 hx hby d1_179 181 rfl (l' := #[.val (.long q0), .second, .val (.long q1), .second, .val (.long q2), .second, .val (.int p3), .val (.long v1), .second, .val (.long v2), .second, .val (.long v3), .second, .val (.long v28), .second, .val (.long v5), .second, .val (.long v27), .second, .val (.int (1 : Int32)), .val (.long v29), .second, .val (.long ((v32 - (1 : Int64)) - (1 : Int64))), .second, .val (.long ((v33 + v2) + v2)), .second]) rfl ?_
                    refine o_lload X0 hx hby d1_181 183 rfl rfl ?_
                    refine o_ldc2Long X0 hx hby hown (mvT hZ (hw _ (List.mem_of_getElem? (i := 6) rfl))) d1_183 186 rfl ?_
                    refine o_lcmp X0 hx hby d1_186 187 rfl ?_
                    exact k
                  have f_c187_9 : (4294967295 : Int64) < ((v33 + v2) + v2) := pf1_c187_8 q0 q1 q2 p3 hq v1 v2 v3 v4 v5 v6 v7 v8 v9 v10 v25 v26 v27 v28 v29 v30 v31 v32 v33 hv1 hv2 hv3 hv4 hv5 hv6 hv7 hv8 hv9 hv10 hv25 hv26 hv27 hv28 hv29 hv30 hv31 hv32 hv33 hc140_12 hc165_16 hc187_17 hc140_18
                  have go90 : Go p e below A0 (s₁.setTop (mkF m 193 #[.val (.long q0), .second, .val (.long q1), .second, .val (.long q2), .second, .val (.int p3), .val (.long v1), .second, .val (.long v2), .second, .val (.long v3), .second, .val (.long v28), .second, .val (.long v5), .second, .val (.long v27), .second, .val (.int (1 : Int32)), .val (.long v29), .second, .val (.long ((v32 - (1 : Int64)) - (1 : Int64))), .second, .val (.long ((v33 + v2) + v2)), .second] [])) := by
                    intro t k
                    refine go89 t ?_
                    refine o_ifN X0 hx hby d1_187 190 rfl (tlt ((lw_gt ((v33 + v2) + v2) (4294967295 : Int64)).mpr (f_c187_9))).2.2.2 ?_
                    refine o_goto X0 hx hby d1_190 193 rfl ?_
                    exact k
                  exact ⟨((v32 - (1 : Int64)) - (1 : Int64)), ((v33 + v2) + v2), (if_pos hc140_18).symm, (if_pos hc140_18).symm, go90⟩
                · have go91 : Go p e below A0 (s₁.setTop (mkF m 165 #[.val (.long q0), .second, .val (.long q1), .second, .val (.long q2), .second, .val (.int p3), .val (.long v1), .second, .val (.long v2), .second, .val (.long v3), .second, .val (.long v28), .second, .val (.long v5), .second, .val (.long v27), .second, .val (.int (1 : Int32)), .val (.long v29), .second, .val (.long (v32 - (1 : Int64))), .second, .val (.long (v33 + v2)), .second] [(.int (lcmpW (((v32 - (1 : Int64)) * v3) + (-9223372036854775808 : Int64)) ((((v33 + v2) <<< ((32 : Int32) &&& 0x3f).toInt64) ||| v29) + (-9223372036854775808 : Int64))))])) := by
                    intro t k
                    refine go88 t ?_
                    refine o_ifN X0 hx hby d1_140 143 rfl (flt (fun q => hc140_18 ((lw_gt (v32 - (1 : Int64)) (4294967295 : Int64)).mp q))).2.2.1 ?_
                    refine o_lload X0 hx hby d1_143 145 rfl rfl ?_
                    refine o_lload X0 hx hby d1_145 147 rfl rfl ?_
                    refine o_lmul X0 hx hby d1_147 148 rfl ?_
                    refine o_ldc2Long X0 hx hby hown (mvT hZ (hw _ (List.mem_of_getElem? (i := 7) rfl))) d1_148 151 rfl ?_
                    refine o_ladd X0 hx hby d1_151 152 rfl ?_
                    refine o_lload X0 hx hby d1_152 154 rfl rfl ?_
                    refine o_bipush X0 hx hby d1_154 156 rfl (v := (32 : Int32)) rfl ?_
                    refine o_lshl X0 hx hby d1_156 157 rfl ?_
                    refine o_lload X0 hx hby d1_157 159 rfl rfl ?_
                    refine o_lor X0 hx hby d1_159 160 rfl ?_
                    refine o_ldc2Long X0 hx hby hown (mvT hZ (hw _ (List.mem_of_getElem? (i := 7) rfl))) d1_160 163 rfl ?_
                    refine o_ladd X0 hx hby d1_163 164 rfl ?_
                    refine o_lcmp X0 hx hby d1_164 165 rfl ?_
                    exact k
                  obtain ⟨v40, v41, hv40, hv41, go95⟩ : ∃ (v40 : Int64) (v41 : Int64), v40 = (if ((((v33 + v2) <<< ((32 : Int32) &&& 0x3f).toInt64) ||| v29) + (-9223372036854775808 : Int64)) < (((v32 - (1 : Int64)) * v3) + (-9223372036854775808 : Int64)) then ((v32 - (1 : Int64)) - (1 : Int64)) else (v32 - (1 : Int64))) ∧ v41 = (if ((((v33 + v2) <<< ((32 : Int32) &&& 0x3f).toInt64) ||| v29) + (-9223372036854775808 : Int64)) < (((v32 - (1 : Int64)) * v3) + (-9223372036854775808 : Int64)) then ((v33 + v2) + v2) else (v33 + v2)) ∧ Go p e below A0 (s₁.setTop (mkF m 193 #[.val (.long q0), .second, .val (.long q1), .second, .val (.long q2), .second, .val (.int p3), .val (.long v1), .second, .val (.long v2), .second, .val (.long v3), .second, .val (.long v28), .second, .val (.long v5), .second, .val (.long v27), .second, .val (.int (1 : Int32)), .val (.long v29), .second, .val (.long v40), .second, .val (.long v41), .second] [])) := by
                    by_cases hc165_19 : ((((v33 + v2) <<< ((32 : Int32) &&& 0x3f).toInt64) ||| v29) + (-9223372036854775808 : Int64)) < (((v32 - (1 : Int64)) * v3) + (-9223372036854775808 : Int64))
                    · have go92 : Go p e below A0 (s₁.setTop (mkF m 187 #[.val (.long q0), .second, .val (.long q1), .second, .val (.long q2), .second, .val (.int p3), .val (.long v1), .second, .val (.long v2), .second, .val (.long v3), .second, .val (.long v28), .second, .val (.long v5), .second, .val (.long v27), .second, .val (.int (1 : Int32)), .val (.long v29), .second, .val (.long ((v32 - (1 : Int64)) - (1 : Int64))), .second, .val (.long ((v33 + v2) + v2)), .second] [(.int (lcmpW ((v33 + v2) + v2) (4294967295 : Int64)))])) := by
                        intro t k
                        refine go91 t ?_
                        refine o_ifN X0 hx hby d1_165 168 rfl (tlt ((lw_gt (((v32 - (1 : Int64)) * v3) + (-9223372036854775808 : Int64)) ((((v33 + v2) <<< ((32 : Int32) &&& 0x3f).toInt64) ||| v29) + (-9223372036854775808 : Int64))).mpr hc165_19)).2.2.2 ?_
                        refine o_lload X0 hx hby d1_168 170 rfl rfl ?_
                        refine o_lconst X0 hx hby d1_170 171 rfl (v := (1 : Int64)) rfl ?_
                        refine o_lsub X0 hx hby d1_171 172 rfl ?_
                        refine o_lstore X0 hx hby d1_172 174 rfl (l' := #[.val (.long q0), .second, .val (.long q1), .second, .val (.long q2), .second, .val (.int p3), .val (.long v1), .second, .val (.long v2), .second, .val (.long v3), .second, .val (.long v28), .second, .val (.long v5), .second, .val (.long v27), .second, .val (.int (1 : Int32)), .val (.long v29), .second, .val (.long ((v32 - (1 : Int64)) - (1 : Int64))), .second, .val (.long (v33 + v2)), .second]) rfl ?_
                        refine o_lload X0 hx hby d1_174 176 rfl rfl ?_
                        refine o_lload X0 hx hby d1_176 178 rfl rfl ?_
                        refine o_ladd X0 hx hby d1_178 179 rfl ?_
                        refine o_lstore X0 hx hby d1_179 181 rfl (l' := #[.val (.long q0), .second, .val (.long q1), .second, .val (.long q2), .second, .val (.int p3), .val (.long v1), .second, .val (.long v2), .second, .val (.long v3), .second, .val (.long v28), .second, .val (.long v5), .second, .val (.long v27), .second, .val (.int (1 : Int32)), .val (.long v29), .second, .val (.long ((v32 - (1 : Int64)) - (1 : Int64))), .second, .val (.long ((v33 + v2) + v2)), .second]) rfl ?_
                        refine o_lload X0 hx hby d1_181 183 rfl rfl ?_
                        refine o_ldc2Long X0 hx hby hown (mvT hZ (hw _ (List.mem_of_getElem? (i := 6) rfl))) d1_183 186 rfl ?_
                        refine o_lcmp X0 hx hby d1_186 187 rfl ?_
                        exact k
                      have f_c187_10 : (4294967295 : Int64) < ((v33 + v2) + v2) := pf1_c187_9 q0 q1 q2 p3 hq v1 v2 v3 v4 v5 v6 v7 v8 v9 v10 v25 v26 v27 v28 v29 v30 v31 v32 v33 hv1 hv2 hv3 hv4 hv5 hv6 hv7 hv8 hv9 hv10 hv25 hv26 hv27 hv28 hv29 hv30 hv31 hv32 hv33 hc140_12 hc165_16 hc187_17 hc140_18 hc165_19
                      have go93 : Go p e below A0 (s₁.setTop (mkF m 193 #[.val (.long q0), .second, .val (.long q1), .second, .val (.long q2), .second, .val (.int p3), .val (.long v1), .second, .val (.long v2), .second, .val (.long v3), .second, .val (.long v28), .second, .val (.long v5), .second, .val (.long v27), .second, .val (.int (1 : Int32)), .val (.long v29), .second, .val (.long ((v32 - (1 : Int64)) - (1 : Int64))), .second, .val (.long ((v33 + v2) + v2)), .second] [])) := by
                        intro t k
                        refine go92 t ?_
                        refine o_ifN X0 hx hby d1_187 190 rfl (tlt ((lw_gt ((v33 + v2) + v2) (4294967295 : Int64)).mpr (f_c187_10))).2.2.2 ?_
                        refine o_goto X0 hx hby d1_190 193 rfl ?_
                        exact k
                      exact ⟨((v32 - (1 : Int64)) - (1 : Int64)), ((v33 + v2) + v2), (if_pos hc165_19).symm, (if_pos hc165_19).symm, go93⟩
                    · have go94 : Go p e below A0 (s₁.setTop (mkF m 193 #[.val (.long q0), .second, .val (.long q1), .second, .val (.long q2), .second, .val (.int p3), .val (.long v1), .second, .val (.long v2), .second, .val (.long v3), .second, .val (.long v28), .second, .val (.long v5), .second, .val (.long v27), .second, .val (.int (1 : Int32)), .val (.long v29), .second, .val (.long (v32 - (1 : Int64))), .second, .val (.long (v33 + v2)), .second] [])) := by
                        intro t k
                        refine go91 t ?_
                        refine o_ifY X0 hx hby d1_165 193 rfl (flt (fun q => hc165_19 ((lw_gt (((v32 - (1 : Int64)) * v3) + (-9223372036854775808 : Int64)) ((((v33 + v2) <<< ((32 : Int32) &&& 0x3f).toInt64) ||| v29) + (-9223372036854775808 : Int64))).mp q))).2.2.2 ?_
                        exact k
                      exact ⟨(v32 - (1 : Int64)), (v33 + v2), (if_neg hc165_19).symm, (if_neg hc165_19).symm, go94⟩
                  rw [hv40] at go95
                  rw [hv41] at go95
                  exact ⟨(if ((((v33 + v2) <<< ((32 : Int32) &&& 0x3f).toInt64) ||| v29) + (-9223372036854775808 : Int64)) < (((v32 - (1 : Int64)) * v3) + (-9223372036854775808 : Int64)) then ((v32 - (1 : Int64)) - (1 : Int64)) else (v32 - (1 : Int64))), (if ((((v33 + v2) <<< ((32 : Int32) &&& 0x3f).toInt64) ||| v29) + (-9223372036854775808 : Int64)) < (((v32 - (1 : Int64)) * v3) + (-9223372036854775808 : Int64)) then ((v33 + v2) + v2) else (v33 + v2)), (if_neg hc140_18).symm, (if_neg hc140_18).symm, go95⟩
              rw [hv42] at go96
              rw [hv43] at go96
              exact ⟨(if (4294967295 : Int64) < (v32 - (1 : Int64)) then ((v32 - (1 : Int64)) - (1 : Int64)) else (if ((((v33 + v2) <<< ((32 : Int32) &&& 0x3f).toInt64) ||| v29) + (-9223372036854775808 : Int64)) < (((v32 - (1 : Int64)) * v3) + (-9223372036854775808 : Int64)) then ((v32 - (1 : Int64)) - (1 : Int64)) else (v32 - (1 : Int64)))), (if (4294967295 : Int64) < (v32 - (1 : Int64)) then ((v33 + v2) + v2) else (if ((((v33 + v2) <<< ((32 : Int32) &&& 0x3f).toInt64) ||| v29) + (-9223372036854775808 : Int64)) < (((v32 - (1 : Int64)) * v3) + (-9223372036854775808 : Int64)) then ((v33 + v2) + v2) else (v33 + v2))), (if_neg hc187_17).symm, (if_neg hc187_17).symm, go96⟩
          rw [hv44] at go97
          rw [hv45] at go97
          exact ⟨(if (4294967295 : Int64) < (v33 + v2) then (v32 - (1 : Int64)) else (if (4294967295 : Int64) < (v32 - (1 : Int64)) then ((v32 - (1 : Int64)) - (1 : Int64)) else (if ((((v33 + v2) <<< ((32 : Int32) &&& 0x3f).toInt64) ||| v29) + (-9223372036854775808 : Int64)) < (((v32 - (1 : Int64)) * v3) + (-9223372036854775808 : Int64)) then ((v32 - (1 : Int64)) - (1 : Int64)) else (v32 - (1 : Int64))))), (if (4294967295 : Int64) < (v33 + v2) then (v33 + v2) else (if (4294967295 : Int64) < (v32 - (1 : Int64)) then ((v33 + v2) + v2) else (if ((((v33 + v2) <<< ((32 : Int32) &&& 0x3f).toInt64) ||| v29) + (-9223372036854775808 : Int64)) < (((v32 - (1 : Int64)) * v3) + (-9223372036854775808 : Int64)) then ((v33 + v2) + v2) else (v33 + v2)))), (if_pos hc165_16).symm, (if_pos hc165_16).symm, go97⟩
        · have go98 : Go p e below A0 (s₁.setTop (mkF m 193 #[.val (.long q0), .second, .val (.long q1), .second, .val (.long q2), .second, .val (.int p3), .val (.long v1), .second, .val (.long v2), .second, .val (.long v3), .second, .val (.long v28), .second, .val (.long v5), .second, .val (.long v27), .second, .val (.int (1 : Int32)), .val (.long v29), .second, .val (.long v32), .second, .val (.long v33), .second] [])) := by
            intro t k
            refine go85 t ?_
            refine o_ifY X0 hx hby d1_165 193 rfl (flt (fun q => hc165_16 ((lw_gt ((v32 * v3) + (-9223372036854775808 : Int64)) (((v33 <<< ((32 : Int32) &&& 0x3f).toInt64) ||| v29) + (-9223372036854775808 : Int64))).mp q))).2.2.2 ?_
            exact k
          exact ⟨v32, v33, (if_neg hc165_16).symm, (if_neg hc165_16).symm, go98⟩
      rw [hv46] at go99
      rw [hv47] at go99
      exact ⟨(if (((v33 <<< ((32 : Int32) &&& 0x3f).toInt64) ||| v29) + (-9223372036854775808 : Int64)) < ((v32 * v3) + (-9223372036854775808 : Int64)) then (if (4294967295 : Int64) < (v33 + v2) then (v32 - (1 : Int64)) else (if (4294967295 : Int64) < (v32 - (1 : Int64)) then ((v32 - (1 : Int64)) - (1 : Int64)) else (if ((((v33 + v2) <<< ((32 : Int32) &&& 0x3f).toInt64) ||| v29) + (-9223372036854775808 : Int64)) < (((v32 - (1 : Int64)) * v3) + (-9223372036854775808 : Int64)) then ((v32 - (1 : Int64)) - (1 : Int64)) else (v32 - (1 : Int64))))) else v32), (if (((v33 <<< ((32 : Int32) &&& 0x3f).toInt64) ||| v29) + (-9223372036854775808 : Int64)) < ((v32 * v3) + (-9223372036854775808 : Int64)) then (if (4294967295 : Int64) < (v33 + v2) then (v33 + v2) else (if (4294967295 : Int64) < (v32 - (1 : Int64)) then ((v33 + v2) + v2) else (if ((((v33 + v2) <<< ((32 : Int32) &&& 0x3f).toInt64) ||| v29) + (-9223372036854775808 : Int64)) < (((v32 - (1 : Int64)) * v3) + (-9223372036854775808 : Int64)) then ((v33 + v2) + v2) else (v33 + v2)))) else v33), (if_neg hc140_12).symm, (if_neg hc140_12).symm, go99⟩
  have go101 : Go p e below A0 (s₁.setTop (mkF m 203 #[.val (.long q0), .second, .val (.long q1), .second, .val (.long q2), .second, .val (.int p3), .val (.long v1), .second, .val (.long v2), .second, .val (.long v3), .second, .val (.long v28), .second, .val (.long v5), .second, .val (.long ((v27 <<< ((32 : Int32) &&& 0x3f).toInt64) ||| v48)), .second, .val (.int (1 : Int32)), .val (.long v29), .second, .val (.long v48), .second, .val (.long v49), .second] [])) := by
    intro t k
    refine go100 t ?_
    refine o_lload X0 hx hby d1_193 195 rfl rfl ?_
    refine o_bipush X0 hx hby d1_195 197 rfl (v := (32 : Int32)) rfl ?_
    refine o_lshl X0 hx hby d1_197 198 rfl ?_
    refine o_lload X0 hx hby d1_198 200 rfl rfl ?_
    refine o_lor X0 hx hby d1_200 201 rfl ?_
    refine o_lstore X0 hx hby d1_201 203 rfl (l' := #[.val (.long q0), .second, .val (.long q1), .second, .val (.long q2), .second, .val (.int p3), .val (.long v1), .second, .val (.long v2), .second, .val (.long v3), .second, .val (.long v28), .second, .val (.long v5), .second, .val (.long ((v27 <<< ((32 : Int32) &&& 0x3f).toInt64) ||| v48)), .second, .val (.int (1 : Int32)), .val (.long v29), .second, .val (.long v48), .second, .val (.long v49), .second]) rfl ?_
    exact k
  obtain ⟨v50, hv50, go102⟩ : ∃ v50 : Int64, v50 = ((v27 <<< ((32 : Int32) &&& 0x3f).toInt64) ||| v48) ∧ Go p e below A0 (s₁.setTop (mkF m 203 #[.val (.long q0), .second, .val (.long q1), .second, .val (.long q2), .second, .val (.int p3), .val (.long v1), .second, .val (.long v2), .second, .val (.long v3), .second, .val (.long v28), .second, .val (.long v5), .second, .val (.long v50), .second, .val (.int (1 : Int32)), .val (.long v29), .second, .val (.long v48), .second, .val (.long v49), .second] [])) := ⟨_, rfl, go101⟩
  have go103 : Go p e below A0 (s₁.setTop (mkF m 219 #[.val (.long q0), .second, .val (.long q1), .second, .val (.long q2), .second, .val (.int p3), .val (.long v1), .second, .val (.long v2), .second, .val (.long v3), .second, .val (.long (((v28 <<< ((32 : Int32) &&& 0x3f).toInt64) + v29) - (v48 * v1))), .second, .val (.long v5), .second, .val (.long v50), .second, .val (.int (1 : Int32)), .val (.long v29), .second, .val (.long v48), .second, .val (.long v49), .second] [])) := by
    intro t k
    refine go102 t ?_
    refine o_lload X0 hx hby d1_203 205 rfl rfl ?_
    refine o_bipush X0 hx hby d1_205 207 rfl (v := (32 : Int32)) rfl ?_
    refine o_lshl X0 hx hby d1_207 208 rfl ?_
    refine o_lload X0 hx hby d1_208 210 rfl rfl ?_
    refine o_ladd X0 hx hby d1_210 211 rfl ?_
    refine o_lload X0 hx hby d1_211 213 rfl rfl ?_
    refine o_lload X0 hx hby d1_213 215 rfl rfl ?_
    refine o_lmul X0 hx hby d1_215 216 rfl ?_
    refine o_lsub X0 hx hby d1_216 217 rfl ?_
    refine o_lstore X0 hx hby d1_217 219 rfl (l' := #[.val (.long q0), .second, .val (.long q1), .second, .val (.long q2), .second, .val (.int p3), .val (.long v1), .second, .val (.long v2), .second, .val (.long v3), .second, .val (.long (((v28 <<< ((32 : Int32) &&& 0x3f).toInt64) + v29) - (v48 * v1))), .second, .val (.long v5), .second, .val (.long v50), .second, .val (.int (1 : Int32)), .val (.long v29), .second, .val (.long v48), .second, .val (.long v49), .second]) rfl ?_
    exact k
  obtain ⟨v51, hv51, go104⟩ : ∃ v51 : Int64, v51 = (((v28 <<< ((32 : Int32) &&& 0x3f).toInt64) + v29) - (v48 * v1)) ∧ Go p e below A0 (s₁.setTop (mkF m 219 #[.val (.long q0), .second, .val (.long q1), .second, .val (.long q2), .second, .val (.int p3), .val (.long v1), .second, .val (.long v2), .second, .val (.long v3), .second, .val (.long v51), .second, .val (.long v5), .second, .val (.long v50), .second, .val (.int (1 : Int32)), .val (.long v29), .second, .val (.long v48), .second, .val (.long v49), .second] [])) := ⟨_, rfl, go103⟩
  have go105 : Go p e below A0 (s₁.setTop (mkF m 222 #[.val (.long q0), .second, .val (.long q1), .second, .val (.long q2), .second, .val (.int p3), .val (.long v1), .second, .val (.long v2), .second, .val (.long v3), .second, .val (.long v51), .second, .val (.long v5), .second, .val (.long v50), .second, .val (.int (2 : Int32)), .val (.long v29), .second, .val (.long v48), .second, .val (.long v49), .second] [])) := by
    intro t k
    refine go104 t ?_
    refine o_iinc X0 hx hby d1_219 222 rfl rfl (i := (1 : Int32)) rfl (l' := #[.val (.long q0), .second, .val (.long q1), .second, .val (.long q2), .second, .val (.int p3), .val (.long v1), .second, .val (.long v2), .second, .val (.long v3), .second, .val (.long v51), .second, .val (.long v5), .second, .val (.long v50), .second, .val (.int (2 : Int32)), .val (.long v29), .second, .val (.long v48), .second, .val (.long v49), .second]) rfl ?_
    exact k
  have go106 : Go p e below A0 (s₁.setTop (mkF m 227 #[.val (.long q0), .second, .val (.long q1), .second, .val (.long q2), .second, .val (.int p3), .val (.long v1), .second, .val (.long v2), .second, .val (.long v3), .second, .val (.long v51), .second, .val (.long v5), .second, .val (.long v50), .second, .val (.int (2 : Int32)), .val (.long v29), .second, .val (.long v48), .second, .val (.long v49), .second] [(.long v50)])) := by
    intro t k
    refine go105 t ?_
    refine o_goto X0 hx hby d1_222 57 rfl ?_
    refine o_iload X0 hx hby d1_57 59 rfl rfl ?_
    refine o_iconst X0 hx hby d1_59 60 rfl (v := (2 : Int32)) rfl ?_
    refine o_icmpY X0 hx hby d1_60 225 rfl (flt (show ¬ ((2 : Int32) < (2 : Int32)) by decide)).2.1 ?_
    refine o_lload X0 hx hby d1_225 227 rfl rfl ?_
    exact k
  rw [hA0] at go106
  obtain ⟨fs, hr, hrun, hended, hW, hsame⟩ := X0.leave (v := some (.long v50)) (fun h => by rw [Bd.returns] at h; cases h)
  refine ⟨_, _, go106 _ (o_retJ X0 hx Bd.returns (hb hby d1_227) hr), hrun, hended, _, _, rfl, ?_, ⟨_, rfl⟩, hW, hsame.mono (by decide) (by decide)⟩
  show Q1 Z q0 q1 q2 p3 h0 n0 _ s₁.heap _
  rw [e0]
  exact ⟨v50, rfl, N0, rfl, pl_1_q q0 q1 q2 p3 hq v1 v2 v3 v4 v5 v6 v7 v8 v9 v10 v25 v26 v27 v28 v29 v30 v31 v32 v33 v48 v49 v50 v51 hv1 hv2 hv3 hv4 hv5 hv6 hv7 hv8 hv9 hv10 hv25 hv26 hv27 hv28 hv29 hv30 hv31 hv32 hv33 hv48 hv49 hv50 hv51, trivial⟩
theorem pd_2 : parseMethodDescriptor "(JJ)Z" = some ⟨[.long, .long], some .boolean⟩ := by decide +kernel
theorem pd_3 : parseMethodDescriptor "(JJJI)J" = some ⟨[.long, .long, .long, .int], some .long⟩ := by decide +kernel
theorem ef_0 (m : MethodId) (x0 : Int64) (x1 : Int64) (x2 : Int64) (x3 : Int32) : entryFrame m #[(.long x0), (.long x1), (.long x2), (.int x3)] maxLocals = mkF m 0 #[.val (.long x0), .second, .val (.long x1), .second, .val (.long x2), .second, .val (.int x3), .unset, .unset, .unset, .unset, .unset, .unset, .unset, .unset, .unset, .unset, .unset, .unset, .unset, .unset, .unset, .unset, .unset, .unset, .unset, .unset, .unset, .unset, .unset, .unset, .unset, .unset, .unset, .unset, .unset, .unset, .unset, .unset, .unset, .unset, .unset, .unset, .unset, .unset] [] := by first | (simp [entryFrame, mkF, argsToLocals, Value.category, maxLocals]; done) | rfl
set_option maxRecDepth 65536 in
set_option maxHeartbeats 4000000 in
theorem pf0_nz52_0 (q0 : Int64) (q1 : Int64) (q2 : Int64) (p3 : Int32) (v1 : Int32) (v2 : Int64) (hv1 : v1 = (p3 &&& (63 : Int32))) (hv2 : v2 = (((q2 ||| (-9223372036854775808 : Int64)).toUInt64 >>> (v1 &&& 0x3f).toInt64.toUInt64).toInt64)) (hc20_1 : ¬ (v1 = (0 : Int32))) : ¬ (v2 = (0 : Int64)) := by
  obtain ⟨d1, d2, d3, d4, d5, d6⟩ := own_div hv1 hv2
  intro q; rw [q] at d4; revert d4; decide
set_option maxRecDepth 65536 in
set_option maxHeartbeats 4000000 in
theorem pf0_ok_1 (q0 : Int64) (q1 : Int64) (q2 : Int64) (p3 : Int32) (v1 : Int32) (v2 : Int64) (v4 : Int64) (hv1 : v1 = (p3 &&& (63 : Int32))) (hv2 : v2 = (((q2 ||| (-9223372036854775808 : Int64)).toUInt64 >>> (v1 &&& 0x3f).toInt64.toUInt64).toInt64)) (hv4 : v4 = (if v1 = (0 : Int32) then (if (Fult q0 v2) = (0 : Int32) then (q0 - v2) else q0) else ((q0 &&& (9223372036854775807 : Int64)) % v2))) : own_ok v4 v2 v1 := by
  obtain ⟨d1, d2, d3, d4, d5, d6⟩ := own_div hv1 hv2
  exact ⟨d1, d2, d3, own_high d4 d5 d6 hv4⟩
set_option maxRecDepth 65536 in
set_option maxHeartbeats 4000000 in
theorem pl_0_0 (q0 : Int64) (q1 : Int64) (q2 : Int64) (p3 : Int32) (v1 : Int32) (v2 : Int64) (v4 : Int64) (r5_r : Int64) (v5 : Int64) (v6 : Int64) (v7 : Int64) (v8 : Int64) (v9 : Int64) (v10 : Int64) (v11 : Int64) (v12 : Int64) (v13 : Int64) (v14 : Int64) (v15 : Int64) (v16 : Int32) (v19 : Int32) (v20 : Int64) (v21 : Int32) (v22 : Int64) (v23 : Int64) (v26 : Int32) (hv1 : v1 = (p3 &&& (63 : Int32))) (hv2 : v2 = (((q2 ||| (-9223372036854775808 : Int64)).toUInt64 >>> (v1 &&& 0x3f).toInt64.toUInt64).toInt64)) (hv4 : v4 = (if v1 = (0 : Int32) then (if (Fult q0 v2) = (0 : Int32) then (q0 - v2) else q0) else ((q0 &&& (9223372036854775807 : Int64)) % v2))) (hv5 : v5 = (r5_r &&& (4294967295 : Int64))) (hv6 : v6 = ((r5_r.toUInt64 >>> ((32 : Int32) &&& 0x3f).toInt64.toUInt64).toInt64)) (hv7 : v7 = (v2 &&& (4294967295 : Int64))) (hv8 : v8 = ((v2.toUInt64 >>> ((32 : Int32) &&& 0x3f).toInt64.toUInt64).toInt64)) (hv9 : v9 = (v5 * v7)) (hv10 : v10 = (v5 * v8)) (hv11 : v11 = (v6 * v7)) (hv12 : v12 = (v6 * v8)) (hv13 : v13 = ((((v9.toUInt64 >>> ((32 : Int32) &&& 0x3f).toInt64.toUInt64).toInt64) + (v10 &&& (4294967295 : Int64))) + (v11 &&& (4294967295 : Int64)))) (hv14 : v14 = ((v13 <<< ((32 : Int32) &&& 0x3f).toInt64) ||| (v9 &&& (4294967295 : Int64)))) (hv15 : v15 = (((v12 + ((v10.toUInt64 >>> ((32 : Int32) &&& 0x3f).toInt64.toUInt64).toInt64)) + ((v11.toUInt64 >>> ((32 : Int32) &&& 0x3f).toInt64.toUInt64).toInt64)) + ((v13.toUInt64 >>> ((32 : Int32) &&& 0x3f).toInt64.toUInt64).toInt64))) (hv16 : v16 = (Fult v15 v4)) (hv19 : v19 = (if v16 = (0 : Int32) then (if v15 = v4 then (if (Fult q1 v14) = (0 : Int32) then (1 : Int32) else (0 : Int32)) else (0 : Int32)) else (1 : Int32))) (hv20 : v20 = (q1 - v14)) (hv21 : v21 = (Fult q1 v14)) (hv22 : v22 = (if v21 = (0 : Int32) then (0 : Int64) else (1 : Int64))) (hv23 : v23 = ((v4 - v15) - v22)) (hv26 : v26 = (if v19 = (0 : Int32) then (0 : Int32) else (if v23 = (0 : Int64) then (if (Fult v20 v2) = (0 : Int32) then (0 : Int32) else (1 : Int32)) else (0 : Int32)))) (qf5_0 : own_q v4 q1 v2 r5_r) : v26 = (1 : Int32) := by
  obtain ⟨d1, d2, d3, d4, d5, d6⟩ := own_div hv1 hv2
  have hH := own_high d4 d5 d6 hv4
  exact own_law hH qf5_0 hv5 hv6 hv7 hv8 hv9 hv10 hv11 hv12 hv13 hv14 hv15 hv16 hv19 hv20 hv21 hv22 hv23 hv26
def Q0 (Z : State) (q0 : Int64) (q1 : Int64) (q2 : Int64) (p3 : Int32) (h0 : Heap) (n0 : Nat) (v : Option Value) (h : Heap) (L : List Loc) : Prop := v = some (.int 1) ∧ Fr n0 L
set_option maxRecDepth 65536 in
set_option maxHeartbeats 40000000 in
theorem rm0 (l : Launch) (Z : State) (aw : Array Value) (hw : ∀ d ∈ tables_1, d.before aw Z = true) (ws : List Jvm.Cond) (q0 : Int64) (q1 : Int64) (q2 : Int64) (p3 : Int32) (h0 : Heap) (n0 : Nat) (Z0 : n0 ≤ h0.size) :
    MetFree l x (head1 (Jvm.Cond.code x code maxLocals ret :: ws) room_1) (fun a U => a = #[(.long q0), (.long q1), (.long q2), (.int p3)] ∧ Z.Warmed39 U.vm ∧ U.heap = h0) (fun _ _ _ _ _ => True) (fun _ U o U' => ∃ v L, o = .returned v ∧ Q0 Z q0 q1 q2 p3 h0 n0 v U'.heap L ∧ FrameEnd U o U' L room_1.cells room_1.slots) := by
  refine MetFree.of_bodySF (plainFor_of_name pn_2) hisR ?_
  intro p e s m args below meth c s₁ Bd hml0 hP hK
  obtain ⟨rfl, hZ, hh⟩ := hP
  have hx := Bd.exec
  have hby := Bd.bytes
  have hml : c.maxLocals = 45 := hml0
  have hown : s.vm.findClass "com/example/amortine/amortine/WordsQuotientPinLaw" = some m.cls := findClass_of_methodNamed Bd.named
  have hnm := (name_of_methodNamed Bd.named Bd.method).1
  have X0 : Stand p l e room_1 s m #[(.long q0), (.long q1), (.long q2), (.int p3)] below meth c s₁ [] 0 0 := Stand.of_body Bd
  have e0 : s₁.heap = h0 := by rw [← hh, Bd.state]; rfl
  have N0 := Fr.nil n0
  obtain ⟨A0, hA0⟩ : ∃ A0, A0 = s₁.setTop (entryFrame m #[(.long q0), (.long q1), (.long q2), (.int p3)] maxLocals) := ⟨_, rfl⟩
  have go0 : Go p e below A0 (s₁.setTop (mkF m 0 #[.val (.long q0), .second, .val (.long q1), .second, .val (.long q2), .second, .val (.int p3), .unset, .unset, .unset, .unset, .unset, .unset, .unset, .unset, .unset, .unset, .unset, .unset, .unset, .unset, .unset, .unset, .unset, .unset, .unset, .unset, .unset, .unset, .unset, .unset, .unset, .unset, .unset, .unset, .unset, .unset, .unset, .unset, .unset, .unset, .unset, .unset, .unset, .unset] [])) := fun t k => by rw [hA0]; exact castTop (ef_0 m q0 q1 q2 p3) k
  have go1 : Go p e below A0 (s₁.setTop (mkF m 7 #[.val (.long q0), .second, .val (.long q1), .second, .val (.long q2), .second, .val (.int p3), .val (.int (p3 &&& (63 : Int32))), .unset, .unset, .unset, .unset, .unset, .unset, .unset, .unset, .unset, .unset, .unset, .unset, .unset, .unset, .unset, .unset, .unset, .unset, .unset, .unset, .unset, .unset, .unset, .unset, .unset, .unset, .unset, .unset, .unset, .unset, .unset, .unset, .unset, .unset, .unset, .unset, .unset] [])) := by
    intro t k
    refine go0 t ?_
    refine o_iload X0 hx hby at_0 2 rfl rfl ?_
    refine o_bipush X0 hx hby at_2 4 rfl (v := (63 : Int32)) rfl ?_
    refine o_iand X0 hx hby at_4 5 rfl ?_
    refine o_istore X0 hx hby at_5 7 rfl (l' := #[.val (.long q0), .second, .val (.long q1), .second, .val (.long q2), .second, .val (.int p3), .val (.int (p3 &&& (63 : Int32))), .unset, .unset, .unset, .unset, .unset, .unset, .unset, .unset, .unset, .unset, .unset, .unset, .unset, .unset, .unset, .unset, .unset, .unset, .unset, .unset, .unset, .unset, .unset, .unset, .unset, .unset, .unset, .unset, .unset, .unset, .unset, .unset, .unset, .unset, .unset, .unset, .unset]) rfl ?_
    exact k
  obtain ⟨v1, hv1, go2⟩ : ∃ v1 : Int32, v1 = (p3 &&& (63 : Int32)) ∧ Go p e below A0 (s₁.setTop (mkF m 7 #[.val (.long q0), .second, .val (.long q1), .second, .val (.long q2), .second, .val (.int p3), .val (.int v1), .unset, .unset, .unset, .unset, .unset, .unset, .unset, .unset, .unset, .unset, .unset, .unset, .unset, .unset, .unset, .unset, .unset, .unset, .unset, .unset, .unset, .unset, .unset, .unset, .unset, .unset, .unset, .unset, .unset, .unset, .unset, .unset, .unset, .unset, .unset, .unset, .unset] [])) := ⟨_, rfl, go1⟩
  have go3 : Go p e below A0 (s₁.setTop (mkF m 18 #[.val (.long q0), .second, .val (.long q1), .second, .val (.long q2), .second, .val (.int p3), .val (.int v1), .val (.long (((q2 ||| (-9223372036854775808 : Int64)).toUInt64 >>> (v1 &&& 0x3f).toInt64.toUInt64).toInt64)), .second, .unset, .unset, .unset, .unset, .unset, .unset, .unset, .unset, .unset, .unset, .unset, .unset, .unset, .unset, .unset, .unset, .unset, .unset, .unset, .unset, .unset, .unset, .unset, .unset, .unset, .unset, .unset, .unset, .unset, .unset, .unset, .unset, .unset, .unset, .unset] [])) := by
    intro t k
    refine go2 t ?_
    refine o_lload X0 hx hby at_7 9 rfl rfl ?_
    refine o_ldc2Long X0 hx hby hown (mvT hZ (hw _ (List.mem_of_getElem? (i := 0) rfl))) at_9 12 rfl ?_
    refine o_lor X0 hx hby at_12 13 rfl ?_
    refine o_iload X0 hx hby at_13 15 rfl rfl ?_
    refine o_lushr X0 hx hby at_15 16 rfl ?_
    refine o_lstore X0 hx hby at_16 18 rfl (l' := #[.val (.long q0), .second, .val (.long q1), .second, .val (.long q2), .second, .val (.int p3), .val (.int v1), .val (.long (((q2 ||| (-9223372036854775808 : Int64)).toUInt64 >>> (v1 &&& 0x3f).toInt64.toUInt64).toInt64)), .second, .unset, .unset, .unset, .unset, .unset, .unset, .unset, .unset, .unset, .unset, .unset, .unset, .unset, .unset, .unset, .unset, .unset, .unset, .unset, .unset, .unset, .unset, .unset, .unset, .unset, .unset, .unset, .unset, .unset, .unset, .unset, .unset, .unset, .unset, .unset]) rfl ?_
    exact k
  obtain ⟨v2, hv2, go4⟩ : ∃ v2 : Int64, v2 = (((q2 ||| (-9223372036854775808 : Int64)).toUInt64 >>> (v1 &&& 0x3f).toInt64.toUInt64).toInt64) ∧ Go p e below A0 (s₁.setTop (mkF m 18 #[.val (.long q0), .second, .val (.long q1), .second, .val (.long q2), .second, .val (.int p3), .val (.int v1), .val (.long v2), .second, .unset, .unset, .unset, .unset, .unset, .unset, .unset, .unset, .unset, .unset, .unset, .unset, .unset, .unset, .unset, .unset, .unset, .unset, .unset, .unset, .unset, .unset, .unset, .unset, .unset, .unset, .unset, .unset, .unset, .unset, .unset, .unset, .unset, .unset, .unset] [])) := ⟨_, rfl, go3⟩
  have go5 : Go p e below A0 (s₁.setTop (mkF m 20 #[.val (.long q0), .second, .val (.long q1), .second, .val (.long q2), .second, .val (.int p3), .val (.int v1), .val (.long v2), .second, .unset, .unset, .unset, .unset, .unset, .unset, .unset, .unset, .unset, .unset, .unset, .unset, .unset, .unset, .unset, .unset, .unset, .unset, .unset, .unset, .unset, .unset, .unset, .unset, .unset, .unset, .unset, .unset, .unset, .unset, .unset, .unset, .unset, .unset, .unset] [(.int v1)])) := by
    intro t k
    refine go4 t ?_
    refine o_iload X0 hx hby at_18 20 rfl rfl ?_
    exact k
  obtain ⟨T4, l4, v4, X4, N4, e4, hv4, go13⟩ : ∃ (T4 : State) (l4 : List Loc) (v4 : Int64), Stand p l e room_1 s m #[(.long q0), (.long q1), (.long q2), (.int p3)] below meth c T4 l4 0 0 ∧ Fr n0 l4 ∧ T4.heap = h0 ∧ v4 = (if v1 = (0 : Int32) then (if (Fult q0 v2) = (0 : Int32) then (q0 - v2) else q0) else ((q0 &&& (9223372036854775807 : Int64)) % v2)) ∧ Go p e below A0 (T4.setTop (mkF m 55 #[.val (.long q0), .second, .val (.long q1), .second, .val (.long q2), .second, .val (.int p3), .val (.int v1), .val (.long v2), .second, .val (.long v4), .second, .unset, .unset, .unset, .unset, .unset, .unset, .unset, .unset, .unset, .unset, .unset, .unset, .unset, .unset, .unset, .unset, .unset, .unset, .unset, .unset, .unset, .unset, .unset, .unset, .unset, .unset, .unset, .unset, .unset, .unset, .unset, .unset, .unset] [])) := by
    by_cases hc20_1 : v1 = (0 : Int32)
    · obtain ⟨_, _, ⟨T2, L2, k2, n2⟩, -, X2, ⟨Lc2, hQ2, l2, y2, z2⟩, st2⟩ := Jvm.LawKit.callS X0 hx (y := (⟨"com/example/amortine/amortine/WordsQuotientPinLaw", "ult", "(JJ)Z"⟩ : MethodName)) hown (mvT hZ (hw _ (List.mem_of_getElem? (i := 9) rfl))) (mvT hZ (hw _ (List.mem_of_getElem? (i := 10) rfl))) (mvT hZ (hw _ (List.mem_of_getElem? (i := 11) rfl))) (mvT hZ (hw _ (List.mem_of_getElem? (i := 12) rfl))) (by decide) (backOf (W := 0) (rm2 l Z aw hw [] q0 v2 h0 n0 Z0) hZ (hw _ (List.mem_of_getElem? (i := 12) rfl)) (hw _ (List.mem_of_getElem? (i := 11) rfl)) (by decide) (by decide)) (g := (mkF m 26 #[.val (.long q0), .second, .val (.long q1), .second, .val (.long q2), .second, .val (.int p3), .val (.int v1), .val (.long v2), .second, .unset, .unset, .unset, .unset, .unset, .unset, .unset, .unset, .unset, .unset, .unset, .unset, .unset, .unset, .unset, .unset, .unset, .unset, .unset, .unset, .unset, .unset, .unset, .unset, .unset, .unset, .unset, .unset, .unset, .unset, .unset, .unset, .unset, .unset, .unset] [(.long v2), (.long q0)])) rfl (by rw [hml]; rfl) (argsL := [(.long q0), (.long v2)]) (rest := []) (lenOf pd_2 rfl) rfl (by show 2 * 0 + _ ≤ _; exact Nat.le_of_eq rfl) (hb hby at_26) (fun _ _ => ⟨rfl, e0, (by decide : 0 + 0 ≤ _), (by decide : 0 + 0 ≤ _)⟩)
      dsimp only [Pt.U, Pt.locs, Pt.cells, Pt.slots] at X2 l2 y2 z2 st2 hQ2
      subst l2 y2 z2
      obtain ⟨rfl, N2q, e2⟩ := hQ2
      have N2 := Fr.app N0 N2q
      have go6 : Go p e below A0 (T2.setTop (mkF m 29 #[.val (.long q0), .second, .val (.long q1), .second, .val (.long q2), .second, .val (.int p3), .val (.int v1), .val (.long v2), .second, .unset, .unset, .unset, .unset, .unset, .unset, .unset, .unset, .unset, .unset, .unset, .unset, .unset, .unset, .unset, .unset, .unset, .unset, .unset, .unset, .unset, .unset, .unset, .unset, .unset, .unset, .unset, .unset, .unset, .unset, .unset, .unset, .unset, .unset, .unset] [(.int (Fult q0 v2))])) := by
        intro t k
        refine go5 t ?_
        refine o_ifN X0 hx hby at_20 23 rfl (teq hc20_1).2 ?_
        refine o_lloadN X0 hx hby at_23 24 rfl rfl ?_
        refine o_lload X0 hx hby at_24 26 rfl rfl ?_
        refine st2 _ ?_
        show Steps p.tables e below (T2.setTop (mkF m 29 #[.val (.long q0), .second, .val (.long q1), .second, .val (.long q2), .second, .val (.int p3), .val (.int v1), .val (.long v2), .second, .unset, .unset, .unset, .unset, .unset, .unset, .unset, .unset, .unset, .unset, .unset, .unset, .unset, .unset, .unset, .unset, .unset, .unset, .unset, .unset, .unset, .unset, .unset, .unset, .unset, .unset, .unset, .unset, .unset, .unset, .unset, .unset, .unset, .unset, .unset] [(.int (Fult q0 v2))])) _
        exact k
      obtain ⟨v3, hv3, go9⟩ : ∃ (v3 : Int64), v3 = (if (Fult q0 v2) = (0 : Int32) then (q0 - v2) else q0) ∧ Go p e below A0 (T2.setTop (mkF m 40 #[.val (.long q0), .second, .val (.long q1), .second, .val (.long q2), .second, .val (.int p3), .val (.int v1), .val (.long v2), .second, .unset, .unset, .unset, .unset, .unset, .unset, .unset, .unset, .unset, .unset, .unset, .unset, .unset, .unset, .unset, .unset, .unset, .unset, .unset, .unset, .unset, .unset, .unset, .unset, .unset, .unset, .unset, .unset, .unset, .unset, .unset, .unset, .unset, .unset, .unset] [(.long v3)])) := by
        by_cases hc29_3 : (Fult q0 v2) = (0 : Int32)
        · have go7 : Go p e below A0 (T2.setTop (mkF m 40 #[.val (.long q0), .second, .val (.long q1), .second, .val (.long q2), .second, .val (.int p3), .val (.int v1), .val (.long v2), .second, .unset, .unset, .unset, .unset, .unset, .unset, .unset, .unset, .unset, .unset, .unset, .unset, .unset, .unset, .unset, .unset, .unset, .unset, .unset, .unset, .unset, .unset, .unset, .unset, .unset, .unset, .unset, .unset, .unset, .unset, .unset, .unset, .unset, .unset, .unset] [(.long (q0 - v2))])) := by
            intro t k
            refine go6 t ?_
            refine o_ifY X2 hx hby at_29 36 rfl (teq hc29_3).1 ?_
            refine o_lloadN X2 hx hby at_36 37 rfl rfl ?_
            refine o_lload X2 hx hby at_37 39 rfl rfl ?_
            refine o_lsub X2 hx hby at_39 40 rfl ?_
            exact k
          exact ⟨(q0 - v2), (if_pos hc29_3).symm, go7⟩
        · have go8 : Go p e below A0 (T2.setTop (mkF m 40 #[.val (.long q0), .second, .val (.long q1), .second, .val (.long q2), .second, .val (.int p3), .val (.int v1), .val (.long v2), .second, .unset, .unset, .unset, .unset, .unset, .unset, .unset, .unset, .unset, .unset, .unset, .unset, .unset, .unset, .unset, .unset, .unset, .unset, .unset, .unset, .unset, .unset, .unset, .unset, .unset, .unset, .unset, .unset, .unset, .unset, .unset, .unset, .unset, .unset, .unset] [(.long q0)])) := by
            intro t k
            refine go6 t ?_
            refine o_ifN X2 hx hby at_29 32 rfl (feq hc29_3).1 ?_
            refine o_lloadN X2 hx hby at_32 33 rfl rfl ?_
            refine o_goto X2 hx hby at_33 40 rfl ?_
            exact k
          exact ⟨q0, (if_neg hc29_3).symm, go8⟩
      rw [hv3] at go9
      have go10 : Go p e below A0 (T2.setTop (mkF m 55 #[.val (.long q0), .second, .val (.long q1), .second, .val (.long q2), .second, .val (.int p3), .val (.int v1), .val (.long v2), .second, .val (.long (if (Fult q0 v2) = (0 : Int32) then (q0 - v2) else q0)), .second, .unset, .unset, .unset, .unset, .unset, .unset, .unset, .unset, .unset, .unset, .unset, .unset, .unset, .unset, .unset, .unset, .unset, .unset, .unset, .unset, .unset, .unset, .unset, .unset, .unset, .unset, .unset, .unset, .unset, .unset, .unset, .unset, .unset] [])) := by
        intro t k
        refine go9 t ?_
        refine o_lstore X2 hx hby at_40 42 rfl (l' := #[.val (.long q0), .second, .val (.long q1), .second, .val (.long q2), .second, .val (.int p3), .val (.int v1), .val (.long v2), .second, .val (.long (if (Fult q0 v2) = (0 : Int32) then (q0 - v2) else q0)), .second, .unset, .unset, .unset, .unset, .unset, .unset, .unset, .unset, .unset, .unset, .unset, .unset, .unset, .unset, .unset, .unset, .unset, .unset, .unset, .unset, .unset, .unset, .unset, .unset, .unset, .unset, .unset, .unset, .unset, .unset, .unset, .unset, .unset]) rfl ?_
        refine o_goto X2 hx hby at_42 55 rfl ?_
        exact k
      exact ⟨T2, _, (if (Fult q0 v2) = (0 : Int32) then (q0 - v2) else q0), X2, N2, e2, (if_pos hc20_1).symm, go10⟩
    · have go11 : Go p e below A0 (s₁.setTop (mkF m 52 #[.val (.long q0), .second, .val (.long q1), .second, .val (.long q2), .second, .val (.int p3), .val (.int v1), .val (.long v2), .second, .unset, .unset, .unset, .unset, .unset, .unset, .unset, .unset, .unset, .unset, .unset, .unset, .unset, .unset, .unset, .unset, .unset, .unset, .unset, .unset, .unset, .unset, .unset, .unset, .unset, .unset, .unset, .unset, .unset, .unset, .unset, .unset, .unset, .unset, .unset] [(.long v2), (.long (q0 &&& (9223372036854775807 : Int64)))])) := by
        intro t k
        refine go5 t ?_
        refine o_ifY X0 hx hby at_20 45 rfl (feq hc20_1).2 ?_
        refine o_lloadN X0 hx hby at_45 46 rfl rfl ?_
        refine o_ldc2Long X0 hx hby hown (mvT hZ (hw _ (List.mem_of_getElem? (i := 1) rfl))) at_46 49 rfl ?_
        refine o_land X0 hx hby at_49 50 rfl ?_
        refine o_lload X0 hx hby at_50 52 rfl rfl ?_
        exact k
      have f_nz52_1 : ¬ (v2 = (0 : Int64)) := pf0_nz52_0 q0 q1 q2 p3 v1 v2 hv1 hv2 hc20_1
      have go12 : Go p e below A0 (s₁.setTop (mkF m 55 #[.val (.long q0), .second, .val (.long q1), .second, .val (.long q2), .second, .val (.int p3), .val (.int v1), .val (.long v2), .second, .val (.long ((q0 &&& (9223372036854775807 : Int64)) % v2)), .second, .unset, .unset, .unset, .unset, .unset, .unset, .unset, .unset, .unset, .unset, .unset, .unset, .unset, .unset, .unset, .unset, .unset, .unset, .unset, .unset, .unset, .unset, .unset, .unset, .unset, .unset, .unset, .unset, .unset, .unset, .unset, .unset, .unset] [])) := by
        intro t k
        refine go11 t ?_
        refine o_lrem X0 hx hby at_52 53 rfl f_nz52_1 ?_
        refine o_lstore X0 hx hby at_53 55 rfl (l' := #[.val (.long q0), .second, .val (.long q1), .second, .val (.long q2), .second, .val (.int p3), .val (.int v1), .val (.long v2), .second, .val (.long ((q0 &&& (9223372036854775807 : Int64)) % v2)), .second, .unset, .unset, .unset, .unset, .unset, .unset, .unset, .unset, .unset, .unset, .unset, .unset, .unset, .unset, .unset, .unset, .unset, .unset, .unset, .unset, .unset, .unset, .unset, .unset, .unset, .unset, .unset, .unset, .unset, .unset, .unset, .unset, .unset]) rfl ?_
        exact k
      exact ⟨s₁, _, ((q0 &&& (9223372036854775807 : Int64)) % v2), X0, N0, e0, (if_neg hc20_1).symm, go12⟩
  have go14 : Go p e below A0 (T4.setTop (mkF m 62 #[.val (.long q0), .second, .val (.long q1), .second, .val (.long q2), .second, .val (.int p3), .val (.int v1), .val (.long v2), .second, .val (.long v4), .second, .unset, .unset, .unset, .unset, .unset, .unset, .unset, .unset, .unset, .unset, .unset, .unset, .unset, .unset, .unset, .unset, .unset, .unset, .unset, .unset, .unset, .unset, .unset, .unset, .unset, .unset, .unset, .unset, .unset, .unset, .unset, .unset, .unset] [(.int v1), (.long v2), (.long q1), (.long v4)])) := by
    intro t k
    refine go13 t ?_
    refine o_lload X4 hx hby at_55 57 rfl rfl ?_
    refine o_lloadN X4 hx hby at_57 58 rfl rfl ?_
    refine o_lload X4 hx hby at_58 60 rfl rfl ?_
    refine o_iload X4 hx hby at_60 62 rfl rfl ?_
    exact k
  have f_ok_2 : own_ok v4 v2 v1 := pf0_ok_1 q0 q1 q2 p3 v1 v2 v4 hv1 hv2 hv4
  obtain ⟨_, _, ⟨T5, L5, k5, n5⟩, -, X5, ⟨Lc5, hQ5, l5, y5, z5⟩, st5⟩ := Jvm.LawKit.callS X4 hx (y := (⟨"com/example/amortine/amortine/Words", "quotient", "(JJJI)J"⟩ : MethodName)) hown (mvT hZ (hw _ (List.mem_of_getElem? (i := 2) rfl))) (mvT hZ (hw _ (List.mem_of_getElem? (i := 3) rfl))) (mvT hZ (hw _ (List.mem_of_getElem? (i := 4) rfl))) (mvT hZ (hw _ (List.mem_of_getElem? (i := 5) rfl))) (by decide) (backOf (W := 0) (rm1 l Z aw hw [] v4 q1 v2 v1 h0 n0 Z0 (f_ok_2)) hZ (hw _ (List.mem_of_getElem? (i := 5) rfl)) (hw _ (List.mem_of_getElem? (i := 4) rfl)) (by decide) (by decide)) (g := (mkF m 62 #[.val (.long q0), .second, .val (.long q1), .second, .val (.long q2), .second, .val (.int p3), .val (.int v1), .val (.long v2), .second, .val (.long v4), .second, .unset, .unset, .unset, .unset, .unset, .unset, .unset, .unset, .unset, .unset, .unset, .unset, .unset, .unset, .unset, .unset, .unset, .unset, .unset, .unset, .unset, .unset, .unset, .unset, .unset, .unset, .unset, .unset, .unset, .unset, .unset, .unset, .unset] [(.int v1), (.long v2), (.long q1), (.long v4)])) rfl (by rw [hml]; rfl) (argsL := [(.long v4), (.long q1), (.long v2), (.int v1)]) (rest := []) (lenOf pd_3 rfl) rfl (by show 2 * 0 + _ ≤ _; exact Nat.le_of_eq rfl) (hb hby at_62) (fun _ _ => ⟨rfl, e4, (by decide : 0 + 0 ≤ _), (by decide : 0 + 0 ≤ _)⟩)
  dsimp only [Pt.U, Pt.locs, Pt.cells, Pt.slots] at X5 l5 y5 z5 st5 hQ5
  subst l5 y5 z5
  obtain ⟨r5_r, rfl, N5q, e5, qf5_0, -⟩ := hQ5
  have N5 := Fr.app N4 N5q
  have go15 : Go p e below A0 (T5.setTop (mkF m 65 #[.val (.long q0), .second, .val (.long q1), .second, .val (.long q2), .second, .val (.int p3), .val (.int v1), .val (.long v2), .second, .val (.long v4), .second, .unset, .unset, .unset, .unset, .unset, .unset, .unset, .unset, .unset, .unset, .unset, .unset, .unset, .unset, .unset, .unset, .unset, .unset, .unset, .unset, .unset, .unset, .unset, .unset, .unset, .unset, .unset, .unset, .unset, .unset, .unset, .unset, .unset] [(.long r5_r)])) := by
    intro t k
    refine go14 t ?_
    refine st5 _ ?_
    show Steps p.tables e below (T5.setTop (mkF m 65 #[.val (.long q0), .second, .val (.long q1), .second, .val (.long q2), .second, .val (.int p3), .val (.int v1), .val (.long v2), .second, .val (.long v4), .second, .unset, .unset, .unset, .unset, .unset, .unset, .unset, .unset, .unset, .unset, .unset, .unset, .unset, .unset, .unset, .unset, .unset, .unset, .unset, .unset, .unset, .unset, .unset, .unset, .unset, .unset, .unset, .unset, .unset, .unset, .unset, .unset, .unset] [(.long r5_r)])) _
    exact k
  have go16 : Go p e below A0 (T5.setTop (mkF m 67 #[.val (.long q0), .second, .val (.long q1), .second, .val (.long q2), .second, .val (.int p3), .val (.int v1), .val (.long v2), .second, .val (.long v4), .second, .val (.long r5_r), .second, .unset, .unset, .unset, .unset, .unset, .unset, .unset, .unset, .unset, .unset, .unset, .unset, .unset, .unset, .unset, .unset, .unset, .unset, .unset, .unset, .unset, .unset, .unset, .unset, .unset, .unset, .unset, .unset, .unset, .unset, .unset] [])) := by
    intro t k
    refine go15 t ?_
    refine o_lstore X5 hx hby at_65 67 rfl (l' := #[.val (.long q0), .second, .val (.long q1), .second, .val (.long q2), .second, .val (.int p3), .val (.int v1), .val (.long v2), .second, .val (.long v4), .second, .val (.long r5_r), .second, .unset, .unset, .unset, .unset, .unset, .unset, .unset, .unset, .unset, .unset, .unset, .unset, .unset, .unset, .unset, .unset, .unset, .unset, .unset, .unset, .unset, .unset, .unset, .unset, .unset, .unset, .unset, .unset, .unset, .unset, .unset]) rfl ?_
    exact k
  have go17 : Go p e below A0 (T5.setTop (mkF m 72 #[.val (.long q0), .second, .val (.long q1), .second, .val (.long q2), .second, .val (.int p3), .val (.int v1), .val (.long v2), .second, .val (.long v4), .second, .val (.long r5_r), .second, .val (.long (4294967295 : Int64)), .second, .unset, .unset, .unset, .unset, .unset, .unset, .unset, .unset, .unset, .unset, .unset, .unset, .unset, .unset, .unset, .unset, .unset, .unset, .unset, .unset, .unset, .unset, .unset, .unset, .unset, .unset, .unset, .unset, .unset] [])) := by
    intro t k
    refine go16 t ?_
    refine o_ldc2Long X5 hx hby hown (mvT hZ (hw _ (List.mem_of_getElem? (i := 8) rfl))) at_67 70 rfl ?_
    refine o_lstore X5 hx hby at_70 72 rfl (l' := #[.val (.long q0), .second, .val (.long q1), .second, .val (.long q2), .second, .val (.int p3), .val (.int v1), .val (.long v2), .second, .val (.long v4), .second, .val (.long r5_r), .second, .val (.long (4294967295 : Int64)), .second, .unset, .unset, .unset, .unset, .unset, .unset, .unset, .unset, .unset, .unset, .unset, .unset, .unset, .unset, .unset, .unset, .unset, .unset, .unset, .unset, .unset, .unset, .unset, .unset, .unset, .unset, .unset, .unset, .unset]) rfl ?_
    exact k
  have go18 : Go p e below A0 (T5.setTop (mkF m 79 #[.val (.long q0), .second, .val (.long q1), .second, .val (.long q2), .second, .val (.int p3), .val (.int v1), .val (.long v2), .second, .val (.long v4), .second, .val (.long r5_r), .second, .val (.long (4294967295 : Int64)), .second, .val (.long (r5_r &&& (4294967295 : Int64))), .second, .unset, .unset, .unset, .unset, .unset, .unset, .unset, .unset, .unset, .unset, .unset, .unset, .unset, .unset, .unset, .unset, .unset, .unset, .unset, .unset, .unset, .unset, .unset, .unset, .unset, .unset, .unset] [])) := by
    intro t k
    refine go17 t ?_
    refine o_lload X5 hx hby at_72 74 rfl rfl ?_
    refine o_lload X5 hx hby at_74 76 rfl rfl ?_
    refine o_land X5 hx hby at_76 77 rfl ?_
    refine o_lstore X5 hx hby at_77 79 rfl (l' := #[.val (.long q0), .second, .val (.long q1), .second, .val (.long q2), .second, .val (.int p3), .val (.int v1), .val (.long v2), .second, .val (.long v4), .second, .val (.long r5_r), .second, .val (.long (4294967295 : Int64)), .second, .val (.long (r5_r &&& (4294967295 : Int64))), .second, .unset, .unset, .unset, .unset, .unset, .unset, .unset, .unset, .unset, .unset, .unset, .unset, .unset, .unset, .unset, .unset, .unset, .unset, .unset, .unset, .unset, .unset, .unset, .unset, .unset, .unset, .unset]) rfl ?_
    exact k
  obtain ⟨v5, hv5, go19⟩ : ∃ v5 : Int64, v5 = (r5_r &&& (4294967295 : Int64)) ∧ Go p e below A0 (T5.setTop (mkF m 79 #[.val (.long q0), .second, .val (.long q1), .second, .val (.long q2), .second, .val (.int p3), .val (.int v1), .val (.long v2), .second, .val (.long v4), .second, .val (.long r5_r), .second, .val (.long (4294967295 : Int64)), .second, .val (.long v5), .second, .unset, .unset, .unset, .unset, .unset, .unset, .unset, .unset, .unset, .unset, .unset, .unset, .unset, .unset, .unset, .unset, .unset, .unset, .unset, .unset, .unset, .unset, .unset, .unset, .unset, .unset, .unset] [])) := ⟨_, rfl, go18⟩
  have go20 : Go p e below A0 (T5.setTop (mkF m 86 #[.val (.long q0), .second, .val (.long q1), .second, .val (.long q2), .second, .val (.int p3), .val (.int v1), .val (.long v2), .second, .val (.long v4), .second, .val (.long r5_r), .second, .val (.long (4294967295 : Int64)), .second, .val (.long v5), .second, .val (.long ((r5_r.toUInt64 >>> ((32 : Int32) &&& 0x3f).toInt64.toUInt64).toInt64)), .second, .unset, .unset, .unset, .unset, .unset, .unset, .unset, .unset, .unset, .unset, .unset, .unset, .unset, .unset, .unset, .unset, .unset, .unset, .unset, .unset, .unset, .unset, .unset, .unset, .unset] [])) := by
    intro t k
    refine go19 t ?_
    refine o_lload X5 hx hby at_79 81 rfl rfl ?_
    refine o_bipush X5 hx hby at_81 83 rfl (v := (32 : Int32)) rfl ?_
    refine o_lushr X5 hx hby at_83 84 rfl ?_
    refine o_lstore X5 hx hby at_84 86 rfl (l' := #[.val (.long q0), .second, .val (.long q1), .second, .val (.long q2), .second, .val (.int p3), .val (.int v1), .val (.long v2), .second, .val (.long v4), .second, .val (.long r5_r), .second, .val (.long (4294967295 : Int64)), .second, .val (.long v5), .second, .val (.long ((r5_r.toUInt64 >>> ((32 : Int32) &&& 0x3f).toInt64.toUInt64).toInt64)), .second, .unset, .unset, .unset, .unset, .unset, .unset, .unset, .unset, .unset, .unset, .unset, .unset, .unset, .unset, .unset, .unset, .unset, .unset, .unset, .unset, .unset, .unset, .unset, .unset, .unset]) rfl ?_
    exact k
  obtain ⟨v6, hv6, go21⟩ : ∃ v6 : Int64, v6 = ((r5_r.toUInt64 >>> ((32 : Int32) &&& 0x3f).toInt64.toUInt64).toInt64) ∧ Go p e below A0 (T5.setTop (mkF m 86 #[.val (.long q0), .second, .val (.long q1), .second, .val (.long q2), .second, .val (.int p3), .val (.int v1), .val (.long v2), .second, .val (.long v4), .second, .val (.long r5_r), .second, .val (.long (4294967295 : Int64)), .second, .val (.long v5), .second, .val (.long v6), .second, .unset, .unset, .unset, .unset, .unset, .unset, .unset, .unset, .unset, .unset, .unset, .unset, .unset, .unset, .unset, .unset, .unset, .unset, .unset, .unset, .unset, .unset, .unset, .unset, .unset] [])) := ⟨_, rfl, go20⟩
  have go22 : Go p e below A0 (T5.setTop (mkF m 93 #[.val (.long q0), .second, .val (.long q1), .second, .val (.long q2), .second, .val (.int p3), .val (.int v1), .val (.long v2), .second, .val (.long v4), .second, .val (.long r5_r), .second, .val (.long (4294967295 : Int64)), .second, .val (.long v5), .second, .val (.long v6), .second, .val (.long (v2 &&& (4294967295 : Int64))), .second, .unset, .unset, .unset, .unset, .unset, .unset, .unset, .unset, .unset, .unset, .unset, .unset, .unset, .unset, .unset, .unset, .unset, .unset, .unset, .unset, .unset, .unset, .unset] [])) := by
    intro t k
    refine go21 t ?_
    refine o_lload X5 hx hby at_86 88 rfl rfl ?_
    refine o_lload X5 hx hby at_88 90 rfl rfl ?_
    refine o_land X5 hx hby at_90 91 rfl ?_
    refine o_lstore X5 hx hby at_91 93 rfl (l' := #[.val (.long q0), .second, .val (.long q1), .second, .val (.long q2), .second, .val (.int p3), .val (.int v1), .val (.long v2), .second, .val (.long v4), .second, .val (.long r5_r), .second, .val (.long (4294967295 : Int64)), .second, .val (.long v5), .second, .val (.long v6), .second, .val (.long (v2 &&& (4294967295 : Int64))), .second, .unset, .unset, .unset, .unset, .unset, .unset, .unset, .unset, .unset, .unset, .unset, .unset, .unset, .unset, .unset, .unset, .unset, .unset, .unset, .unset, .unset, .unset, .unset]) rfl ?_
    exact k
  obtain ⟨v7, hv7, go23⟩ : ∃ v7 : Int64, v7 = (v2 &&& (4294967295 : Int64)) ∧ Go p e below A0 (T5.setTop (mkF m 93 #[.val (.long q0), .second, .val (.long q1), .second, .val (.long q2), .second, .val (.int p3), .val (.int v1), .val (.long v2), .second, .val (.long v4), .second, .val (.long r5_r), .second, .val (.long (4294967295 : Int64)), .second, .val (.long v5), .second, .val (.long v6), .second, .val (.long v7), .second, .unset, .unset, .unset, .unset, .unset, .unset, .unset, .unset, .unset, .unset, .unset, .unset, .unset, .unset, .unset, .unset, .unset, .unset, .unset, .unset, .unset, .unset, .unset] [])) := ⟨_, rfl, go22⟩
  have go24 : Go p e below A0 (T5.setTop (mkF m 100 #[.val (.long q0), .second, .val (.long q1), .second, .val (.long q2), .second, .val (.int p3), .val (.int v1), .val (.long v2), .second, .val (.long v4), .second, .val (.long r5_r), .second, .val (.long (4294967295 : Int64)), .second, .val (.long v5), .second, .val (.long v6), .second, .val (.long v7), .second, .val (.long ((v2.toUInt64 >>> ((32 : Int32) &&& 0x3f).toInt64.toUInt64).toInt64)), .second, .unset, .unset, .unset, .unset, .unset, .unset, .unset, .unset, .unset, .unset, .unset, .unset, .unset, .unset, .unset, .unset, .unset, .unset, .unset, .unset, .unset] [])) := by
    intro t k
    refine go23 t ?_
    refine o_lload X5 hx hby at_93 95 rfl rfl ?_
    refine o_bipush X5 hx hby at_95 97 rfl (v := (32 : Int32)) rfl ?_
    refine o_lushr X5 hx hby at_97 98 rfl ?_
    refine o_lstore X5 hx hby at_98 100 rfl (l' := #[.val (.long q0), .second, .val (.long q1), .second, .val (.long q2), .second, .val (.int p3), .val (.int v1), .val (.long v2), .second, .val (.long v4), .second, .val (.long r5_r), .second, .val (.long (4294967295 : Int64)), .second, .val (.long v5), .second, .val (.long v6), .second, .val (.long v7), .second, .val (.long ((v2.toUInt64 >>> ((32 : Int32) &&& 0x3f).toInt64.toUInt64).toInt64)), .second, .unset, .unset, .unset, .unset, .unset, .unset, .unset, .unset, .unset, .unset, .unset, .unset, .unset, .unset, .unset, .unset, .unset, .unset, .unset, .unset, .unset]) rfl ?_
    exact k
  obtain ⟨v8, hv8, go25⟩ : ∃ v8 : Int64, v8 = ((v2.toUInt64 >>> ((32 : Int32) &&& 0x3f).toInt64.toUInt64).toInt64) ∧ Go p e below A0 (T5.setTop (mkF m 100 #[.val (.long q0), .second, .val (.long q1), .second, .val (.long q2), .second, .val (.int p3), .val (.int v1), .val (.long v2), .second, .val (.long v4), .second, .val (.long r5_r), .second, .val (.long (4294967295 : Int64)), .second, .val (.long v5), .second, .val (.long v6), .second, .val (.long v7), .second, .val (.long v8), .second, .unset, .unset, .unset, .unset, .unset, .unset, .unset, .unset, .unset, .unset, .unset, .unset, .unset, .unset, .unset, .unset, .unset, .unset, .unset, .unset, .unset] [])) := ⟨_, rfl, go24⟩
  have go26 : Go p e below A0 (T5.setTop (mkF m 107 #[.val (.long q0), .second, .val (.long q1), .second, .val (.long q2), .second, .val (.int p3), .val (.int v1), .val (.long v2), .second, .val (.long v4), .second, .val (.long r5_r), .second, .val (.long (4294967295 : Int64)), .second, .val (.long v5), .second, .val (.long v6), .second, .val (.long v7), .second, .val (.long v8), .second, .val (.long (v5 * v7)), .second, .unset, .unset, .unset, .unset, .unset, .unset, .unset, .unset, .unset, .unset, .unset, .unset, .unset, .unset, .unset, .unset, .unset, .unset, .unset] [])) := by
    intro t k
    refine go25 t ?_
    refine o_lload X5 hx hby at_100 102 rfl rfl ?_
    refine o_lload X5 hx hby at_102 104 rfl rfl ?_
    refine o_lmul X5 hx hby at_104 105 rfl ?_
    refine o_lstore X5 hx hby at_105 107 rfl (l' := #[.val (.long q0), .second, .val (.long q1), .second, .val (.long q2), .second, .val (.int p3), .val (.int v1), .val (.long v2), .second, .val (.long v4), .second, .val (.long r5_r), .second, .val (.long (4294967295 : Int64)), .second, .val (.long v5), .second, .val (.long v6), .second, .val (.long v7), .second, .val (.long v8), .second, .val (.long (v5 * v7)), .second, .unset, .unset, .unset, .unset, .unset, .unset, .unset, .unset, .unset, .unset, .unset, .unset, .unset, .unset, .unset, .unset, .unset, .unset, .unset]) rfl ?_
    exact k
  obtain ⟨v9, hv9, go27⟩ : ∃ v9 : Int64, v9 = (v5 * v7) ∧ Go p e below A0 (T5.setTop (mkF m 107 #[.val (.long q0), .second, .val (.long q1), .second, .val (.long q2), .second, .val (.int p3), .val (.int v1), .val (.long v2), .second, .val (.long v4), .second, .val (.long r5_r), .second, .val (.long (4294967295 : Int64)), .second, .val (.long v5), .second, .val (.long v6), .second, .val (.long v7), .second, .val (.long v8), .second, .val (.long v9), .second, .unset, .unset, .unset, .unset, .unset, .unset, .unset, .unset, .unset, .unset, .unset, .unset, .unset, .unset, .unset, .unset, .unset, .unset, .unset] [])) := ⟨_, rfl, go26⟩
  have go28 : Go p e below A0 (T5.setTop (mkF m 114 #[.val (.long q0), .second, .val (.long q1), .second, .val (.long q2), .second, .val (.int p3), .val (.int v1), .val (.long v2), .second, .val (.long v4), .second, .val (.long r5_r), .second, .val (.long (4294967295 : Int64)), .second, .val (.long v5), .second, .val (.long v6), .second, .val (.long v7), .second, .val (.long v8), .second, .val (.long v9), .second, .val (.long (v5 * v8)), .second, .unset, .unset, .unset, .unset, .unset, .unset, .unset, .unset, .unset, .unset, .unset, .unset, .unset, .unset, .unset, .unset, .unset] [])) := by
    intro t k
    refine go27 t ?_
    refine o_lload X5 hx hby at_107 109 rfl rfl ?_
    refine o_lload X5 hx hby at_109 111 rfl rfl ?_
    refine o_lmul X5 hx hby at_111 112 rfl ?_
    refine o_lstore X5 hx hby at_112 114 rfl (l' := #[.val (.long q0), .second, .val (.long q1), .second, .val (.long q2), .second, .val (.int p3), .val (.int v1), .val (.long v2), .second, .val (.long v4), .second, .val (.long r5_r), .second, .val (.long (4294967295 : Int64)), .second, .val (.long v5), .second, .val (.long v6), .second, .val (.long v7), .second, .val (.long v8), .second, .val (.long v9), .second, .val (.long (v5 * v8)), .second, .unset, .unset, .unset, .unset, .unset, .unset, .unset, .unset, .unset, .unset, .unset, .unset, .unset, .unset, .unset, .unset, .unset]) rfl ?_
    exact k
  obtain ⟨v10, hv10, go29⟩ : ∃ v10 : Int64, v10 = (v5 * v8) ∧ Go p e below A0 (T5.setTop (mkF m 114 #[.val (.long q0), .second, .val (.long q1), .second, .val (.long q2), .second, .val (.int p3), .val (.int v1), .val (.long v2), .second, .val (.long v4), .second, .val (.long r5_r), .second, .val (.long (4294967295 : Int64)), .second, .val (.long v5), .second, .val (.long v6), .second, .val (.long v7), .second, .val (.long v8), .second, .val (.long v9), .second, .val (.long v10), .second, .unset, .unset, .unset, .unset, .unset, .unset, .unset, .unset, .unset, .unset, .unset, .unset, .unset, .unset, .unset, .unset, .unset] [])) := ⟨_, rfl, go28⟩
  have go30 : Go p e below A0 (T5.setTop (mkF m 121 #[.val (.long q0), .second, .val (.long q1), .second, .val (.long q2), .second, .val (.int p3), .val (.int v1), .val (.long v2), .second, .val (.long v4), .second, .val (.long r5_r), .second, .val (.long (4294967295 : Int64)), .second, .val (.long v5), .second, .val (.long v6), .second, .val (.long v7), .second, .val (.long v8), .second, .val (.long v9), .second, .val (.long v10), .second, .val (.long (v6 * v7)), .second, .unset, .unset, .unset, .unset, .unset, .unset, .unset, .unset, .unset, .unset, .unset, .unset, .unset, .unset, .unset] [])) := by
    intro t k
    refine go29 t ?_
    refine o_lload X5 hx hby at_114 116 rfl rfl ?_
    refine o_lload X5 hx hby at_116 118 rfl rfl ?_
    refine o_lmul X5 hx hby at_118 119 rfl ?_
    refine o_lstore X5 hx hby at_119 121 rfl (l' := #[.val (.long q0), .second, .val (.long q1), .second, .val (.long q2), .second, .val (.int p3), .val (.int v1), .val (.long v2), .second, .val (.long v4), .second, .val (.long r5_r), .second, .val (.long (4294967295 : Int64)), .second, .val (.long v5), .second, .val (.long v6), .second, .val (.long v7), .second, .val (.long v8), .second, .val (.long v9), .second, .val (.long v10), .second, .val (.long (v6 * v7)), .second, .unset, .unset, .unset, .unset, .unset, .unset, .unset, .unset, .unset, .unset, .unset, .unset, .unset, .unset, .unset]) rfl ?_
    exact k
  obtain ⟨v11, hv11, go31⟩ : ∃ v11 : Int64, v11 = (v6 * v7) ∧ Go p e below A0 (T5.setTop (mkF m 121 #[.val (.long q0), .second, .val (.long q1), .second, .val (.long q2), .second, .val (.int p3), .val (.int v1), .val (.long v2), .second, .val (.long v4), .second, .val (.long r5_r), .second, .val (.long (4294967295 : Int64)), .second, .val (.long v5), .second, .val (.long v6), .second, .val (.long v7), .second, .val (.long v8), .second, .val (.long v9), .second, .val (.long v10), .second, .val (.long v11), .second, .unset, .unset, .unset, .unset, .unset, .unset, .unset, .unset, .unset, .unset, .unset, .unset, .unset, .unset, .unset] [])) := ⟨_, rfl, go30⟩
  have go32 : Go p e below A0 (T5.setTop (mkF m 128 #[.val (.long q0), .second, .val (.long q1), .second, .val (.long q2), .second, .val (.int p3), .val (.int v1), .val (.long v2), .second, .val (.long v4), .second, .val (.long r5_r), .second, .val (.long (4294967295 : Int64)), .second, .val (.long v5), .second, .val (.long v6), .second, .val (.long v7), .second, .val (.long v8), .second, .val (.long v9), .second, .val (.long v10), .second, .val (.long v11), .second, .val (.long (v6 * v8)), .second, .unset, .unset, .unset, .unset, .unset, .unset, .unset, .unset, .unset, .unset, .unset, .unset, .unset] [])) := by
    intro t k
    refine go31 t ?_
    refine o_lload X5 hx hby at_121 123 rfl rfl ?_
    refine o_lload X5 hx hby at_123 125 rfl rfl ?_
    refine o_lmul X5 hx hby at_125 126 rfl ?_
    refine o_lstore X5 hx hby at_126 128 rfl (l' := #[.val (.long q0), .second, .val (.long q1), .second, .val (.long q2), .second, .val (.int p3), .val (.int v1), .val (.long v2), .second, .val (.long v4), .second, .val (.long r5_r), .second, .val (.long (4294967295 : Int64)), .second, .val (.long v5), .second, .val (.long v6), .second, .val (.long v7), .second, .val (.long v8), .second, .val (.long v9), .second, .val (.long v10), .second, .val (.long v11), .second, .val (.long (v6 * v8)), .second, .unset, .unset, .unset, .unset, .unset, .unset, .unset, .unset, .unset, .unset, .unset, .unset, .unset]) rfl ?_
    exact k
  obtain ⟨v12, hv12, go33⟩ : ∃ v12 : Int64, v12 = (v6 * v8) ∧ Go p e below A0 (T5.setTop (mkF m 128 #[.val (.long q0), .second, .val (.long q1), .second, .val (.long q2), .second, .val (.int p3), .val (.int v1), .val (.long v2), .second, .val (.long v4), .second, .val (.long r5_r), .second, .val (.long (4294967295 : Int64)), .second, .val (.long v5), .second, .val (.long v6), .second, .val (.long v7), .second, .val (.long v8), .second, .val (.long v9), .second, .val (.long v10), .second, .val (.long v11), .second, .val (.long v12), .second, .unset, .unset, .unset, .unset, .unset, .unset, .unset, .unset, .unset, .unset, .unset, .unset, .unset] [])) := ⟨_, rfl, go32⟩
  have go34 : Go p e below A0 (T5.setTop (mkF m 147 #[.val (.long q0), .second, .val (.long q1), .second, .val (.long q2), .second, .val (.int p3), .val (.int v1), .val (.long v2), .second, .val (.long v4), .second, .val (.long r5_r), .second, .val (.long (4294967295 : Int64)), .second, .val (.long v5), .second, .val (.long v6), .second, .val (.long v7), .second, .val (.long v8), .second, .val (.long v9), .second, .val (.long v10), .second, .val (.long v11), .second, .val (.long v12), .second, .val (.long ((((v9.toUInt64 >>> ((32 : Int32) &&& 0x3f).toInt64.toUInt64).toInt64) + (v10 &&& (4294967295 : Int64))) + (v11 &&& (4294967295 : Int64)))), .second, .unset, .unset, .unset, .unset, .unset, .unset, .unset, .unset, .unset, .unset, .unset] [])) := by
    intro t k
    refine go33 t ?_
    refine o_lload X5 hx hby at_128 130 rfl rfl ?_
    refine o_bipush X5 hx hby at_130 132 rfl (v := (32 : Int32)) rfl ?_
    refine o_lushr X5 hx hby at_132 133 rfl ?_
    refine o_lload X5 hx hby at_133 135 rfl rfl ?_
    refine o_lload X5 hx hby at_135 137 rfl rfl ?_
    refine o_land X5 hx hby at_137 138 rfl ?_
    refine o_ladd X5 hx hby at_138 139 rfl ?_
    refine o_lload X5 hx hby at_139 141 rfl rfl ?_
    refine o_lload X5 hx hby at_141 143 rfl rfl ?_
    refine o_land X5 hx hby at_143 144 rfl ?_
    refine o_ladd X5 hx hby at_144 145 rfl ?_
    refine o_lstore X5 hx hby at_145 147 rfl (l' := #[.val (.long q0), .second, .val (.long q1), .second, .val (.long q2), .second, .val (.int p3), .val (.int v1), .val (.long v2), .second, .val (.long v4), .second, .val (.long r5_r), .second, .val (.long (4294967295 : Int64)), .second, .val (.long v5), .second, .val (.long v6), .second, .val (.long v7), .second, .val (.long v8), .second, .val (.long v9), .second, .val (.long v10), .second, .val (.long v11), .second, .val (.long v12), .second, .val (.long ((((v9.toUInt64 >>> ((32 : Int32) &&& 0x3f).toInt64.toUInt64).toInt64) + (v10 &&& (4294967295 : Int64))) + (v11 &&& (4294967295 : Int64)))), .second, .unset, .unset, .unset, .unset, .unset, .unset, .unset, .unset, .unset, .unset, .unset]) rfl ?_
    exact k
  obtain ⟨v13, hv13, go35⟩ : ∃ v13 : Int64, v13 = ((((v9.toUInt64 >>> ((32 : Int32) &&& 0x3f).toInt64.toUInt64).toInt64) + (v10 &&& (4294967295 : Int64))) + (v11 &&& (4294967295 : Int64))) ∧ Go p e below A0 (T5.setTop (mkF m 147 #[.val (.long q0), .second, .val (.long q1), .second, .val (.long q2), .second, .val (.int p3), .val (.int v1), .val (.long v2), .second, .val (.long v4), .second, .val (.long r5_r), .second, .val (.long (4294967295 : Int64)), .second, .val (.long v5), .second, .val (.long v6), .second, .val (.long v7), .second, .val (.long v8), .second, .val (.long v9), .second, .val (.long v10), .second, .val (.long v11), .second, .val (.long v12), .second, .val (.long v13), .second, .unset, .unset, .unset, .unset, .unset, .unset, .unset, .unset, .unset, .unset, .unset] [])) := ⟨_, rfl, go34⟩
  have go36 : Go p e below A0 (T5.setTop (mkF m 160 #[.val (.long q0), .second, .val (.long q1), .second, .val (.long q2), .second, .val (.int p3), .val (.int v1), .val (.long v2), .second, .val (.long v4), .second, .val (.long r5_r), .second, .val (.long (4294967295 : Int64)), .second, .val (.long v5), .second, .val (.long v6), .second, .val (.long v7), .second, .val (.long v8), .second, .val (.long v9), .second, .val (.long v10), .second, .val (.long v11), .second, .val (.long v12), .second, .val (.long v13), .second, .val (.long ((v13 <<< ((32 : Int32) &&& 0x3f).toInt64) ||| (v9 &&& (4294967295 : Int64)))), .second, .unset, .unset, .unset, .unset, .unset, .unset, .unset, .unset, .unset] [])) := by
    intro t k
    refine go35 t ?_
    refine o_lload X5 hx hby at_147 149 rfl rfl ?_
    refine o_bipush X5 hx hby at_149 151 rfl (v := (32 : Int32)) rfl ?_
    refine o_lshl X5 hx hby at_151 152 rfl ?_
    refine o_lload X5 hx hby at_152 154 rfl rfl ?_
    refine o_lload X5 hx hby at_154 156 rfl rfl ?_
    refine o_land X5 hx hby at_156 157 rfl ?_
    refine o_lor X5 hx hby at_157 158 rfl ?_
    refine o_lstore X5 hx hby at_158 160 rfl (l' := #[.val (.long q0), .second, .val (.long q1), .second, .val (.long q2), .second, .val (.int p3), .val (.int v1), .val (.long v2), .second, .val (.long v4), .second, .val (.long r5_r), .second, .val (.long (4294967295 : Int64)), .second, .val (.long v5), .second, .val (.long v6), .second, .val (.long v7), .second, .val (.long v8), .second, .val (.long v9), .second, .val (.long v10), .second, .val (.long v11), .second, .val (.long v12), .second, .val (.long v13), .second, .val (.long ((v13 <<< ((32 : Int32) &&& 0x3f).toInt64) ||| (v9 &&& (4294967295 : Int64)))), .second, .unset, .unset, .unset, .unset, .unset, .unset, .unset, .unset, .unset]) rfl ?_
    exact k
  obtain ⟨v14, hv14, go37⟩ : ∃ v14 : Int64, v14 = ((v13 <<< ((32 : Int32) &&& 0x3f).toInt64) ||| (v9 &&& (4294967295 : Int64))) ∧ Go p e below A0 (T5.setTop (mkF m 160 #[.val (.long q0), .second, .val (.long q1), .second, .val (.long q2), .second, .val (.int p3), .val (.int v1), .val (.long v2), .second, .val (.long v4), .second, .val (.long r5_r), .second, .val (.long (4294967295 : Int64)), .second, .val (.long v5), .second, .val (.long v6), .second, .val (.long v7), .second, .val (.long v8), .second, .val (.long v9), .second, .val (.long v10), .second, .val (.long v11), .second, .val (.long v12), .second, .val (.long v13), .second, .val (.long v14), .second, .unset, .unset, .unset, .unset, .unset, .unset, .unset, .unset, .unset] [])) := ⟨_, rfl, go36⟩
  have go38 : Go p e below A0 (T5.setTop (mkF m 182 #[.val (.long q0), .second, .val (.long q1), .second, .val (.long q2), .second, .val (.int p3), .val (.int v1), .val (.long v2), .second, .val (.long v4), .second, .val (.long r5_r), .second, .val (.long (4294967295 : Int64)), .second, .val (.long v5), .second, .val (.long v6), .second, .val (.long v7), .second, .val (.long v8), .second, .val (.long v9), .second, .val (.long v10), .second, .val (.long v11), .second, .val (.long v12), .second, .val (.long v13), .second, .val (.long v14), .second, .val (.long (((v12 + ((v10.toUInt64 >>> ((32 : Int32) &&& 0x3f).toInt64.toUInt64).toInt64)) + ((v11.toUInt64 >>> ((32 : Int32) &&& 0x3f).toInt64.toUInt64).toInt64)) + ((v13.toUInt64 >>> ((32 : Int32) &&& 0x3f).toInt64.toUInt64).toInt64))), .second, .unset, .unset, .unset, .unset, .unset, .unset, .unset] [])) := by
    intro t k
    refine go37 t ?_
    refine o_lload X5 hx hby at_160 162 rfl rfl ?_
    refine o_lload X5 hx hby at_162 164 rfl rfl ?_
    refine o_bipush X5 hx hby at_164 166 rfl (v := (32 : Int32)) rfl ?_
    refine o_lushr X5 hx hby at_166 167 rfl ?_
    refine o_ladd X5 hx hby at_167 168 rfl ?_
    refine o_lload X5 hx hby at_168 170 rfl rfl ?_
    refine o_bipush X5 hx hby at_170 172 rfl (v := (32 : Int32)) rfl ?_
    refine o_lushr X5 hx hby at_172 173 rfl ?_
    refine o_ladd X5 hx hby at_173 174 rfl ?_
    refine o_lload X5 hx hby at_174 176 rfl rfl ?_
    refine o_bipush X5 hx hby at_176 178 rfl (v := (32 : Int32)) rfl ?_
    refine o_lushr X5 hx hby at_178 179 rfl ?_
    refine o_ladd X5 hx hby at_179 180 rfl ?_
    refine o_lstore X5 hx hby at_180 182 rfl (l' := #[.val (.long q0), .second, .val (.long q1), .second, .val (.long q2), .second, .val (.int p3), .val (.int v1), .val (.long v2), .second, .val (.long v4), .second, .val (.long r5_r), .second, .val (.long (4294967295 : Int64)), .second, .val (.long v5), .second, .val (.long v6), .second, .val (.long v7), .second, .val (.long v8), .second, .val (.long v9), .second, .val (.long v10), .second, .val (.long v11), .second, .val (.long v12), .second, .val (.long v13), .second, .val (.long v14), .second, .val (.long (((v12 + ((v10.toUInt64 >>> ((32 : Int32) &&& 0x3f).toInt64.toUInt64).toInt64)) + ((v11.toUInt64 >>> ((32 : Int32) &&& 0x3f).toInt64.toUInt64).toInt64)) + ((v13.toUInt64 >>> ((32 : Int32) &&& 0x3f).toInt64.toUInt64).toInt64))), .second, .unset, .unset, .unset, .unset, .unset, .unset, .unset]) rfl ?_
    exact k
  obtain ⟨v15, hv15, go39⟩ : ∃ v15 : Int64, v15 = (((v12 + ((v10.toUInt64 >>> ((32 : Int32) &&& 0x3f).toInt64.toUInt64).toInt64)) + ((v11.toUInt64 >>> ((32 : Int32) &&& 0x3f).toInt64.toUInt64).toInt64)) + ((v13.toUInt64 >>> ((32 : Int32) &&& 0x3f).toInt64.toUInt64).toInt64)) ∧ Go p e below A0 (T5.setTop (mkF m 182 #[.val (.long q0), .second, .val (.long q1), .second, .val (.long q2), .second, .val (.int p3), .val (.int v1), .val (.long v2), .second, .val (.long v4), .second, .val (.long r5_r), .second, .val (.long (4294967295 : Int64)), .second, .val (.long v5), .second, .val (.long v6), .second, .val (.long v7), .second, .val (.long v8), .second, .val (.long v9), .second, .val (.long v10), .second, .val (.long v11), .second, .val (.long v12), .second, .val (.long v13), .second, .val (.long v14), .second, .val (.long v15), .second, .unset, .unset, .unset, .unset, .unset, .unset, .unset] [])) := ⟨_, rfl, go38⟩
  have go40 : Go p e below A0 (T5.setTop (mkF m 186 #[.val (.long q0), .second, .val (.long q1), .second, .val (.long q2), .second, .val (.int p3), .val (.int v1), .val (.long v2), .second, .val (.long v4), .second, .val (.long r5_r), .second, .val (.long (4294967295 : Int64)), .second, .val (.long v5), .second, .val (.long v6), .second, .val (.long v7), .second, .val (.long v8), .second, .val (.long v9), .second, .val (.long v10), .second, .val (.long v11), .second, .val (.long v12), .second, .val (.long v13), .second, .val (.long v14), .second, .val (.long v15), .second, .unset, .unset, .unset, .unset, .unset, .unset, .unset] [(.long v4), (.long v15)])) := by
    intro t k
    refine go39 t ?_
    refine o_lload X5 hx hby at_182 184 rfl rfl ?_
    refine o_lload X5 hx hby at_184 186 rfl rfl ?_
    exact k
  obtain ⟨_, _, ⟨T6, L6, k6, n6⟩, -, X6, ⟨Lc6, hQ6, l6, y6, z6⟩, st6⟩ := Jvm.LawKit.callS X5 hx (y := (⟨"com/example/amortine/amortine/WordsQuotientPinLaw", "ult", "(JJ)Z"⟩ : MethodName)) hown (mvT hZ (hw _ (List.mem_of_getElem? (i := 9) rfl))) (mvT hZ (hw _ (List.mem_of_getElem? (i := 10) rfl))) (mvT hZ (hw _ (List.mem_of_getElem? (i := 11) rfl))) (mvT hZ (hw _ (List.mem_of_getElem? (i := 12) rfl))) (by decide) (backOf (W := 0) (rm2 l Z aw hw [] v15 v4 h0 n0 Z0) hZ (hw _ (List.mem_of_getElem? (i := 12) rfl)) (hw _ (List.mem_of_getElem? (i := 11) rfl)) (by decide) (by decide)) (g := (mkF m 186 #[.val (.long q0), .second, .val (.long q1), .second, .val (.long q2), .second, .val (.int p3), .val (.int v1), .val (.long v2), .second, .val (.long v4), .second, .val (.long r5_r), .second, .val (.long (4294967295 : Int64)), .second, .val (.long v5), .second, .val (.long v6), .second, .val (.long v7), .second, .val (.long v8), .second, .val (.long v9), .second, .val (.long v10), .second, .val (.long v11), .second, .val (.long v12), .second, .val (.long v13), .second, .val (.long v14), .second, .val (.long v15), .second, .unset, .unset, .unset, .unset, .unset, .unset, .unset] [(.long v4), (.long v15)])) rfl (by rw [hml]; rfl) (argsL := [(.long v15), (.long v4)]) (rest := []) (lenOf pd_2 rfl) rfl (by show 2 * 0 + _ ≤ _; exact Nat.le_of_eq rfl) (hb hby at_186) (fun _ _ => ⟨rfl, e5, (by decide : 0 + 0 ≤ _), (by decide : 0 + 0 ≤ _)⟩)
  dsimp only [Pt.U, Pt.locs, Pt.cells, Pt.slots] at X6 l6 y6 z6 st6 hQ6
  subst l6 y6 z6
  obtain ⟨rfl, N6q, e6⟩ := hQ6
  have N6 := Fr.app N5 N6q
  have go41 : Go p e below A0 (T6.setTop (mkF m 189 #[.val (.long q0), .second, .val (.long q1), .second, .val (.long q2), .second, .val (.int p3), .val (.int v1), .val (.long v2), .second, .val (.long v4), .second, .val (.long r5_r), .second, .val (.long (4294967295 : Int64)), .second, .val (.long v5), .second, .val (.long v6), .second, .val (.long v7), .second, .val (.long v8), .second, .val (.long v9), .second, .val (.long v10), .second, .val (.long v11), .second, .val (.long v12), .second, .val (.long v13), .second, .val (.long v14), .second, .val (.long v15), .second, .unset, .unset, .unset, .unset, .unset, .unset, .unset] [(.int (Fult v15 v4))])) := by
    intro t k
    refine go40 t ?_
    refine st6 _ ?_
    show Steps p.tables e below (T6.setTop (mkF m 189 #[.val (.long q0), .second, .val (.long q1), .second, .val (.long q2), .second, .val (.int p3), .val (.int v1), .val (.long v2), .second, .val (.long v4), .second, .val (.long r5_r), .second, .val (.long (4294967295 : Int64)), .second, .val (.long v5), .second, .val (.long v6), .second, .val (.long v7), .second, .val (.long v8), .second, .val (.long v9), .second, .val (.long v10), .second, .val (.long v11), .second, .val (.long v12), .second, .val (.long v13), .second, .val (.long v14), .second, .val (.long v15), .second, .unset, .unset, .unset, .unset, .unset, .unset, .unset] [(.int (Fult v15 v4))])) _
    exact k
  obtain ⟨v16, hv16, go42⟩ : ∃ v16 : Int32, v16 = (Fult v15 v4) ∧ Go p e below A0 (T6.setTop (mkF m 189 #[.val (.long q0), .second, .val (.long q1), .second, .val (.long q2), .second, .val (.int p3), .val (.int v1), .val (.long v2), .second, .val (.long v4), .second, .val (.long r5_r), .second, .val (.long (4294967295 : Int64)), .second, .val (.long v5), .second, .val (.long v6), .second, .val (.long v7), .second, .val (.long v8), .second, .val (.long v9), .second, .val (.long v10), .second, .val (.long v11), .second, .val (.long v12), .second, .val (.long v13), .second, .val (.long v14), .second, .val (.long v15), .second, .unset, .unset, .unset, .unset, .unset, .unset, .unset] [(.int v16)])) := ⟨_, rfl, go41⟩
  obtain ⟨T12, l12, v19, X12, N12, e12, hv19, go51⟩ : ∃ (T12 : State) (l12 : List Loc) (v19 : Int32), Stand p l e room_1 s m #[(.long q0), (.long q1), (.long q2), (.int p3)] below meth c T12 l12 0 0 ∧ Fr n0 l12 ∧ T12.heap = h0 ∧ v19 = (if v16 = (0 : Int32) then (if v15 = v4 then (if (Fult q1 v14) = (0 : Int32) then (1 : Int32) else (0 : Int32)) else (0 : Int32)) else (1 : Int32)) ∧ Go p e below A0 (T12.setTop (mkF m 214 #[.val (.long q0), .second, .val (.long q1), .second, .val (.long q2), .second, .val (.int p3), .val (.int v1), .val (.long v2), .second, .val (.long v4), .second, .val (.long r5_r), .second, .val (.long (4294967295 : Int64)), .second, .val (.long v5), .second, .val (.long v6), .second, .val (.long v7), .second, .val (.long v8), .second, .val (.long v9), .second, .val (.long v10), .second, .val (.long v11), .second, .val (.long v12), .second, .val (.long v13), .second, .val (.long v14), .second, .val (.long v15), .second, .unset, .unset, .unset, .unset, .unset, .unset, .unset] [(.int v19)])) := by
    by_cases hc189_7 : v16 = (0 : Int32)
    · have go43 : Go p e below A0 (T6.setTop (mkF m 197 #[.val (.long q0), .second, .val (.long q1), .second, .val (.long q2), .second, .val (.int p3), .val (.int v1), .val (.long v2), .second, .val (.long v4), .second, .val (.long r5_r), .second, .val (.long (4294967295 : Int64)), .second, .val (.long v5), .second, .val (.long v6), .second, .val (.long v7), .second, .val (.long v8), .second, .val (.long v9), .second, .val (.long v10), .second, .val (.long v11), .second, .val (.long v12), .second, .val (.long v13), .second, .val (.long v14), .second, .val (.long v15), .second, .unset, .unset, .unset, .unset, .unset, .unset, .unset] [(.int (lcmpW v15 v4))])) := by
        intro t k
        refine go42 t ?_
        refine o_ifN X6 hx hby at_189 192 rfl (teq hc189_7).2 ?_
        refine o_lload X6 hx hby at_192 194 rfl rfl ?_
        refine o_lload X6 hx hby at_194 196 rfl rfl ?_
        refine o_lcmp X6 hx hby at_196 197 rfl ?_
        exact k
      obtain ⟨T11, l11, v18, X11, N11, e11, hv18, go49⟩ : ∃ (T11 : State) (l11 : List Loc) (v18 : Int32), Stand p l e room_1 s m #[(.long q0), (.long q1), (.long q2), (.int p3)] below meth c T11 l11 0 0 ∧ Fr n0 l11 ∧ T11.heap = h0 ∧ v18 = (if v15 = v4 then (if (Fult q1 v14) = (0 : Int32) then (1 : Int32) else (0 : Int32)) else (0 : Int32)) ∧ Go p e below A0 (T11.setTop (mkF m 214 #[.val (.long q0), .second, .val (.long q1), .second, .val (.long q2), .second, .val (.int p3), .val (.int v1), .val (.long v2), .second, .val (.long v4), .second, .val (.long r5_r), .second, .val (.long (4294967295 : Int64)), .second, .val (.long v5), .second, .val (.long v6), .second, .val (.long v7), .second, .val (.long v8), .second, .val (.long v9), .second, .val (.long v10), .second, .val (.long v11), .second, .val (.long v12), .second, .val (.long v13), .second, .val (.long v14), .second, .val (.long v15), .second, .unset, .unset, .unset, .unset, .unset, .unset, .unset] [(.int v18)])) := by
        by_cases hc197_8 : v15 = v4
        · obtain ⟨_, _, ⟨T9, L9, k9, n9⟩, -, X9, ⟨Lc9, hQ9, l9, y9, z9⟩, st9⟩ := Jvm.LawKit.callS X6 hx (y := (⟨"com/example/amortine/amortine/WordsQuotientPinLaw", "ult", "(JJ)Z"⟩ : MethodName)) hown (mvT hZ (hw _ (List.mem_of_getElem? (i := 9) rfl))) (mvT hZ (hw _ (List.mem_of_getElem? (i := 10) rfl))) (mvT hZ (hw _ (List.mem_of_getElem? (i := 11) rfl))) (mvT hZ (hw _ (List.mem_of_getElem? (i := 12) rfl))) (by decide) (backOf (W := 0) (rm2 l Z aw hw [] q1 v14 h0 n0 Z0) hZ (hw _ (List.mem_of_getElem? (i := 12) rfl)) (hw _ (List.mem_of_getElem? (i := 11) rfl)) (by decide) (by decide)) (g := (mkF m 203 #[.val (.long q0), .second, .val (.long q1), .second, .val (.long q2), .second, .val (.int p3), .val (.int v1), .val (.long v2), .second, .val (.long v4), .second, .val (.long r5_r), .second, .val (.long (4294967295 : Int64)), .second, .val (.long v5), .second, .val (.long v6), .second, .val (.long v7), .second, .val (.long v8), .second, .val (.long v9), .second, .val (.long v10), .second, .val (.long v11), .second, .val (.long v12), .second, .val (.long v13), .second, .val (.long v14), .second, .val (.long v15), .second, .unset, .unset, .unset, .unset, .unset, .unset, .unset] [(.long v14), (.long q1)])) rfl (by rw [hml]; rfl) (argsL := [(.long q1), (.long v14)]) (rest := []) (lenOf pd_2 rfl) rfl (by show 2 * 0 + _ ≤ _; exact Nat.le_of_eq rfl) (hb hby at_203) (fun _ _ => ⟨rfl, e6, (by decide : 0 + 0 ≤ _), (by decide : 0 + 0 ≤ _)⟩)
          dsimp only [Pt.U, Pt.locs, Pt.cells, Pt.slots] at X9 l9 y9 z9 st9 hQ9
          subst l9 y9 z9
          obtain ⟨rfl, N9q, e9⟩ := hQ9
          have N9 := Fr.app N6 N9q
          have go44 : Go p e below A0 (T9.setTop (mkF m 206 #[.val (.long q0), .second, .val (.long q1), .second, .val (.long q2), .second, .val (.int p3), .val (.int v1), .val (.long v2), .second, .val (.long v4), .second, .val (.long r5_r), .second, .val (.long (4294967295 : Int64)), .second, .val (.long v5), .second, .val (.long v6), .second, .val (.long v7), .second, .val (.long v8), .second, .val (.long v9), .second, .val (.long v10), .second, .val (.long v11), .second, .val (.long v12), .second, .val (.long v13), .second, .val (.long v14), .second, .val (.long v15), .second, .unset, .unset, .unset, .unset, .unset, .unset, .unset] [(.int (Fult q1 v14))])) := by
            intro t k
            refine go43 t ?_
            refine o_ifN X6 hx hby at_197 200 rfl (teq ((lw_eq v15 v4).mpr hc197_8)).2 ?_
            refine o_lloadN X6 hx hby at_200 201 rfl rfl ?_
            refine o_lload X6 hx hby at_201 203 rfl rfl ?_
            refine st9 _ ?_
            show Steps p.tables e below (T9.setTop (mkF m 206 #[.val (.long q0), .second, .val (.long q1), .second, .val (.long q2), .second, .val (.int p3), .val (.int v1), .val (.long v2), .second, .val (.long v4), .second, .val (.long r5_r), .second, .val (.long (4294967295 : Int64)), .second, .val (.long v5), .second, .val (.long v6), .second, .val (.long v7), .second, .val (.long v8), .second, .val (.long v9), .second, .val (.long v10), .second, .val (.long v11), .second, .val (.long v12), .second, .val (.long v13), .second, .val (.long v14), .second, .val (.long v15), .second, .unset, .unset, .unset, .unset, .unset, .unset, .unset] [(.int (Fult q1 v14))])) _
            exact k
          obtain ⟨v17, hv17, go47⟩ : ∃ (v17 : Int32), v17 = (if (Fult q1 v14) = (0 : Int32) then (1 : Int32) else (0 : Int32)) ∧ Go p e below A0 (T9.setTop (mkF m 214 #[.val (.long q0), .second, .val (.long q1), .second, .val (.long q2), .second, .val (.int p3), .val (.int v1), .val (.long v2), .second, .val (.long v4), .second, .val (.long r5_r), .second, .val (.long (4294967295 : Int64)), .second, .val (.long v5), .second, .val (.long v6), .second, .val (.long v7), .second, .val (.long v8), .second, .val (.long v9), .second, .val (.long v10), .second, .val (.long v11), .second, .val (.long v12), .second, .val (.long v13), .second, .val (.long v14), .second, .val (.long v15), .second, .unset, .unset, .unset, .unset, .unset, .unset, .unset] [(.int v17)])) := by
            by_cases hc206_10 : (Fult q1 v14) = (0 : Int32)
            · have go45 : Go p e below A0 (T9.setTop (mkF m 214 #[.val (.long q0), .second, .val (.long q1), .second, .val (.long q2), .second, .val (.int p3), .val (.int v1), .val (.long v2), .second, .val (.long v4), .second, .val (.long r5_r), .second, .val (.long (4294967295 : Int64)), .second, .val (.long v5), .second, .val (.long v6), .second, .val (.long v7), .second, .val (.long v8), .second, .val (.long v9), .second, .val (.long v10), .second, .val (.long v11), .second, .val (.long v12), .second, .val (.long v13), .second, .val (.long v14), .second, .val (.long v15), .second, .unset, .unset, .unset, .unset, .unset, .unset, .unset] [(.int (1 : Int32))])) := by
                intro t k
                refine go44 t ?_
                refine o_ifN X9 hx hby at_206 209 rfl (teq hc206_10).2 ?_
                refine o_iconst X9 hx hby at_209 210 rfl (v := (1 : Int32)) rfl ?_
                refine o_goto X9 hx hby at_210 214 rfl ?_
                exact k
              exact ⟨(1 : Int32), (if_pos hc206_10).symm, go45⟩
            · have go46 : Go p e below A0 (T9.setTop (mkF m 214 #[.val (.long q0), .second, .val (.long q1), .second, .val (.long q2), .second, .val (.int p3), .val (.int v1), .val (.long v2), .second, .val (.long v4), .second, .val (.long r5_r), .second, .val (.long (4294967295 : Int64)), .second, .val (.long v5), .second, .val (.long v6), .second, .val (.long v7), .second, .val (.long v8), .second, .val (.long v9), .second, .val (.long v10), .second, .val (.long v11), .second, .val (.long v12), .second, .val (.long v13), .second, .val (.long v14), .second, .val (.long v15), .second, .unset, .unset, .unset, .unset, .unset, .unset, .unset] [(.int (0 : Int32))])) := by
                intro t k
                refine go44 t ?_
                refine o_ifY X9 hx hby at_206 213 rfl (feq hc206_10).2 ?_
                refine o_iconst X9 hx hby at_213 214 rfl (v := (0 : Int32)) rfl ?_
                exact k
              exact ⟨(0 : Int32), (if_neg hc206_10).symm, go46⟩
          rw [hv17] at go47
          exact ⟨T9, _, (if (Fult q1 v14) = (0 : Int32) then (1 : Int32) else (0 : Int32)), X9, N9, e9, (if_pos hc197_8).symm, go47⟩
        · have go48 : Go p e below A0 (T6.setTop (mkF m 214 #[.val (.long q0), .second, .val (.long q1), .second, .val (.long q2), .second, .val (.int p3), .val (.int v1), .val (.long v2), .second, .val (.long v4), .second, .val (.long r5_r), .second, .val (.long (4294967295 : Int64)), .second, .val (.long v5), .second, .val (.long v6), .second, .val (.long v7), .second, .val (.long v8), .second, .val (.long v9), .second, .val (.long v10), .second, .val (.long v11), .second, .val (.long v12), .second, .val (.long v13), .second, .val (.long v14), .second, .val (.long v15), .second, .unset, .unset, .unset, .unset, .unset, .unset, .unset] [(.int (0 : Int32))])) := by
            intro t k
            refine go43 t ?_
            refine o_ifY X6 hx hby at_197 213 rfl (feq (fun q => hc197_8 ((lw_eq v15 v4).mp q))).2 ?_
            refine o_iconst X6 hx hby at_213 214 rfl (v := (0 : Int32)) rfl ?_
            exact k
          exact ⟨T6, _, (0 : Int32), X6, N6, e6, (if_neg hc197_8).symm, go48⟩
      rw [hv18] at go49
      exact ⟨T11, _, (if v15 = v4 then (if (Fult q1 v14) = (0 : Int32) then (1 : Int32) else (0 : Int32)) else (0 : Int32)), X11, N11, e11, (if_pos hc189_7).symm, go49⟩
    · have go50 : Go p e below A0 (T6.setTop (mkF m 214 #[.val (.long q0), .second, .val (.long q1), .second, .val (.long q2), .second, .val (.int p3), .val (.int v1), .val (.long v2), .second, .val (.long v4), .second, .val (.long r5_r), .second, .val (.long (4294967295 : Int64)), .second, .val (.long v5), .second, .val (.long v6), .second, .val (.long v7), .second, .val (.long v8), .second, .val (.long v9), .second, .val (.long v10), .second, .val (.long v11), .second, .val (.long v12), .second, .val (.long v13), .second, .val (.long v14), .second, .val (.long v15), .second, .unset, .unset, .unset, .unset, .unset, .unset, .unset] [(.int (1 : Int32))])) := by
        intro t k
        refine go42 t ?_
        refine o_ifY X6 hx hby at_189 209 rfl (feq hc189_7).2 ?_
        refine o_iconst X6 hx hby at_209 210 rfl (v := (1 : Int32)) rfl ?_
        refine o_goto X6 hx hby at_210 214 rfl ?_
        exact k
      exact ⟨T6, _, (1 : Int32), X6, N6, e6, (if_neg hc189_7).symm, go50⟩
  have go52 : Go p e below A0 (T12.setTop (mkF m 216 #[.val (.long q0), .second, .val (.long q1), .second, .val (.long q2), .second, .val (.int p3), .val (.int v1), .val (.long v2), .second, .val (.long v4), .second, .val (.long r5_r), .second, .val (.long (4294967295 : Int64)), .second, .val (.long v5), .second, .val (.long v6), .second, .val (.long v7), .second, .val (.long v8), .second, .val (.long v9), .second, .val (.long v10), .second, .val (.long v11), .second, .val (.long v12), .second, .val (.long v13), .second, .val (.long v14), .second, .val (.long v15), .second, .val (.int v19), .unset, .unset, .unset, .unset, .unset, .unset] [])) := by
    intro t k
    refine go51 t ?_
    refine o_istore X12 hx hby at_214 216 rfl (l' := #[.val (.long q0), .second, .val (.long q1), .second, .val (.long q2), .second, .val (.int p3), .val (.int v1), .val (.long v2), .second, .val (.long v4), .second, .val (.long r5_r), .second, .val (.long (4294967295 : Int64)), .second, .val (.long v5), .second, .val (.long v6), .second, .val (.long v7), .second, .val (.long v8), .second, .val (.long v9), .second, .val (.long v10), .second, .val (.long v11), .second, .val (.long v12), .second, .val (.long v13), .second, .val (.long v14), .second, .val (.long v15), .second, .val (.int v19), .unset, .unset, .unset, .unset, .unset, .unset]) rfl ?_
    exact k
  have go53 : Go p e below A0 (T12.setTop (mkF m 222 #[.val (.long q0), .second, .val (.long q1), .second, .val (.long q2), .second, .val (.int p3), .val (.int v1), .val (.long v2), .second, .val (.long v4), .second, .val (.long r5_r), .second, .val (.long (4294967295 : Int64)), .second, .val (.long v5), .second, .val (.long v6), .second, .val (.long v7), .second, .val (.long v8), .second, .val (.long v9), .second, .val (.long v10), .second, .val (.long v11), .second, .val (.long v12), .second, .val (.long v13), .second, .val (.long v14), .second, .val (.long v15), .second, .val (.int v19), .val (.long (q1 - v14)), .second, .unset, .unset, .unset, .unset] [])) := by
    intro t k
    refine go52 t ?_
    refine o_lloadN X12 hx hby at_216 217 rfl rfl ?_
    refine o_lload X12 hx hby at_217 219 rfl rfl ?_
    refine o_lsub X12 hx hby at_219 220 rfl ?_
    refine o_lstore X12 hx hby at_220 222 rfl (l' := #[.val (.long q0), .second, .val (.long q1), .second, .val (.long q2), .second, .val (.int p3), .val (.int v1), .val (.long v2), .second, .val (.long v4), .second, .val (.long r5_r), .second, .val (.long (4294967295 : Int64)), .second, .val (.long v5), .second, .val (.long v6), .second, .val (.long v7), .second, .val (.long v8), .second, .val (.long v9), .second, .val (.long v10), .second, .val (.long v11), .second, .val (.long v12), .second, .val (.long v13), .second, .val (.long v14), .second, .val (.long v15), .second, .val (.int v19), .val (.long (q1 - v14)), .second, .unset, .unset, .unset, .unset]) rfl ?_
    exact k
  obtain ⟨v20, hv20, go54⟩ : ∃ v20 : Int64, v20 = (q1 - v14) ∧ Go p e below A0 (T12.setTop (mkF m 222 #[.val (.long q0), .second, .val (.long q1), .second, .val (.long q2), .second, .val (.int p3), .val (.int v1), .val (.long v2), .second, .val (.long v4), .second, .val (.long r5_r), .second, .val (.long (4294967295 : Int64)), .second, .val (.long v5), .second, .val (.long v6), .second, .val (.long v7), .second, .val (.long v8), .second, .val (.long v9), .second, .val (.long v10), .second, .val (.long v11), .second, .val (.long v12), .second, .val (.long v13), .second, .val (.long v14), .second, .val (.long v15), .second, .val (.int v19), .val (.long v20), .second, .unset, .unset, .unset, .unset] [])) := ⟨_, rfl, go53⟩
  have go55 : Go p e below A0 (T12.setTop (mkF m 225 #[.val (.long q0), .second, .val (.long q1), .second, .val (.long q2), .second, .val (.int p3), .val (.int v1), .val (.long v2), .second, .val (.long v4), .second, .val (.long r5_r), .second, .val (.long (4294967295 : Int64)), .second, .val (.long v5), .second, .val (.long v6), .second, .val (.long v7), .second, .val (.long v8), .second, .val (.long v9), .second, .val (.long v10), .second, .val (.long v11), .second, .val (.long v12), .second, .val (.long v13), .second, .val (.long v14), .second, .val (.long v15), .second, .val (.int v19), .val (.long v20), .second, .unset, .unset, .unset, .unset] [(.long v14), (.long q1)])) := by
    intro t k
    refine go54 t ?_
    refine o_lloadN X12 hx hby at_222 223 rfl rfl ?_
    refine o_lload X12 hx hby at_223 225 rfl rfl ?_
    exact k
  obtain ⟨_, _, ⟨T13, L13, k13, n13⟩, -, X13, ⟨Lc13, hQ13, l13, y13, z13⟩, st13⟩ := Jvm.LawKit.callS X12 hx (y := (⟨"com/example/amortine/amortine/WordsQuotientPinLaw", "ult", "(JJ)Z"⟩ : MethodName)) hown (mvT hZ (hw _ (List.mem_of_getElem? (i := 9) rfl))) (mvT hZ (hw _ (List.mem_of_getElem? (i := 10) rfl))) (mvT hZ (hw _ (List.mem_of_getElem? (i := 11) rfl))) (mvT hZ (hw _ (List.mem_of_getElem? (i := 12) rfl))) (by decide) (backOf (W := 0) (rm2 l Z aw hw [] q1 v14 h0 n0 Z0) hZ (hw _ (List.mem_of_getElem? (i := 12) rfl)) (hw _ (List.mem_of_getElem? (i := 11) rfl)) (by decide) (by decide)) (g := (mkF m 225 #[.val (.long q0), .second, .val (.long q1), .second, .val (.long q2), .second, .val (.int p3), .val (.int v1), .val (.long v2), .second, .val (.long v4), .second, .val (.long r5_r), .second, .val (.long (4294967295 : Int64)), .second, .val (.long v5), .second, .val (.long v6), .second, .val (.long v7), .second, .val (.long v8), .second, .val (.long v9), .second, .val (.long v10), .second, .val (.long v11), .second, .val (.long v12), .second, .val (.long v13), .second, .val (.long v14), .second, .val (.long v15), .second, .val (.int v19), .val (.long v20), .second, .unset, .unset, .unset, .unset] [(.long v14), (.long q1)])) rfl (by rw [hml]; rfl) (argsL := [(.long q1), (.long v14)]) (rest := []) (lenOf pd_2 rfl) rfl (by show 2 * 0 + _ ≤ _; exact Nat.le_of_eq rfl) (hb hby at_225) (fun _ _ => ⟨rfl, e12, (by decide : 0 + 0 ≤ _), (by decide : 0 + 0 ≤ _)⟩)
  dsimp only [Pt.U, Pt.locs, Pt.cells, Pt.slots] at X13 l13 y13 z13 st13 hQ13
  subst l13 y13 z13
  obtain ⟨rfl, N13q, e13⟩ := hQ13
  have N13 := Fr.app N12 N13q
  have go56 : Go p e below A0 (T13.setTop (mkF m 228 #[.val (.long q0), .second, .val (.long q1), .second, .val (.long q2), .second, .val (.int p3), .val (.int v1), .val (.long v2), .second, .val (.long v4), .second, .val (.long r5_r), .second, .val (.long (4294967295 : Int64)), .second, .val (.long v5), .second, .val (.long v6), .second, .val (.long v7), .second, .val (.long v8), .second, .val (.long v9), .second, .val (.long v10), .second, .val (.long v11), .second, .val (.long v12), .second, .val (.long v13), .second, .val (.long v14), .second, .val (.long v15), .second, .val (.int v19), .val (.long v20), .second, .unset, .unset, .unset, .unset] [(.int (Fult q1 v14))])) := by
    intro t k
    refine go55 t ?_
    refine st13 _ ?_
    show Steps p.tables e below (T13.setTop (mkF m 228 #[.val (.long q0), .second, .val (.long q1), .second, .val (.long q2), .second, .val (.int p3), .val (.int v1), .val (.long v2), .second, .val (.long v4), .second, .val (.long r5_r), .second, .val (.long (4294967295 : Int64)), .second, .val (.long v5), .second, .val (.long v6), .second, .val (.long v7), .second, .val (.long v8), .second, .val (.long v9), .second, .val (.long v10), .second, .val (.long v11), .second, .val (.long v12), .second, .val (.long v13), .second, .val (.long v14), .second, .val (.long v15), .second, .val (.int v19), .val (.long v20), .second, .unset, .unset, .unset, .unset] [(.int (Fult q1 v14))])) _
    exact k
  obtain ⟨v21, hv21, go57⟩ : ∃ v21 : Int32, v21 = (Fult q1 v14) ∧ Go p e below A0 (T13.setTop (mkF m 228 #[.val (.long q0), .second, .val (.long q1), .second, .val (.long q2), .second, .val (.int p3), .val (.int v1), .val (.long v2), .second, .val (.long v4), .second, .val (.long r5_r), .second, .val (.long (4294967295 : Int64)), .second, .val (.long v5), .second, .val (.long v6), .second, .val (.long v7), .second, .val (.long v8), .second, .val (.long v9), .second, .val (.long v10), .second, .val (.long v11), .second, .val (.long v12), .second, .val (.long v13), .second, .val (.long v14), .second, .val (.long v15), .second, .val (.int v19), .val (.long v20), .second, .unset, .unset, .unset, .unset] [(.int v21)])) := ⟨_, rfl, go56⟩
  obtain ⟨v22, hv22, go60⟩ : ∃ (v22 : Int64), v22 = (if v21 = (0 : Int32) then (0 : Int64) else (1 : Int64)) ∧ Go p e below A0 (T13.setTop (mkF m 236 #[.val (.long q0), .second, .val (.long q1), .second, .val (.long q2), .second, .val (.int p3), .val (.int v1), .val (.long v2), .second, .val (.long v4), .second, .val (.long r5_r), .second, .val (.long (4294967295 : Int64)), .second, .val (.long v5), .second, .val (.long v6), .second, .val (.long v7), .second, .val (.long v8), .second, .val (.long v9), .second, .val (.long v10), .second, .val (.long v11), .second, .val (.long v12), .second, .val (.long v13), .second, .val (.long v14), .second, .val (.long v15), .second, .val (.int v19), .val (.long v20), .second, .unset, .unset, .unset, .unset] [(.long v22)])) := by
    by_cases hc228_14 : v21 = (0 : Int32)
    · have go58 : Go p e below A0 (T13.setTop (mkF m 236 #[.val (.long q0), .second, .val (.long q1), .second, .val (.long q2), .second, .val (.int p3), .val (.int v1), .val (.long v2), .second, .val (.long v4), .second, .val (.long r5_r), .second, .val (.long (4294967295 : Int64)), .second, .val (.long v5), .second, .val (.long v6), .second, .val (.long v7), .second, .val (.long v8), .second, .val (.long v9), .second, .val (.long v10), .second, .val (.long v11), .second, .val (.long v12), .second, .val (.long v13), .second, .val (.long v14), .second, .val (.long v15), .second, .val (.int v19), .val (.long v20), .second, .unset, .unset, .unset, .unset] [(.long (0 : Int64))])) := by
        intro t k
        refine go57 t ?_
        refine o_ifY X13 hx hby at_228 235 rfl (teq hc228_14).1 ?_
        refine o_lconst X13 hx hby at_235 236 rfl (v := (0 : Int64)) rfl ?_
        exact k
      exact ⟨(0 : Int64), (if_pos hc228_14).symm, go58⟩
    · have go59 : Go p e below A0 (T13.setTop (mkF m 236 #[.val (.long q0), .second, .val (.long q1), .second, .val (.long q2), .second, .val (.int p3), .val (.int v1), .val (.long v2), .second, .val (.long v4), .second, .val (.long r5_r), .second, .val (.long (4294967295 : Int64)), .second, .val (.long v5), .second, .val (.long v6), .second, .val (.long v7), .second, .val (.long v8), .second, .val (.long v9), .second, .val (.long v10), .second, .val (.long v11), .second, .val (.long v12), .second, .val (.long v13), .second, .val (.long v14), .second, .val (.long v15), .second, .val (.int v19), .val (.long v20), .second, .unset, .unset, .unset, .unset] [(.long (1 : Int64))])) := by
        intro t k
        refine go57 t ?_
        refine o_ifN X13 hx hby at_228 231 rfl (feq hc228_14).1 ?_
        refine o_lconst X13 hx hby at_231 232 rfl (v := (1 : Int64)) rfl ?_
        refine o_goto X13 hx hby at_232 236 rfl ?_
        exact k
      exact ⟨(1 : Int64), (if_neg hc228_14).symm, go59⟩
  have go61 : Go p e below A0 (T13.setTop (mkF m 238 #[.val (.long q0), .second, .val (.long q1), .second, .val (.long q2), .second, .val (.int p3), .val (.int v1), .val (.long v2), .second, .val (.long v4), .second, .val (.long r5_r), .second, .val (.long (4294967295 : Int64)), .second, .val (.long v5), .second, .val (.long v6), .second, .val (.long v7), .second, .val (.long v8), .second, .val (.long v9), .second, .val (.long v10), .second, .val (.long v11), .second, .val (.long v12), .second, .val (.long v13), .second, .val (.long v14), .second, .val (.long v15), .second, .val (.int v19), .val (.long v20), .second, .val (.long v22), .second, .unset, .unset] [])) := by
    intro t k
    refine go60 t ?_
    refine o_lstore X13 hx hby at_236 238 rfl (l' := #[.val (.long q0), .second, .val (.long q1), .second, .val (.long q2), .second, .val (.int p3), .val (.int v1), .val (.long v2), .second, .val (.long v4), .second, .val (.long r5_r), .second, .val (.long (4294967295 : Int64)), .second, .val (.long v5), .second, .val (.long v6), .second, .val (.long v7), .second, .val (.long v8), .second, .val (.long v9), .second, .val (.long v10), .second, .val (.long v11), .second, .val (.long v12), .second, .val (.long v13), .second, .val (.long v14), .second, .val (.long v15), .second, .val (.int v19), .val (.long v20), .second, .val (.long v22), .second, .unset, .unset]) rfl ?_
    exact k
  have go62 : Go p e below A0 (T13.setTop (mkF m 248 #[.val (.long q0), .second, .val (.long q1), .second, .val (.long q2), .second, .val (.int p3), .val (.int v1), .val (.long v2), .second, .val (.long v4), .second, .val (.long r5_r), .second, .val (.long (4294967295 : Int64)), .second, .val (.long v5), .second, .val (.long v6), .second, .val (.long v7), .second, .val (.long v8), .second, .val (.long v9), .second, .val (.long v10), .second, .val (.long v11), .second, .val (.long v12), .second, .val (.long v13), .second, .val (.long v14), .second, .val (.long v15), .second, .val (.int v19), .val (.long v20), .second, .val (.long v22), .second, .val (.long ((v4 - v15) - v22)), .second] [])) := by
    intro t k
    refine go61 t ?_
    refine o_lload X13 hx hby at_238 240 rfl rfl ?_
    refine o_lload X13 hx hby at_240 242 rfl rfl ?_
    refine o_lsub X13 hx hby at_242 243 rfl ?_
    refine o_lload X13 hx hby at_243 245 rfl rfl ?_
    refine o_lsub X13 hx hby at_245 246 rfl ?_
    refine o_lstore X13 hx hby at_246 248 rfl (l' := #[.val (.long q0), .second, .val (.long q1), .second, .val (.long q2), .second, .val (.int p3), .val (.int v1), .val (.long v2), .second, .val (.long v4), .second, .val (.long r5_r), .second, .val (.long (4294967295 : Int64)), .second, .val (.long v5), .second, .val (.long v6), .second, .val (.long v7), .second, .val (.long v8), .second, .val (.long v9), .second, .val (.long v10), .second, .val (.long v11), .second, .val (.long v12), .second, .val (.long v13), .second, .val (.long v14), .second, .val (.long v15), .second, .val (.int v19), .val (.long v20), .second, .val (.long v22), .second, .val (.long ((v4 - v15) - v22)), .second]) rfl ?_
    exact k
  obtain ⟨v23, hv23, go63⟩ : ∃ v23 : Int64, v23 = ((v4 - v15) - v22) ∧ Go p e below A0 (T13.setTop (mkF m 248 #[.val (.long q0), .second, .val (.long q1), .second, .val (.long q2), .second, .val (.int p3), .val (.int v1), .val (.long v2), .second, .val (.long v4), .second, .val (.long r5_r), .second, .val (.long (4294967295 : Int64)), .second, .val (.long v5), .second, .val (.long v6), .second, .val (.long v7), .second, .val (.long v8), .second, .val (.long v9), .second, .val (.long v10), .second, .val (.long v11), .second, .val (.long v12), .second, .val (.long v13), .second, .val (.long v14), .second, .val (.long v15), .second, .val (.int v19), .val (.long v20), .second, .val (.long v22), .second, .val (.long v23), .second] [])) := ⟨_, rfl, go62⟩
  have go64 : Go p e below A0 (T13.setTop (mkF m 250 #[.val (.long q0), .second, .val (.long q1), .second, .val (.long q2), .second, .val (.int p3), .val (.int v1), .val (.long v2), .second, .val (.long v4), .second, .val (.long r5_r), .second, .val (.long (4294967295 : Int64)), .second, .val (.long v5), .second, .val (.long v6), .second, .val (.long v7), .second, .val (.long v8), .second, .val (.long v9), .second, .val (.long v10), .second, .val (.long v11), .second, .val (.long v12), .second, .val (.long v13), .second, .val (.long v14), .second, .val (.long v15), .second, .val (.int v19), .val (.long v20), .second, .val (.long v22), .second, .val (.long v23), .second] [(.int v19)])) := by
    intro t k
    refine go63 t ?_
    refine o_iload X13 hx hby at_248 250 rfl rfl ?_
    exact k
  obtain ⟨T20, l20, v26, X20, N20, e20, hv26, go73⟩ : ∃ (T20 : State) (l20 : List Loc) (v26 : Int32), Stand p l e room_1 s m #[(.long q0), (.long q1), (.long q2), (.int p3)] below meth c T20 l20 0 0 ∧ Fr n0 l20 ∧ T20.heap = h0 ∧ v26 = (if v19 = (0 : Int32) then (0 : Int32) else (if v23 = (0 : Int64) then (if (Fult v20 v2) = (0 : Int32) then (0 : Int32) else (1 : Int32)) else (0 : Int32))) ∧ Go p e below A0 (T20.setTop (mkF m 275 #[.val (.long q0), .second, .val (.long q1), .second, .val (.long q2), .second, .val (.int p3), .val (.int v1), .val (.long v2), .second, .val (.long v4), .second, .val (.long r5_r), .second, .val (.long (4294967295 : Int64)), .second, .val (.long v5), .second, .val (.long v6), .second, .val (.long v7), .second, .val (.long v8), .second, .val (.long v9), .second, .val (.long v10), .second, .val (.long v11), .second, .val (.long v12), .second, .val (.long v13), .second, .val (.long v14), .second, .val (.long v15), .second, .val (.int v19), .val (.long v20), .second, .val (.long v22), .second, .val (.long v23), .second] [(.int v26)])) := by
    by_cases hc250_15 : v19 = (0 : Int32)
    · have go65 : Go p e below A0 (T13.setTop (mkF m 275 #[.val (.long q0), .second, .val (.long q1), .second, .val (.long q2), .second, .val (.int p3), .val (.int v1), .val (.long v2), .second, .val (.long v4), .second, .val (.long r5_r), .second, .val (.long (4294967295 : Int64)), .second, .val (.long v5), .second, .val (.long v6), .second, .val (.long v7), .second, .val (.long v8), .second, .val (.long v9), .second, .val (.long v10), .second, .val (.long v11), .second, .val (.long v12), .second, .val (.long v13), .second, .val (.long v14), .second, .val (.long v15), .second, .val (.int v19), .val (.long v20), .second, .val (.long v22), .second, .val (.long v23), .second] [(.int (0 : Int32))])) := by
        intro t k
        refine go64 t ?_
        refine o_ifY X13 hx hby at_250 274 rfl (teq hc250_15).1 ?_
        refine o_iconst X13 hx hby at_274 275 rfl (v := (0 : Int32)) rfl ?_
        exact k
      exact ⟨T13, _, (0 : Int32), X13, N13, e13, (if_pos hc250_15).symm, go65⟩
    · have go66 : Go p e below A0 (T13.setTop (mkF m 257 #[.val (.long q0), .second, .val (.long q1), .second, .val (.long q2), .second, .val (.int p3), .val (.int v1), .val (.long v2), .second, .val (.long v4), .second, .val (.long r5_r), .second, .val (.long (4294967295 : Int64)), .second, .val (.long v5), .second, .val (.long v6), .second, .val (.long v7), .second, .val (.long v8), .second, .val (.long v9), .second, .val (.long v10), .second, .val (.long v11), .second, .val (.long v12), .second, .val (.long v13), .second, .val (.long v14), .second, .val (.long v15), .second, .val (.int v19), .val (.long v20), .second, .val (.long v22), .second, .val (.long v23), .second] [(.int (lcmpW v23 (0 : Int64)))])) := by
        intro t k
        refine go64 t ?_
        refine o_ifN X13 hx hby at_250 253 rfl (feq hc250_15).1 ?_
        refine o_lload X13 hx hby at_253 255 rfl rfl ?_
        refine o_lconst X13 hx hby at_255 256 rfl (v := (0 : Int64)) rfl ?_
        refine o_lcmp X13 hx hby at_256 257 rfl ?_
        exact k
      obtain ⟨T19, l19, v25, X19, N19, e19, hv25, go72⟩ : ∃ (T19 : State) (l19 : List Loc) (v25 : Int32), Stand p l e room_1 s m #[(.long q0), (.long q1), (.long q2), (.int p3)] below meth c T19 l19 0 0 ∧ Fr n0 l19 ∧ T19.heap = h0 ∧ v25 = (if v23 = (0 : Int64) then (if (Fult v20 v2) = (0 : Int32) then (0 : Int32) else (1 : Int32)) else (0 : Int32)) ∧ Go p e below A0 (T19.setTop (mkF m 275 #[.val (.long q0), .second, .val (.long q1), .second, .val (.long q2), .second, .val (.int p3), .val (.int v1), .val (.long v2), .second, .val (.long v4), .second, .val (.long r5_r), .second, .val (.long (4294967295 : Int64)), .second, .val (.long v5), .second, .val (.long v6), .second, .val (.long v7), .second, .val (.long v8), .second, .val (.long v9), .second, .val (.long v10), .second, .val (.long v11), .second, .val (.long v12), .second, .val (.long v13), .second, .val (.long v14), .second, .val (.long v15), .second, .val (.int v19), .val (.long v20), .second, .val (.long v22), .second, .val (.long v23), .second] [(.int v25)])) := by
        by_cases hc257_16 : v23 = (0 : Int64)
        · obtain ⟨_, _, ⟨T17, L17, k17, n17⟩, -, X17, ⟨Lc17, hQ17, l17, y17, z17⟩, st17⟩ := Jvm.LawKit.callS X13 hx (y := (⟨"com/example/amortine/amortine/WordsQuotientPinLaw", "ult", "(JJ)Z"⟩ : MethodName)) hown (mvT hZ (hw _ (List.mem_of_getElem? (i := 9) rfl))) (mvT hZ (hw _ (List.mem_of_getElem? (i := 10) rfl))) (mvT hZ (hw _ (List.mem_of_getElem? (i := 11) rfl))) (mvT hZ (hw _ (List.mem_of_getElem? (i := 12) rfl))) (by decide) (backOf (W := 0) (rm2 l Z aw hw [] v20 v2 h0 n0 Z0) hZ (hw _ (List.mem_of_getElem? (i := 12) rfl)) (hw _ (List.mem_of_getElem? (i := 11) rfl)) (by decide) (by decide)) (g := (mkF m 264 #[.val (.long q0), .second, .val (.long q1), .second, .val (.long q2), .second, .val (.int p3), .val (.int v1), .val (.long v2), .second, .val (.long v4), .second, .val (.long r5_r), .second, .val (.long (4294967295 : Int64)), .second, .val (.long v5), .second, .val (.long v6), .second, .val (.long v7), .second, .val (.long v8), .second, .val (.long v9), .second, .val (.long v10), .second, .val (.long v11), .second, .val (.long v12), .second, .val (.long v13), .second, .val (.long v14), .second, .val (.long v15), .second, .val (.int v19), .val (.long v20), .second, .val (.long v22), .second, .val (.long v23), .second] [(.long v2), (.long v20)])) rfl (by rw [hml]; rfl) (argsL := [(.long v20), (.long v2)]) (rest := []) (lenOf pd_2 rfl) rfl (by show 2 * 0 + _ ≤ _; exact Nat.le_of_eq rfl) (hb hby at_264) (fun _ _ => ⟨rfl, e13, (by decide : 0 + 0 ≤ _), (by decide : 0 + 0 ≤ _)⟩)
          dsimp only [Pt.U, Pt.locs, Pt.cells, Pt.slots] at X17 l17 y17 z17 st17 hQ17
          subst l17 y17 z17
          obtain ⟨rfl, N17q, e17⟩ := hQ17
          have N17 := Fr.app N13 N17q
          have go67 : Go p e below A0 (T17.setTop (mkF m 267 #[.val (.long q0), .second, .val (.long q1), .second, .val (.long q2), .second, .val (.int p3), .val (.int v1), .val (.long v2), .second, .val (.long v4), .second, .val (.long r5_r), .second, .val (.long (4294967295 : Int64)), .second, .val (.long v5), .second, .val (.long v6), .second, .val (.long v7), .second, .val (.long v8), .second, .val (.long v9), .second, .val (.long v10), .second, .val (.long v11), .second, .val (.long v12), .second, .val (.long v13), .second, .val (.long v14), .second, .val (.long v15), .second, .val (.int v19), .val (.long v20), .second, .val (.long v22), .second, .val (.long v23), .second] [(.int (Fult v20 v2))])) := by
            intro t k
            refine go66 t ?_
            refine o_ifN X13 hx hby at_257 260 rfl (teq ((lw_eq v23 (0 : Int64)).mpr hc257_16)).2 ?_
            refine o_lload X13 hx hby at_260 262 rfl rfl ?_
            refine o_lload X13 hx hby at_262 264 rfl rfl ?_
            refine st17 _ ?_
            show Steps p.tables e below (T17.setTop (mkF m 267 #[.val (.long q0), .second, .val (.long q1), .second, .val (.long q2), .second, .val (.int p3), .val (.int v1), .val (.long v2), .second, .val (.long v4), .second, .val (.long r5_r), .second, .val (.long (4294967295 : Int64)), .second, .val (.long v5), .second, .val (.long v6), .second, .val (.long v7), .second, .val (.long v8), .second, .val (.long v9), .second, .val (.long v10), .second, .val (.long v11), .second, .val (.long v12), .second, .val (.long v13), .second, .val (.long v14), .second, .val (.long v15), .second, .val (.int v19), .val (.long v20), .second, .val (.long v22), .second, .val (.long v23), .second] [(.int (Fult v20 v2))])) _
            exact k
          obtain ⟨v24, hv24, go70⟩ : ∃ (v24 : Int32), v24 = (if (Fult v20 v2) = (0 : Int32) then (0 : Int32) else (1 : Int32)) ∧ Go p e below A0 (T17.setTop (mkF m 275 #[.val (.long q0), .second, .val (.long q1), .second, .val (.long q2), .second, .val (.int p3), .val (.int v1), .val (.long v2), .second, .val (.long v4), .second, .val (.long r5_r), .second, .val (.long (4294967295 : Int64)), .second, .val (.long v5), .second, .val (.long v6), .second, .val (.long v7), .second, .val (.long v8), .second, .val (.long v9), .second, .val (.long v10), .second, .val (.long v11), .second, .val (.long v12), .second, .val (.long v13), .second, .val (.long v14), .second, .val (.long v15), .second, .val (.int v19), .val (.long v20), .second, .val (.long v22), .second, .val (.long v23), .second] [(.int v24)])) := by
            by_cases hc267_18 : (Fult v20 v2) = (0 : Int32)
            · have go68 : Go p e below A0 (T17.setTop (mkF m 275 #[.val (.long q0), .second, .val (.long q1), .second, .val (.long q2), .second, .val (.int p3), .val (.int v1), .val (.long v2), .second, .val (.long v4), .second, .val (.long r5_r), .second, .val (.long (4294967295 : Int64)), .second, .val (.long v5), .second, .val (.long v6), .second, .val (.long v7), .second, .val (.long v8), .second, .val (.long v9), .second, .val (.long v10), .second, .val (.long v11), .second, .val (.long v12), .second, .val (.long v13), .second, .val (.long v14), .second, .val (.long v15), .second, .val (.int v19), .val (.long v20), .second, .val (.long v22), .second, .val (.long v23), .second] [(.int (0 : Int32))])) := by
                intro t k
                refine go67 t ?_
                refine o_ifY X17 hx hby at_267 274 rfl (teq hc267_18).1 ?_
                refine o_iconst X17 hx hby at_274 275 rfl (v := (0 : Int32)) rfl ?_
                exact k
              exact ⟨(0 : Int32), (if_pos hc267_18).symm, go68⟩
            · have go69 : Go p e below A0 (T17.setTop (mkF m 275 #[.val (.long q0), .second, .val (.long q1), .second, .val (.long q2), .second, .val (.int p3), .val (.int v1), .val (.long v2), .second, .val (.long v4), .second, .val (.long r5_r), .second, .val (.long (4294967295 : Int64)), .second, .val (.long v5), .second, .val (.long v6), .second, .val (.long v7), .second, .val (.long v8), .second, .val (.long v9), .second, .val (.long v10), .second, .val (.long v11), .second, .val (.long v12), .second, .val (.long v13), .second, .val (.long v14), .second, .val (.long v15), .second, .val (.int v19), .val (.long v20), .second, .val (.long v22), .second, .val (.long v23), .second] [(.int (1 : Int32))])) := by
                intro t k
                refine go67 t ?_
                refine o_ifN X17 hx hby at_267 270 rfl (feq hc267_18).1 ?_
                refine o_iconst X17 hx hby at_270 271 rfl (v := (1 : Int32)) rfl ?_
                refine o_goto X17 hx hby at_271 275 rfl ?_
                exact k
              exact ⟨(1 : Int32), (if_neg hc267_18).symm, go69⟩
          rw [hv24] at go70
          exact ⟨T17, _, (if (Fult v20 v2) = (0 : Int32) then (0 : Int32) else (1 : Int32)), X17, N17, e17, (if_pos hc257_16).symm, go70⟩
        · have go71 : Go p e below A0 (T13.setTop (mkF m 275 #[.val (.long q0), .second, .val (.long q1), .second, .val (.long q2), .second, .val (.int p3), .val (.int v1), .val (.long v2), .second, .val (.long v4), .second, .val (.long r5_r), .second, .val (.long (4294967295 : Int64)), .second, .val (.long v5), .second, .val (.long v6), .second, .val (.long v7), .second, .val (.long v8), .second, .val (.long v9), .second, .val (.long v10), .second, .val (.long v11), .second, .val (.long v12), .second, .val (.long v13), .second, .val (.long v14), .second, .val (.long v15), .second, .val (.int v19), .val (.long v20), .second, .val (.long v22), .second, .val (.long v23), .second] [(.int (0 : Int32))])) := by
            intro t k
            refine go66 t ?_
            refine o_ifY X13 hx hby at_257 274 rfl (feq (fun q => hc257_16 ((lw_eq v23 (0 : Int64)).mp q))).2 ?_
            refine o_iconst X13 hx hby at_274 275 rfl (v := (0 : Int32)) rfl ?_
            exact k
          exact ⟨T13, _, (0 : Int32), X13, N13, e13, (if_neg hc257_16).symm, go71⟩
      rw [hv25] at go72
      exact ⟨T19, _, (if v23 = (0 : Int64) then (if (Fult v20 v2) = (0 : Int32) then (0 : Int32) else (1 : Int32)) else (0 : Int32)), X19, N19, e19, (if_neg hc250_15).symm, go72⟩
  have h1 : v26 = (1 : Int32) := pl_0_0 q0 q1 q2 p3 v1 v2 v4 r5_r v5 v6 v7 v8 v9 v10 v11 v12 v13 v14 v15 v16 v19 v20 v21 v22 v23 v26 hv1 hv2 hv4 hv5 hv6 hv7 hv8 hv9 hv10 hv11 hv12 hv13 hv14 hv15 hv16 hv19 hv20 hv21 hv22 hv23 hv26 qf5_0
  rw [h1] at go73
  rw [hA0] at go73
  obtain ⟨fs, hr, hrun, hended, hW, hsame⟩ := X20.leave (v := some (.int (1 : Int32))) (fun h => by rw [Bd.returns] at h; cases h)
  refine ⟨_, _, go73 _ (o_retZ X20 hx Bd.returns (hb hby at_275) (Or.inr rfl) hr), hrun, hended, _, _, rfl, ?_, ⟨_, rfl⟩, hW, hsame.mono (by decide) (by decide)⟩
  show Q0 Z q0 q1 q2 p3 h0 n0 _ T20.heap _
  rw [e20]
  exact ⟨rfl, N20⟩
set_option maxRecDepth 65536 in
set_option maxHeartbeats 40000000 in
theorem comes_1 {Post : Tables → Env → Array Value → State → Outcome → State → Prop} (hpost : ∀ tb e args s v u, (limb_1_1.after args s (.returned v) u = true ∧ limb_1_2.after args s (.returned v) u = true ∧ True) → FrameEnd s (.returned v) u (Jvm.fieldLocs frame_1_writes args s ++ Jvm.arrayLocs frame_1_arrays args s ++ Jvm.staticLocs frame_1_statics s) 0 0 → Post tb e args s (.returned v) u) :
    ArmFor flags0 classFile x code maxLocals ret World_1 tables_1 room_1 Calls_1 rest_1 Pre_1 Post := by
  intro l hfl _ _ p e ha hc hk s m args below hf hA hF happ hP
  obtain ⟨hcalls, hrest, hpre⟩ := hP
  obtain ⟨-, -, -, hnamed, -, -, -, hat⟩ := (Spec.applies_iff hf).mp happ
  obtain ⟨hg, hn⟩ := and_e (Cond.before_iff.mp (show (Jvm.Cond.and given_1 narrow_1).before args s = true from hpre))
  obtain ⟨g1, g2⟩ := and_e hg
  obtain ⟨g3, g4⟩ := and_e g2
  obtain ⟨g5, g6⟩ := and_e g4
  obtain ⟨g7, g8⟩ := and_e g6
  obtain ⟨w0, w1, w2, w3, rfl⟩ : ∃ w0 w1 w2 w3 : Value, args = #[w0, w1, w2, w3] := by
    have hs : args.size = 4 := by simpa [Cond.value, given_1] using g1
    obtain ⟨L⟩ := args
    match L, hs with
    | [w0, w1, w2, w3], _ => exact ⟨w0, w1, w2, w3, rfl⟩
  have hw := fun d (hd : d ∈ tables_1) => atoms_spec (ws := Jvm.Cond.code x code maxLocals ret :: tables_1) hat d (List.mem_cons_of_mem _ hd)
  have hfit : Fit s := fun {y c} hc i hi => by
    obtain ⟨ha, rfl⟩ := Array.getElem?_eq_some_iff.mp hc
    have q := List.all_eq_true.mp ((Array.all_eq_true_iff_forall_mem.mp hF) _ (Array.getElem_mem ha)) i (List.mem_range.mpr hi)
    simpa [Array.getElem?_eq_getElem hi] using q
  obtain ⟨i0, ei0⟩ := isL_v g3
  obtain rfl : w0 = (.long i0) := Option.some.inj ei0
  obtain ⟨i1, ei1⟩ := isL_v g5
  obtain rfl : w1 = (.long i1) := Option.some.inj ei1
  obtain ⟨i2, ei2⟩ := isL_v g7
  obtain rfl : w2 = (.long i2) := Option.some.inj ei2
  obtain ⟨i3, ei3⟩ := is_v g8
  obtain rfl : w3 = (.int i3) := Option.some.inj ei3
  obtain ⟨n, o, h1, h2, h3, _, L, rfl, ⟨rfl, N⟩, hq⟩ := rm0 l s _ hw tables_1 i0 i1 i2 i3 s.heap s.heap.size (Nat.le_refl _)  p e ha hc hk s m _ below hf ((Spec.applies_iff_loose hf).mp happ).1 ⟨rfl, State.Warmed39.refl s, rfl⟩ trivial
  refine ⟨n, _, h1, h2, h3, hpost _ _ _ _ _ _ ⟨Cond.after_iff.mpr rfl, Cond.after_iff.mpr (eq_i res_at (Term.int_eval (1)) rfl), trivial⟩ ⟨hq.1, hq.2.1, (hq.2.2.sift fun y hy => Or.inr (N y hy)).mono (by decide) (by decide)⟩⟩
theorem main_1_1 : Claimed_1_1 := comes_1 fun _ _ _ _ _ _ h hF => ⟨h.1, hF⟩
theorem main_1_2 : Claimed_1_2 := comes_1 fun _ _ _ _ _ _ h hF => ⟨h.2.1, hF⟩
end Jvm.Pilot.@@N@@
namespace Jvm.Pilot.@@N@@
open Jvm Jvm.ClassFile Sem Op Lib Jvm.Free Jvm.Stand Jvm.Pilot.@@N@@.Jvm.D
/-! MADE BY PROGRAM (witnessworld.py) out of the Statement's table words and the real class files: 7 classes; the members and pool entries that the words name. The judged class is class 1, her method 2. -/
namespace start1
open Jvm.ClassFile
def u (s : String) : CpInfo := .utf8 (stringToUtf16 s)
/-- a pool by its gaps: so many unusable entries, then the entry; so many at the end -/
def gap : Nat → List CpInfo → List CpInfo
  | 0, r => r
  | n + 1, r => .unusable :: gap n r
def poolList (es : List (Nat × CpInfo)) (last : Nat) : List CpInfo := es.foldr (fun e r => gap e.1 (e.2 :: r)) (gap last [])
def pool (es : List (Nat × CpInfo)) (last : Nat) : Array CpInfo := ⟨poolList es last⟩
def fileOf (pool : Array CpInfo) (this : Nat) (attrs : Array Attribute := #[]) (ms : Array MethodInfo := #[]) (fl : Nat := 33) (sup : Nat := 0) (ifs : Array Nat := #[]) (fds : Array FieldInfo := #[]) : ClassFile where
  minorVersion := 0
  majorVersion := 65
  constantPool := pool
  accessFlags := fl
  thisClass := this
  superClass := sup
  interfaces := ifs
  fields := fds
  methods := ms
  attributes := attrs
def plain (name : String) (sup : Option ClassId) : Class where
  name := name
  kind := .ordinary
  loader := none
  accessFlags := 33
  super := sup
  interfaces := #[]
  cf := none
  fields := #[]
  methods := #[]
  instanceTypes := #[]
  staticTypes := #[]
  resolved := #[]
  callSites := []
  init := .initialized
  statics := none
  mirror := none

def pool0 : Array CpInfo := pool [(5, u "<init>"), (0, u "()V"), (1, .class_ 10), (1, u "java/lang/Object")] 113

def k0m0 : Method := { name := "<init>", desc := "()V", sig := { parameters := [], returnType := none }, accessFlags := 1, code := none }
/-- java/lang/Object -/
def k0 : Class := { plain "java/lang/Object" none with
  accessFlags := 33
  interfaces := #[]
  cf := some (fileOf pool0 8 #[] #[{ accessFlags := 1, nameIndex := 5, descriptorIndex := 6, attributes := #[] }] 33 0 #[] #[])
  fields := #[]
  methods := #[k0m0]
  instanceTypes := #[]
  staticTypes := #[]
  resolved := Array.replicate 124 none
  statics := none }

def pool1 : Array CpInfo := pool [(2, .class_ 4), (1, u "java/lang/Object"), (0, u "<init>"), (0, u "()V"), (2, .long 9223372036854775808), (1, .methodref 12 13), (0, .class_ 14), (0, .nameAndType 15 16), (0, u "com/example/amortine/amortine/WordsQuotientPinLaw"), (0, u "ult"), (0, u "(JJ)Z"), (0, .long 9223372036854775807), (1, .methodref 20 21), (0, .class_ 22), (0, .nameAndType 23 24), (0, u "com/example/amortine/amortine/Words"), (0, u "quotient"), (0, u "(JJJI)J"), (0, .long 4294967295), (4, u "law"), (0, u "(JJJI)Z")] 2

def k1m0 : Method := { name := "<init>", desc := "()V", sig := { parameters := [], returnType := none }, accessFlags := 2, code := none }
def k1c1 : Code := { maxStack := 6, maxLocals := 4, code := method_2_code, exceptionTable := #[], attributes := #[] }
def k1m1 : Method := { name := "ult", desc := "(JJ)Z", sig := { parameters := [.long, .long], returnType := some .boolean }, accessFlags := 10, code := some k1c1 }
def k1c2 : Code := { maxStack := 7, maxLocals := 45, code := code, exceptionTable := #[], attributes := #[] }
def k1m2 : Method := { name := "law", desc := "(JJJI)Z", sig := { parameters := [.long, .long, .long, .int], returnType := some .boolean }, accessFlags := 9, code := some k1c2 }
/-- com/example/amortine/amortine/WordsQuotientPinLaw -/
def k1 : Class := { plain "com/example/amortine/amortine/WordsQuotientPinLaw" (some 0) with
  accessFlags := 49
  interfaces := #[]
  cf := some (fileOf pool1 12 #[] #[{ accessFlags := 2, nameIndex := 5, descriptorIndex := 6, attributes := #[] }, { accessFlags := 10, nameIndex := 15, descriptorIndex := 16, attributes := #[] }, { accessFlags := 9, nameIndex := 30, descriptorIndex := 31, attributes := #[] }] 49 2 #[] #[])
  fields := #[]
  methods := #[k1m0, k1m1, k1m2]
  instanceTypes := #[]
  staticTypes := #[]
  resolved := Array.replicate 34 none
  statics := none }

def pool2 : Array CpInfo := pool [(2, .class_ 4), (1, u "java/lang/Object"), (0, u "<init>"), (0, u "()V"), (7, .class_ 16), (1, u "com/example/amortine/amortine/Words"), (0, u "quotient"), (0, u "(JJJI)J"), (0, .long 4294967295), (1, .long 9223372036854775808), (1, u "HALF"), (0, u "J")] 8

def k2m0 : Method := { name := "<init>", desc := "()V", sig := { parameters := [], returnType := none }, accessFlags := 2, code := none }
def k2c1 : Code := { maxStack := 6, maxLocals := 26, code := prog_96_method_3_code, exceptionTable := #[], attributes := #[] }
def k2m1 : Method := { name := "quotient", desc := "(JJJI)J", sig := { parameters := [.long, .long, .long, .int], returnType := some .long }, accessFlags := 8, code := some k2c1 }
/-- com/example/amortine/amortine/Words -/
def k2 : Class := { plain "com/example/amortine/amortine/Words" (some 0) with
  accessFlags := 48
  interfaces := #[]
  cf := some (fileOf pool2 14 #[] #[{ accessFlags := 2, nameIndex := 5, descriptorIndex := 6, attributes := #[] }, { accessFlags := 8, nameIndex := 17, descriptorIndex := 18, attributes := #[] }] 48 2 #[] #[{ accessFlags := 26, nameIndex := 23, descriptorIndex := 24, attributes := #[] }])
  fields := #[{ name := "HALF", type := .long, accessFlags := 26, slot := 0, constantValue := 0 }]
  methods := #[k2m0, k2m1]
  instanceTypes := #[]
  staticTypes := #[.long]
  resolved := Array.replicate 33 none
  statics := none }

def pool3 : Array CpInfo := pool [(1, u "java/lang/Cloneable"), (0, .class_ 1), (0, u "java/lang/Object"), (0, .class_ 3)] 3

/-- java/lang/Cloneable -/
def k3 : Class := { plain "java/lang/Cloneable" (some 0) with
  accessFlags := 1537
  interfaces := #[]
  cf := some (fileOf pool3 2 #[] #[] 1537 4 #[] #[])
  fields := #[]
  methods := #[]
  instanceTypes := #[]
  staticTypes := #[]
  resolved := Array.replicate 8 none
  statics := none }

def pool4 : Array CpInfo := pool [(1, u "java/io/Serializable"), (0, .class_ 1), (0, u "java/lang/Object"), (0, .class_ 3)] 3

/-- java/io/Serializable -/
def k4 : Class := { plain "java/io/Serializable" (some 0) with
  accessFlags := 1537
  interfaces := #[]
  cf := some (fileOf pool4 2 #[] #[] 1537 4 #[] #[])
  fields := #[]
  methods := #[]
  instanceTypes := #[]
  staticTypes := #[]
  resolved := Array.replicate 8 none
  statics := none }

/-- the primitive byte -/
def k5 : Class := { plain "byte" none with kind := .primitive 'B', accessFlags := 0x411 }
/-- [B -/
def k6 : Class := { plain "[B" (some 0) with kind := .array 5 .byte, interfaces := #[3, 4], accessFlags := 1041 }

def heap : Heap := #[]
def classes : Array Class := #[k0, k1, k2, k3, k4, k5, k6]
def interned : List (Array UInt16 × Addr) := []
def slotsUsed : Nat := 0
def theMethod : MethodId := ⟨1, 2⟩
def args0 : Array Value := #[.long 5, .long 7, .long 9, .int 3]
def aboutOver (below : List Frame) : State where
  vm := { classes := classes, interned := interned.toArray }
  heap := heap
  slotsUsed := slotsUsed
  threads := #[{ frames := .invoking theMethod args0 :: below }]
def below0 : List Frame := [.native { method := ⟨0, 0⟩, args := #[] }]
def about1 : State := aboutOver below0
def p0 : Program := .bare "" "" ""
def e0 : Env := launch0.env 0 0 0
theorem w_frames : about1.frames = Frame.invoking theMethod args0 :: below0 := rfl
set_option maxRecDepth 65536 in
theorem w_args : argsFit about1.vm theMethod args0 = true := by decide +kernel
set_option maxRecDepth 65536 in
theorem w_heap : heapFits about1 = true := by decide +kernel
set_option maxRecDepth 65536 in
theorem w_runnable : about1.curStatus? = some .runnable := by decide +kernel
set_option maxRecDepth 65536 in
theorem w_alone : about1.alone = true := by decide +kernel
set_option maxRecDepth 65536 in
theorem w_named : about1.methodNamed? x = some theMethod := by decide +kernel
set_option maxRecDepth 65536 in
theorem w_hears : about1.hears theMethod below0 = true := by decide +kernel
set_option maxRecDepth 65536 in
theorem w_ripe : about1.ripe theMethod args0 below0 = true := by decide +kernel
theorem w_running : about1.status = .running := rfl
set_option maxRecDepth 65536 in
theorem w_room : about1.hasRoom e0.platform room_1 = true :=
  launch0.hasRoom_least _ room_1 (by decide +kernel) (by decide +kernel) (by decide +kernel) (by decide +kernel) (by decide +kernel) (by decide +kernel)
theorem allAtoms_all (ts : List Jvm.Cond) (a : Array Jvm.Value) (st : Jvm.State) : (allAtoms ts).before a st = ts.all (fun c => c.before a st) := by
  induction ts with
  | nil => rfl
  | cons c t ih =>
    show (Jvm.Cond.and c (allAtoms t)).before a st = _
    rw [Jvm.Cond.before_and, ih, List.all_cons]
def words1 : List Jvm.Cond := Jvm.Cond.code x code maxLocals ret :: tables_1
/-- a 'code' word, met by the world's own term for the bytes: nothing is compared byte by byte -/
theorem code_word {y : MethodName} {bytes : ByteArray} {mx : Nat} {rt : Option FieldType} {a : Array Value} {s : State} {m : MethodId} {meth : Method} {c : Code} (h1 : s.methodNamed? y = some m) (h2 : s.vm.method? m = some meth) (h3 : meth.code = some c) (h4 : c.code = bytes)
    (h5 : (c.maxLocals == mx && c.exceptionTable.isEmpty && decide (c.maxStack ≤ mostOperands) && decide (meth.sig.returnType = rt) && !meth.locks && decide (parseMethodDescriptor y.desc = some meth.sig)) = true) : (Jvm.Cond.code y bytes mx rt).before a s = true := by
  simp only [Bool.and_eq_true, beq_iff_eq, Bool.not_eq_true', decide_eq_true_eq] at h5
  obtain ⟨⟨⟨⟨⟨g1, g2⟩, g3⟩, g4⟩, g5⟩, g6⟩ := h5
  simp [Cond.before, Cond.holds, Cond.value, h1, h2, h3, h4, g1, g2, g3, g4, g5, g6]
def isCode : Jvm.Cond → Bool
  | .code _ _ _ _ => true
  | _ => false
theorem all_split {L : List Jvm.Cond} {P : Jvm.Cond → Bool} (h1 : L.all (fun c => isCode c || P c) = true) (h2 : ∀ c ∈ L.filter isCode, P c = true) : L.all P = true := by
  refine List.all_eq_true.mpr fun c hc => ?_
  have h := List.all_eq_true.mp h1 c hc
  rcases Bool.eq_false_or_eq_true (isCode c) with hi | hi
  · exact h2 c (List.mem_filter.mpr ⟨hc, hi⟩)
  · simpa [hi] using h
set_option maxRecDepth 65536 in
theorem w_c0 : (Jvm.Cond.code x code maxLocals ret).before args0 about1 = true := code_word (m := ⟨1, 2⟩) (meth := k1m2) (c := k1c2) (by decide +kernel) rfl rfl rfl (by decide +kernel)
set_option maxRecDepth 65536 in
theorem w_c1 : (Jvm.Cond.code ({ cls := "com/example/amortine/amortine/Words", name := "quotient", desc := "(JJJI)J" } : Jvm.MethodName) prog_96_method_3_code (26 : Nat) (Option.some Jvm.ClassFile.FieldType.long)).before args0 about1 = true := code_word (m := ⟨2, 1⟩) (meth := k2m1) (c := k2c1) (by decide +kernel) rfl rfl rfl (by decide +kernel)
set_option maxRecDepth 65536 in
theorem w_c2 : (Jvm.Cond.code ({ cls := "com/example/amortine/amortine/WordsQuotientPinLaw", name := "ult", desc := "(JJ)Z" } : Jvm.MethodName) method_2_code (4 : Nat) (Option.some Jvm.ClassFile.FieldType.boolean)).before args0 about1 = true := code_word (m := ⟨1, 1⟩) (meth := k1m1) (c := k1c1) (by decide +kernel) rfl rfl rfl (by decide +kernel)
def codes1 : List Jvm.Cond := [Jvm.Cond.code x code maxLocals ret, Jvm.Cond.code ({ cls := "com/example/amortine/amortine/Words", name := "quotient", desc := "(JJJI)J" } : Jvm.MethodName) prog_96_method_3_code (26 : Nat) (Option.some Jvm.ClassFile.FieldType.long), Jvm.Cond.code ({ cls := "com/example/amortine/amortine/WordsQuotientPinLaw", name := "ult", desc := "(JJ)Z" } : Jvm.MethodName) method_2_code (4 : Nat) (Option.some Jvm.ClassFile.FieldType.boolean)]
set_option maxRecDepth 65536 in
theorem codes_eq : words1.filter isCode = codes1 := rfl
theorem w_codes : ∀ c ∈ words1.filter isCode, c.before args0 about1 = true := by
  rw [codes_eq]
  intro c hc
  simp only [codes1, List.mem_cons, List.not_mem_nil, or_false] at hc
  rcases hc with rfl | rfl | rfl
  · exact w_c0
  · exact w_c1
  · exact w_c2
set_option maxRecDepth 65536 in
theorem w_t1 : words1.all (fun c => isCode c || c.before args0 about1) = true := by decide +kernel
theorem w_tables : (allAtoms (Jvm.Cond.code x code maxLocals ret :: tables_1)).before args0 about1 = true := by
  rw [allAtoms_all]
  show words1.all (fun c => c.before args0 about1) = true
  refine all_split ?_ w_codes
  rw [w_t1]
set_option maxRecDepth 65536 in
theorem w_case : (Jvm.Cond.and given_1 narrow_1).before args0 about1 = true := by decide +kernel
theorem w_applies : (headSpec (Jvm.Cond.code x code maxLocals ret :: tables_1) room_1).applies x e0.platform about1 = true :=
  (Spec.applies_iff w_frames).mpr ⟨w_running, w_runnable, w_alone, w_named, w_hears, w_ripe, w_room, w_tables⟩
theorem atStart : AtStart classFile x code maxLocals ret World_1 tables_1 room_1 Calls_1 rest_1 Pre_1 launch0 p0 e0 about1 theMethod args0 below0 :=
  ⟨lists_1, trivial, launch0.admits_env _ _ _, launch0.least_env, fairChoices_fair.cas, fairChoices_fair.clock, w_frames, w_args, w_heap, w_applies, trivial, trivial, w_case⟩
end start1
theorem witness_1 : WitnessClaimed_1 := ⟨start1.p0, start1.e0, start1.about1, start1.theMethod, start1.args0, start1.below0, start1.atStart⟩
end Jvm.Pilot.@@N@@
