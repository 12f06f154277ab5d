import JvmDerived
import JvmDerived.Pilot.@@N@@Statement
import JvmDerived.Pilot.@@N@@Code
set_option linter.unusedVariables false
set_option linter.unusedSimpArgs false
namespace Jvm.Pilot.@@N@@
open Jvm Jvm.ClassFile Sem Op Lib Jvm.Free Jvm.Stand Jvm.LawKit Jvm.RoadKit Bundle Jvm.Pilot.@@N@@.Jvm.D
/-- from A the run comes to B -/
abbrev Go (p : Program) (e : Env) (below : List Frame) (A B : State) : Prop := ∀ t, Steps p.tables e below B t → Steps p.tables e below A t
section Own
variable {p : Program} {l : Launch} {e : Env} {R : Room} {s : State} {m : MethodId} {args : Array Value} {below : List Frame} {meth : Method} {c : Code} {T : State} {locs : List Loc} {cells slots : Nat} {t : State} {A : ByteArray} {pc : Nat} {L : Array Slot} {S : List Value}
theorem o_iloadN (X : Stand p l e R s m args below meth c T locs cells slots) (hx : p.tables.exec = Jvm.exec) (hby : c.code = A) {k : Fin 4} {v : Int32} (hd : decode A pc = .ok (.iload_n k, 1)) (n : Nat) (hn : pc + 1 = n) (hl : L[k.val]? = some (.val (.int v))) (hr : Steps p.tables e below (T.setTop (mkF m n L (.int v :: S))) t) : Steps p.tables e below (T.setTop (mkF m pc L S)) t := by
  subst hn; exact XS.iloadN X.here hx rfl (hb hby hd) hl hr
theorem o_lloadN (X : Stand p l e R s m args below meth c T locs cells slots) (hx : p.tables.exec = Jvm.exec) (hby : c.code = A) {k : Fin 4} {v : Int64} (hd : decode A pc = .ok (.lload_n k, 1)) (n : Nat) (hn : pc + 1 = n) (hl : L[k.val]? = some (.val (.long v))) (hr : Steps p.tables e below (T.setTop (mkF m n L (.long v :: S))) t) : Steps p.tables e below (T.setTop (mkF m pc L S)) t := by
  subst hn; exact XS.lloadN X.here hx rfl (hb hby hd) hl hr
theorem o_aloadN (X : Stand p l e R s m args below meth c T locs cells slots) (hx : p.tables.exec = Jvm.exec) (hby : c.code = A) {k : Fin 4} {v : Value} (hd : decode A pc = .ok (.aload_n k, 1)) (n : Nat) (hn : pc + 1 = n) (hl : L[k.val]? = some (.val v)) (hv : v.isRef = true) (hr : Steps p.tables e below (T.setTop (mkF m n L (v :: S))) t) : Steps p.tables e below (T.setTop (mkF m pc L S)) t := by
  subst hn; exact XS.aloadN X.here hx rfl (hb hby hd) hl hv hr
theorem o_istoreN (X : Stand p l e R s m args below meth c T locs cells slots) (hx : p.tables.exec = Jvm.exec) (hby : c.code = A) {k : Fin 4} {v : Int32} {l' : Array Slot} (hd : decode A pc = .ok (.istore_n k, 1)) (n : Nat) (hn : pc + 1 = n) (hl : storeLocals L k.val (.int v) = some l') (hr : Steps p.tables e below (T.setTop (mkF m n l' S)) t) : Steps p.tables e below (T.setTop (mkF m pc L (.int v :: S))) t := by
  subst hn; exact XS.istoreN X.here hx rfl (hb hby hd) rfl hl hr
theorem o_lstoreN (X : Stand p l e R s m args below meth c T locs cells slots) (hx : p.tables.exec = Jvm.exec) (hby : c.code = A) {k : Fin 4} {v : Int64} {l' : Array Slot} (hd : decode A pc = .ok (.lstore_n k, 1)) (n : Nat) (hn : pc + 1 = n) (hl : storeLocals L k.val (.long v) = some l') (hr : Steps p.tables e below (T.setTop (mkF m n l' S)) t) : Steps p.tables e below (T.setTop (mkF m pc L (.long v :: S))) t := by
  subst hn; exact XS.lstoreN X.here hx rfl (hb hby hd) rfl hl hr
theorem o_astoreN (X : Stand p l e R s m args below meth c T locs cells slots) (hx : p.tables.exec = Jvm.exec) (hby : c.code = A) {k : Fin 4} {v : Value} {l' : Array Slot} (hd : decode A pc = .ok (.astore_n k, 1)) (n : Nat) (hn : pc + 1 = n) (hv : v.isRef = true) (hl : storeLocals L k.val v = some l') (hr : Steps p.tables e below (T.setTop (mkF m n l' S)) t) : Steps p.tables e below (T.setTop (mkF m pc L (v :: S))) t := by
  subst hn; exact XS.astoreN X.here hx rfl (hb hby hd) rfl hv hl hr
theorem o_iload (X : Stand p l e R s m args below meth c T locs cells slots) (hx : p.tables.exec = Jvm.exec) (hby : c.code = A) {k : Nat} {v : Int32} (hd : decode A pc = .ok (.iload k, 2)) (n : Nat) (hn : pc + 2 = n) (hl : L[k]? = some (.val (.int v))) (hr : Steps p.tables e below (T.setTop (mkF m n L (.int v :: S))) t) : Steps p.tables e below (T.setTop (mkF m pc L S)) t := by
  subst hn; exact XS.iload X.here hx rfl (hb hby hd) hl hr
theorem o_lload (X : Stand p l e R s m args below meth c T locs cells slots) (hx : p.tables.exec = Jvm.exec) (hby : c.code = A) {k : Nat} {v : Int64} (hd : decode A pc = .ok (.lload k, 2)) (n : Nat) (hn : pc + 2 = n) (hl : L[k]? = some (.val (.long v))) (hr : Steps p.tables e below (T.setTop (mkF m n L (.long v :: S))) t) : Steps p.tables e below (T.setTop (mkF m pc L S)) t := by
  subst hn; exact XS.lload X.here hx rfl (hb hby hd) hl hr
theorem o_aload (X : Stand p l e R s m args below meth c T locs cells slots) (hx : p.tables.exec = Jvm.exec) (hby : c.code = A) {k : Nat} {v : Value} (hd : decode A pc = .ok (.aload k, 2)) (n : Nat) (hn : pc + 2 = n) (hl : L[k]? = some (.val v)) (hv : v.isRef = true) (hr : Steps p.tables e below (T.setTop (mkF m n L (v :: S))) t) : Steps p.tables e below (T.setTop (mkF m pc L S)) t := by
  subst hn; exact XS.aload X.here hx rfl (hb hby hd) hl hv hr
theorem o_istore (X : Stand p l e R s m args below meth c T locs cells slots) (hx : p.tables.exec = Jvm.exec) (hby : c.code = A) {k : Nat} {v : Int32} {l' : Array Slot} (hd : decode A pc = .ok (.istore k, 2)) (n : Nat) (hn : pc + 2 = n) (hl : storeLocals L k (.int v) = some l') (hr : Steps p.tables e below (T.setTop (mkF m n l' S)) t) : Steps p.tables e below (T.setTop (mkF m pc L (.int v :: S))) t := by
  subst hn; exact XS.istore X.here hx rfl (hb hby hd) rfl hl hr
theorem o_lstore (X : Stand p l e R s m args below meth c T locs cells slots) (hx : p.tables.exec = Jvm.exec) (hby : c.code = A) {k : Nat} {v : Int64} {l' : Array Slot} (hd : decode A pc = .ok (.lstore k, 2)) (n : Nat) (hn : pc + 2 = n) (hl : storeLocals L k (.long v) = some l') (hr : Steps p.tables e below (T.setTop (mkF m n l' S)) t) : Steps p.tables e below (T.setTop (mkF m pc L (.long v :: S))) t := by
  subst hn; exact XS.lstore X.here hx rfl (hb hby hd) rfl hl hr
theorem o_astore (X : Stand p l e R s m args below meth c T locs cells slots) (hx : p.tables.exec = Jvm.exec) (hby : c.code = A) {k : Nat} {v : Value} {l' : Array Slot} (hd : decode A pc = .ok (.astore k, 2)) (n : Nat) (hn : pc + 2 = n) (hv : v.isRef = true) (hl : storeLocals L k v = some l') (hr : Steps p.tables e below (T.setTop (mkF m n l' S)) t) : Steps p.tables e below (T.setTop (mkF m pc L (v :: S))) t := by
  subst hn; exact XS.astore X.here hx rfl (hb hby hd) rfl hv hl hr
theorem o_iconst (X : Stand p l e R s m args below meth c T locs cells slots) (hx : p.tables.exec = Jvm.exec) (hby : c.code = A) {i : Int} (hd : decode A pc = .ok (.iconst i, 1)) (n : Nat) (hn : pc + 1 = n) {v : Int32} (hv : Int32.ofInt i = v) (hr : Steps p.tables e below (T.setTop (mkF m n L (.int v :: S))) t) : Steps p.tables e below (T.setTop (mkF m pc L S)) t := by
  subst hn; subst hv; exact XS.iconst X.here hx rfl (hb hby hd) hr
theorem o_bipush (X : Stand p l e R s m args below meth c T locs cells slots) (hx : p.tables.exec = Jvm.exec) (hby : c.code = A) {i : Int} (hd : decode A pc = .ok (.bipush i, 2)) (n : Nat) (hn : pc + 2 = n) {v : Int32} (hv : (Int8.ofInt i).toInt32 = v) (hr : Steps p.tables e below (T.setTop (mkF m n L (.int v :: S))) t) : Steps p.tables e below (T.setTop (mkF m pc L S)) t := by
  subst hn; subst hv; exact XS.bipush X.here hx rfl (hb hby hd) hr
theorem o_sipush (X : Stand p l e R s m args below meth c T locs cells slots) (hx : p.tables.exec = Jvm.exec) (hby : c.code = A) {i : Int} (hd : decode A pc = .ok (.sipush i, 3)) (n : Nat) (hn : pc + 3 = n) {v : Int32} (hv : (Int16.ofInt i).toInt32 = v) (hr : Steps p.tables e below (T.setTop (mkF m n L (.int v :: S))) t) : Steps p.tables e below (T.setTop (mkF m pc L S)) t := by
  subst hn; subst hv; exact XS.sipush X.here hx rfl (hb hby hd) hr
theorem o_lconst (X : Stand p l e R s m args below meth c T locs cells slots) (hx : p.tables.exec = Jvm.exec) (hby : c.code = A) {i : Fin 2} (hd : decode A pc = .ok (.lconst i, 1)) (n : Nat) (hn : pc + 1 = n) {v : Int64} (hv : Int64.ofNat i.val = v) (hr : Steps p.tables e below (T.setTop (mkF m n L (.long v :: S))) t) : Steps p.tables e below (T.setTop (mkF m pc L S)) t := by
  subst hn; subst hv; exact XS.lconst X.here hx rfl (hb hby hd) hr
theorem o_aconstNull (X : Stand p l e R s m args below meth c T locs cells slots) (hx : p.tables.exec = Jvm.exec) (hby : c.code = A) (hd : decode A pc = .ok (.aconst_null, 1)) (n : Nat) (hn : pc + 1 = n) (hr : Steps p.tables e below (T.setTop (mkF m n L (.null :: S))) t) : Steps p.tables e below (T.setTop (mkF m pc L S)) t := by
  subst hn; exact XS.aconstNull X.here hx rfl (hb hby hd) hr
theorem o_iadd (X : Stand p l e R s m args below meth c T locs cells slots) (hx : p.tables.exec = Jvm.exec) (hby : c.code = A) {x y : Int32} (hd : decode A pc = .ok (.iadd, 1)) (n : Nat) (hn : pc + 1 = n) (hr : Steps p.tables e below (T.setTop (mkF m n L (.int (x + y) :: S))) t) : Steps p.tables e below (T.setTop (mkF m pc L (.int y :: .int x :: S))) t := by
  subst hn; exact XS.iadd X.here hx rfl (hb hby hd) rfl hr
theorem o_ladd (X : Stand p l e R s m args below meth c T locs cells slots) (hx : p.tables.exec = Jvm.exec) (hby : c.code = A) {x y : Int64} (hd : decode A pc = .ok (.ladd, 1)) (n : Nat) (hn : pc + 1 = n) (hr : Steps p.tables e below (T.setTop (mkF m n L (.long (x + y) :: S))) t) : Steps p.tables e below (T.setTop (mkF m pc L (.long y :: .long x :: S))) t := by
  subst hn; exact XS.ladd X.here hx rfl (hb hby hd) rfl hr
theorem o_isub (X : Stand p l e R s m args below meth c T locs cells slots) (hx : p.tables.exec = Jvm.exec) (hby : c.code = A) {x y : Int32} (hd : decode A pc = .ok (.isub, 1)) (n : Nat) (hn : pc + 1 = n) (hr : Steps p.tables e below (T.setTop (mkF m n L (.int (x - y) :: S))) t) : Steps p.tables e below (T.setTop (mkF m pc L (.int y :: .int x :: S))) t := by
  subst hn; exact XS.isub X.here hx rfl (hb hby hd) rfl hr
theorem o_lsub (X : Stand p l e R s m args below meth c T locs cells slots) (hx : p.tables.exec = Jvm.exec) (hby : c.code = A) {x y : Int64} (hd : decode A pc = .ok (.lsub, 1)) (n : Nat) (hn : pc + 1 = n) (hr : Steps p.tables e below (T.setTop (mkF m n L (.long (x - y) :: S))) t) : Steps p.tables e below (T.setTop (mkF m pc L (.long y :: .long x :: S))) t := by
  subst hn; exact XS.lsub X.here hx rfl (hb hby hd) rfl hr
theorem o_imul (X : Stand p l e R s m args below meth c T locs cells slots) (hx : p.tables.exec = Jvm.exec) (hby : c.code = A) {x y : Int32} (hd : decode A pc = .ok (.imul, 1)) (n : Nat) (hn : pc + 1 = n) (hr : Steps p.tables e below (T.setTop (mkF m n L (.int (x * y) :: S))) t) : Steps p.tables e below (T.setTop (mkF m pc L (.int y :: .int x :: S))) t := by
  subst hn; exact XS.imul X.here hx rfl (hb hby hd) rfl hr
theorem o_lmul (X : Stand p l e R s m args below meth c T locs cells slots) (hx : p.tables.exec = Jvm.exec) (hby : c.code = A) {x y : Int64} (hd : decode A pc = .ok (.lmul, 1)) (n : Nat) (hn : pc + 1 = n) (hr : Steps p.tables e below (T.setTop (mkF m n L (.long (x * y) :: S))) t) : Steps p.tables e below (T.setTop (mkF m pc L (.long y :: .long x :: S))) t := by
  subst hn; exact XS.lmul X.here hx rfl (hb hby hd) rfl hr
theorem o_iand (X : Stand p l e R s m args below meth c T locs cells slots) (hx : p.tables.exec = Jvm.exec) (hby : c.code = A) {x y : Int32} (hd : decode A pc = .ok (.iand, 1)) (n : Nat) (hn : pc + 1 = n) (hr : Steps p.tables e below (T.setTop (mkF m n L (.int (x &&& y) :: S))) t) : Steps p.tables e below (T.setTop (mkF m pc L (.int y :: .int x :: S))) t := by
  subst hn; exact XS.iand X.here hx rfl (hb hby hd) rfl hr
theorem o_land (X : Stand p l e R s m args below meth c T locs cells slots) (hx : p.tables.exec = Jvm.exec) (hby : c.code = A) {x y : Int64} (hd : decode A pc = .ok (.land, 1)) (n : Nat) (hn : pc + 1 = n) (hr : Steps p.tables e below (T.setTop (mkF m n L (.long (x &&& y) :: S))) t) : Steps p.tables e below (T.setTop (mkF m pc L (.long y :: .long x :: S))) t := by
  subst hn; exact XS.land X.here hx rfl (hb hby hd) rfl hr
theorem o_ior (X : Stand p l e R s m args below meth c T locs cells slots) (hx : p.tables.exec = Jvm.exec) (hby : c.code = A) {x y : Int32} (hd : decode A pc = .ok (.ior, 1)) (n : Nat) (hn : pc + 1 = n) (hr : Steps p.tables e below (T.setTop (mkF m n L (.int (x ||| y) :: S))) t) : Steps p.tables e below (T.setTop (mkF m pc L (.int y :: .int x :: S))) t := by
  subst hn; exact XS.ior X.here hx rfl (hb hby hd) rfl hr
theorem o_lor (X : Stand p l e R s m args below meth c T locs cells slots) (hx : p.tables.exec = Jvm.exec) (hby : c.code = A) {x y : Int64} (hd : decode A pc = .ok (.lor, 1)) (n : Nat) (hn : pc + 1 = n) (hr : Steps p.tables e below (T.setTop (mkF m n L (.long (x ||| y) :: S))) t) : Steps p.tables e below (T.setTop (mkF m pc L (.long y :: .long x :: S))) t := by
  subst hn; exact XS.lor X.here hx rfl (hb hby hd) rfl hr
theorem o_ixor (X : Stand p l e R s m args below meth c T locs cells slots) (hx : p.tables.exec = Jvm.exec) (hby : c.code = A) {x y : Int32} (hd : decode A pc = .ok (.ixor, 1)) (n : Nat) (hn : pc + 1 = n) (hr : Steps p.tables e below (T.setTop (mkF m n L (.int (x ^^^ y) :: S))) t) : Steps p.tables e below (T.setTop (mkF m pc L (.int y :: .int x :: S))) t := by
  subst hn; exact XS.ixor X.here hx rfl (hb hby hd) rfl hr
theorem o_lxor (X : Stand p l e R s m args below meth c T locs cells slots) (hx : p.tables.exec = Jvm.exec) (hby : c.code = A) {x y : Int64} (hd : decode A pc = .ok (.lxor, 1)) (n : Nat) (hn : pc + 1 = n) (hr : Steps p.tables e below (T.setTop (mkF m n L (.long (x ^^^ y) :: S))) t) : Steps p.tables e below (T.setTop (mkF m pc L (.long y :: .long x :: S))) t := by
  subst hn; exact XS.lxor X.here hx rfl (hb hby hd) rfl hr
theorem o_idiv (X : Stand p l e R s m args below meth c T locs cells slots) (hx : p.tables.exec = Jvm.exec) (hby : c.code = A) {x y : Int32} (hd : decode A pc = .ok (.idiv, 1)) (n : Nat) (hn : pc + 1 = n) (hy : ¬ (y = 0)) (hr : Steps p.tables e below (T.setTop (mkF m n L (.int (x / y) :: S))) t) : Steps p.tables e below (T.setTop (mkF m pc L (.int y :: .int x :: S))) t := by
  subst hn; exact XS.idiv X.here hx rfl (hb hby hd) rfl hy hr
theorem o_ldiv (X : Stand p l e R s m args below meth c T locs cells slots) (hx : p.tables.exec = Jvm.exec) (hby : c.code = A) {x y : Int64} (hd : decode A pc = .ok (.ldiv, 1)) (n : Nat) (hn : pc + 1 = n) (hy : ¬ (y = 0)) (hr : Steps p.tables e below (T.setTop (mkF m n L (.long (x / y) :: S))) t) : Steps p.tables e below (T.setTop (mkF m pc L (.long y :: .long x :: S))) t := by
  subst hn; exact XS.ldiv X.here hx rfl (hb hby hd) rfl hy hr
theorem o_irem (X : Stand p l e R s m args below meth c T locs cells slots) (hx : p.tables.exec = Jvm.exec) (hby : c.code = A) {x y : Int32} (hd : decode A pc = .ok (.irem, 1)) (n : Nat) (hn : pc + 1 = n) (hy : ¬ (y = 0)) (hr : Steps p.tables e below (T.setTop (mkF m n L (.int (x % y) :: S))) t) : Steps p.tables e below (T.setTop (mkF m pc L (.int y :: .int x :: S))) t := by
  subst hn; exact XS.irem X.here hx rfl (hb hby hd) rfl hy (by rw [irem_eq_mod]; exact hr)
theorem o_lrem (X : Stand p l e R s m args below meth c T locs cells slots) (hx : p.tables.exec = Jvm.exec) (hby : c.code = A) {x y : Int64} (hd : decode A pc = .ok (.lrem, 1)) (n : Nat) (hn : pc + 1 = n) (hy : ¬ (y = 0)) (hr : Steps p.tables e below (T.setTop (mkF m n L (.long (x % y) :: S))) t) : Steps p.tables e below (T.setTop (mkF m pc L (.long y :: .long x :: S))) t := by
  subst hn; exact XS.lrem X.here hx rfl (hb hby hd) rfl hy (by rw [lrem_mod]; exact hr)
theorem o_ineg (X : Stand p l e R s m args below meth c T locs cells slots) (hx : p.tables.exec = Jvm.exec) (hby : c.code = A) {x : Int32} (hd : decode A pc = .ok (.ineg, 1)) (n : Nat) (hn : pc + 1 = n) (hr : Steps p.tables e below (T.setTop (mkF m n L (.int (-x) :: S))) t) : Steps p.tables e below (T.setTop (mkF m pc L (.int x :: S))) t := by
  subst hn; exact XS.ineg X.here hx rfl (hb hby hd) rfl hr
theorem o_lneg (X : Stand p l e R s m args below meth c T locs cells slots) (hx : p.tables.exec = Jvm.exec) (hby : c.code = A) {x : Int64} (hd : decode A pc = .ok (.lneg, 1)) (n : Nat) (hn : pc + 1 = n) (hr : Steps p.tables e below (T.setTop (mkF m n L (.long (-x) :: S))) t) : Steps p.tables e below (T.setTop (mkF m pc L (.long x :: S))) t := by
  subst hn; exact XS.lneg X.here hx rfl (hb hby hd) rfl hr
theorem o_i2l (X : Stand p l e R s m args below meth c T locs cells slots) (hx : p.tables.exec = Jvm.exec) (hby : c.code = A) {x : Int32} (hd : decode A pc = .ok (.i2l, 1)) (n : Nat) (hn : pc + 1 = n) (hr : Steps p.tables e below (T.setTop (mkF m n L (.long (x.toInt64) :: S))) t) : Steps p.tables e below (T.setTop (mkF m pc L (.int x :: S))) t := by
  subst hn; exact XS.i2l X.here hx rfl (hb hby hd) rfl hr
theorem o_l2i (X : Stand p l e R s m args below meth c T locs cells slots) (hx : p.tables.exec = Jvm.exec) (hby : c.code = A) {x : Int64} (hd : decode A pc = .ok (.l2i, 1)) (n : Nat) (hn : pc + 1 = n) (hr : Steps p.tables e below (T.setTop (mkF m n L (.int (x.toInt32) :: S))) t) : Steps p.tables e below (T.setTop (mkF m pc L (.long x :: S))) t := by
  subst hn; exact XS.l2i X.here hx rfl (hb hby hd) rfl hr
theorem o_i2b (X : Stand p l e R s m args below meth c T locs cells slots) (hx : p.tables.exec = Jvm.exec) (hby : c.code = A) {x : Int32} (hd : decode A pc = .ok (.i2b, 1)) (n : Nat) (hn : pc + 1 = n) (hr : Steps p.tables e below (T.setTop (mkF m n L (.int (x.toInt8.toInt32) :: S))) t) : Steps p.tables e below (T.setTop (mkF m pc L (.int x :: S))) t := by
  subst hn; exact XS.i2b X.here hx rfl (hb hby hd) rfl hr
theorem o_i2s (X : Stand p l e R s m args below meth c T locs cells slots) (hx : p.tables.exec = Jvm.exec) (hby : c.code = A) {x : Int32} (hd : decode A pc = .ok (.i2s, 1)) (n : Nat) (hn : pc + 1 = n) (hr : Steps p.tables e below (T.setTop (mkF m n L (.int (x.toInt16.toInt32) :: S))) t) : Steps p.tables e below (T.setTop (mkF m pc L (.int x :: S))) t := by
  subst hn; exact XS.i2s X.here hx rfl (hb hby hd) rfl hr
theorem o_i2c (X : Stand p l e R s m args below meth c T locs cells slots) (hx : p.tables.exec = Jvm.exec) (hby : c.code = A) {x : Int32} (hd : decode A pc = .ok (.i2c, 1)) (n : Nat) (hn : pc + 1 = n) (hr : Steps p.tables e below (T.setTop (mkF m n L (.int (x.toUInt32.toUInt16.toUInt32.toInt32) :: S))) t) : Steps p.tables e below (T.setTop (mkF m pc L (.int x :: S))) t := by
  subst hn; exact XS.i2c X.here hx rfl (hb hby hd) rfl hr
theorem o_ishl (X : Stand p l e R s m args below meth c T locs cells slots) (hx : p.tables.exec = Jvm.exec) (hby : c.code = A) {x y : Int32} (hd : decode A pc = .ok (.ishl, 1)) (n : Nat) (hn : pc + 1 = n) (hr : Steps p.tables e below (T.setTop (mkF m n L (.int (x <<< (y &&& 31)) :: S))) t) : Steps p.tables e below (T.setTop (mkF m pc L (.int y :: .int x :: S))) t := by
  subst hn; exact XS.ishl X.here hx rfl (hb hby hd) rfl hr
theorem o_ishr (X : Stand p l e R s m args below meth c T locs cells slots) (hx : p.tables.exec = Jvm.exec) (hby : c.code = A) {x y : Int32} (hd : decode A pc = .ok (.ishr, 1)) (n : Nat) (hn : pc + 1 = n) (hr : Steps p.tables e below (T.setTop (mkF m n L (.int (x >>> (y &&& 31)) :: S))) t) : Steps p.tables e below (T.setTop (mkF m pc L (.int y :: .int x :: S))) t := by
  subst hn; exact XS.ishr X.here hx rfl (hb hby hd) rfl hr
theorem o_iushr (X : Stand p l e R s m args below meth c T locs cells slots) (hx : p.tables.exec = Jvm.exec) (hby : c.code = A) {x y : Int32} (hd : decode A pc = .ok (.iushr, 1)) (n : Nat) (hn : pc + 1 = n) (hr : Steps p.tables e below (T.setTop (mkF m n L (.int ((x.toUInt32 >>> (y &&& 31).toUInt32).toInt32) :: S))) t) : Steps p.tables e below (T.setTop (mkF m pc L (.int y :: .int x :: S))) t := by
  subst hn; exact XS.iushr X.here hx rfl (hb hby hd) rfl hr
theorem o_lshl (X : Stand p l e R s m args below meth c T locs cells slots) (hx : p.tables.exec = Jvm.exec) (hby : c.code = A) {x : Int64} {y : Int32} (hd : decode A pc = .ok (.lshl, 1)) (n : Nat) (hn : pc + 1 = n) (hr : Steps p.tables e below (T.setTop (mkF m n L (.long (x <<< (y &&& 0x3f).toInt64) :: S))) t) : Steps p.tables e below (T.setTop (mkF m pc L (.int y :: .long x :: S))) t := by
  subst hn; exact XS.lshl X.here hx rfl (hb hby hd) rfl hr
theorem o_lshr (X : Stand p l e R s m args below meth c T locs cells slots) (hx : p.tables.exec = Jvm.exec) (hby : c.code = A) {x : Int64} {y : Int32} (hd : decode A pc = .ok (.lshr, 1)) (n : Nat) (hn : pc + 1 = n) (hr : Steps p.tables e below (T.setTop (mkF m n L (.long (x >>> (y &&& 0x3f).toInt64) :: S))) t) : Steps p.tables e below (T.setTop (mkF m pc L (.int y :: .long x :: S))) t := by
  subst hn; exact XS.lshr X.here hx rfl (hb hby hd) rfl hr
theorem o_lushr (X : Stand p l e R s m args below meth c T locs cells slots) (hx : p.tables.exec = Jvm.exec) (hby : c.code = A) {x : Int64} {y : Int32} (hd : decode A pc = .ok (.lushr, 1)) (n : Nat) (hn : pc + 1 = n) (hr : Steps p.tables e below (T.setTop (mkF m n L (.long ((x.toUInt64 >>> (y &&& 0x3f).toInt64.toUInt64).toInt64) :: S))) t) : Steps p.tables e below (T.setTop (mkF m pc L (.int y :: .long x :: S))) t := by
  subst hn; exact XS.lushr X.here hx rfl (hb hby hd) rfl hr
theorem o_lcmp (X : Stand p l e R s m args below meth c T locs cells slots) (hx : p.tables.exec = Jvm.exec) (hby : c.code = A) {x y : Int64} (hd : decode A pc = .ok (.lcmp, 1)) (n : Nat) (hn : pc + 1 = n) (hr : Steps p.tables e below (T.setTop (mkF m n L (.int (lcmpW x y) :: S))) t) : Steps p.tables e below (T.setTop (mkF m pc L (.long y :: .long x :: S))) t := by
  subst hn; exact XS.lcmp X.here hx rfl (hb hby hd) rfl hr
theorem o_dup (X : Stand p l e R s m args below meth c T locs cells slots) (hx : p.tables.exec = Jvm.exec) (hby : c.code = A) {x : Value} (hd : decode A pc = .ok (.dup, 1)) (n : Nat) (hn : pc + 1 = n) (hc : x.category = 1) (hr : Steps p.tables e below (T.setTop (mkF m n L (x :: x :: S))) t) : Steps p.tables e below (T.setTop (mkF m pc L (x :: S))) t := by
  subst hn; exact XS.dup X.here hx rfl (hb hby hd) rfl hc hr
theorem o_dupX1 (X : Stand p l e R s m args below meth c T locs cells slots) (hx : p.tables.exec = Jvm.exec) (hby : c.code = A) {x y : Value} (hd : decode A pc = .ok (.dup_x1, 1)) (n : Nat) (hn : pc + 1 = n) (hc : x.category = 1) (hc' : y.category = 1) (hr : Steps p.tables e below (T.setTop (mkF m n L (x :: y :: x :: S))) t) : Steps p.tables e below (T.setTop (mkF m pc L (x :: y :: S))) t := by
  subst hn; exact XT.dupX1 X.here hx rfl (hb hby hd) rfl hc hc' hr
theorem o_dup2 (X : Stand p l e R s m args below meth c T locs cells slots) (hx : p.tables.exec = Jvm.exec) (hby : c.code = A) {x y : Value} (hd : decode A pc = .ok (.dup2, 1)) (n : Nat) (hn : pc + 1 = n) (hc : x.category = 1) (hc' : y.category = 1) (hr : Steps p.tables e below (T.setTop (mkF m n L (x :: y :: x :: y :: S))) t) : Steps p.tables e below (T.setTop (mkF m pc L (x :: y :: S))) t := by
  subst hn; exact XT.dup2 X.here hx rfl (hb hby hd) rfl hc hc' hr
theorem o_iinc (X : Stand p l e R s m args below meth c T locs cells slots) (hx : p.tables.exec = Jvm.exec) (hby : c.code = A) {k : Nat} {cst : Int} {x : Int32} {l' : Array Slot} (hd : decode A pc = .ok (.iinc k cst, 3)) (n : Nat) (hn : pc + 3 = n) (hl : L[k]? = some (.val (.int x))) {i : Int32} (hi : Int32.ofInt cst = i) (hl' : storeLocals L k (.int (x + i)) = some l') (hr : Steps p.tables e below (T.setTop (mkF m n l' S)) t) : Steps p.tables e below (T.setTop (mkF m pc L S)) t := by
  subst hn; subst hi; exact XS.iinc X.here hx rfl (hb hby hd) hl hl' hr
theorem o_pop (X : Stand p l e R s m args below meth c T locs cells slots) (hx : p.tables.exec = Jvm.exec) (hby : c.code = A) {x : Value} (hd : decode A pc = .ok (.pop, 1)) (n : Nat) (hn : pc + 1 = n) (hc : x.category = 1) (hr : Steps p.tables e below (T.setTop (mkF m n L S)) t) : Steps p.tables e below (T.setTop (mkF m pc L (x :: S))) t := by
  subst hn; exact XT.pop X.here hx rfl (hb hby hd) rfl hc hr
theorem o_goto (X : Stand p l e R s m args below meth c T locs cells slots) (hx : p.tables.exec = Jvm.exec) (hby : c.code = A) {o : Int} (hd : decode A pc = .ok (.goto o, 3)) (n : Nat) (hn : (pc : Int) + o = (n : Int)) (hr : Steps p.tables e below (T.setTop (mkF m n L S)) t) : Steps p.tables e below (T.setTop (mkF m pc L S)) t :=
  XS.goto X.here hx rfl (pc0 := pc) (pc' := n) rfl (hb hby hd) (by omega) (by omega) hr
theorem o_ifY (X : Stand p l e R s m args below meth c T locs cells slots) (hx : p.tables.exec = Jvm.exec) (hby : c.code = A) {cd : ClassFile.Cond} {x : Int32} {o : Int} (hd : decode A pc = .ok (.ifCond cd o, 3)) (n : Nat) (hn : (pc : Int) + o = (n : Int)) (hc : if_icmp.holds cd x 0 = true) (hr : Steps p.tables e below (T.setTop (mkF m n L S)) t) : Steps p.tables e below (T.setTop (mkF m pc L (.int x :: S))) t :=
  XS.ifYes X.here hx rfl (pc0 := pc) (pc' := n) rfl (hb hby hd) rfl ((if0 _ _).trans hc) (by omega) (by omega) hr
theorem o_ifN (X : Stand p l e R s m args below meth c T locs cells slots) (hx : p.tables.exec = Jvm.exec) (hby : c.code = A) {cd : ClassFile.Cond} {x : Int32} {o : Int} (hd : decode A pc = .ok (.ifCond cd o, 3)) (n : Nat) (hn : pc + 3 = n) (hc : if_icmp.holds cd x 0 = false) (hr : Steps p.tables e below (T.setTop (mkF m n L S)) t) : Steps p.tables e below (T.setTop (mkF m pc L (.int x :: S))) t := by
  subst hn; exact XS.ifNo X.here hx rfl (hb hby hd) rfl ((if0 _ _).trans hc) hr
theorem o_icmpY (X : Stand p l e R s m args below meth c T locs cells slots) (hx : p.tables.exec = Jvm.exec) (hby : c.code = A) {cd : ClassFile.Cond} {x y : Int32} {o : Int} (hd : decode A pc = .ok (.if_icmp cd o, 3)) (n : Nat) (hn : (pc : Int) + o = (n : Int)) (hc : if_icmp.holds cd x y = true) (hr : Steps p.tables e below (T.setTop (mkF m n L S)) t) : Steps p.tables e below (T.setTop (mkF m pc L (.int y :: .int x :: S))) t :=
  XS.icmpYes X.here hx rfl (pc0 := pc) (pc' := n) rfl (hb hby hd) rfl hc (by omega) (by omega) hr
theorem o_icmpN (X : Stand p l e R s m args below meth c T locs cells slots) (hx : p.tables.exec = Jvm.exec) (hby : c.code = A) {cd : ClassFile.Cond} {x y : Int32} {o : Int} (hd : decode A pc = .ok (.if_icmp cd o, 3)) (n : Nat) (hn : pc + 3 = n) (hc : if_icmp.holds cd x y = false) (hr : Steps p.tables e below (T.setTop (mkF m n L S)) t) : Steps p.tables e below (T.setTop (mkF m pc L (.int y :: .int x :: S))) t := by
  subst hn; exact XS.icmpNo X.here hx rfl (hb hby hd) rfl hc hr
theorem o_ifnullY (X : Stand p l e R s m args below meth c T locs cells slots) (hx : p.tables.exec = Jvm.exec) (hby : c.code = A) {o : Int} (hd : decode A pc = .ok (.ifnull o, 3)) (n : Nat) (hn : (pc : Int) + o = (n : Int)) (hr : Steps p.tables e below (T.setTop (mkF m n L S)) t) : Steps p.tables e below (T.setTop (mkF m pc L (.null :: S))) t :=
  XS.ifnullYes X.here hx rfl (pc0 := pc) (pc' := n) rfl (hb hby hd) rfl (by omega) (by omega) hr
theorem o_ifnullN (X : Stand p l e R s m args below meth c T locs cells slots) (hx : p.tables.exec = Jvm.exec) (hby : c.code = A) {a : Addr} {o : Int} (hd : decode A pc = .ok (.ifnull o, 3)) (n : Nat) (hn : pc + 3 = n) (hr : Steps p.tables e below (T.setTop (mkF m n L S)) t) : Steps p.tables e below (T.setTop (mkF m pc L (.ref a :: S))) t := by
  subst hn; exact XS.ifnullNo X.here hx rfl (hb hby hd) rfl hr
theorem o_ifnonnullY (X : Stand p l e R s m args below meth c T locs cells slots) (hx : p.tables.exec = Jvm.exec) (hby : c.code = A) {a : Addr} {o : Int} (hd : decode A pc = .ok (.ifnonnull o, 3)) (n : Nat) (hn : (pc : Int) + o = (n : Int)) (hr : Steps p.tables e below (T.setTop (mkF m n L S)) t) : Steps p.tables e below (T.setTop (mkF m pc L (.ref a :: S))) t :=
  XS.ifnonnullYes X.here hx rfl (pc0 := pc) (pc' := n) rfl (hb hby hd) rfl (by omega) (by omega) hr
theorem o_ifnonnullN (X : Stand p l e R s m args below meth c T locs cells slots) (hx : p.tables.exec = Jvm.exec) (hby : c.code = A) {o : Int} (hd : decode A pc = .ok (.ifnonnull o, 3)) (n : Nat) (hn : pc + 3 = n) (hr : Steps p.tables e below (T.setTop (mkF m n L S)) t) : Steps p.tables e below (T.setTop (mkF m pc L (.null :: S))) t := by
  subst hn; exact XS.ifnonnullNo X.here hx rfl (hb hby hd) rfl hr
theorem o_acmp (X : Stand p l e R s m args below meth c T locs cells slots) (hx : p.tables.exec = Jvm.exec) (hby : c.code = A) {cd : ClassFile.ACond} {x y : Value} {o : Int} (hd : decode A pc = .ok (.if_acmp cd o, 3)) (n : Nat) {same : Bool} (h1 : x.isRef = true) (h2 : y.isRef = true) (hq : decide (x = y) = same) (ho : 0 ≤ (pc : Int) + o) (hp : n = if acV cd same = true then ((pc : Int) + o).toNat else pc + 3) (hr : Steps p.tables e below (T.setTop (mkF m n L S)) t) : Steps p.tables e below (T.setTop (mkF m pc L (y :: x :: S))) t :=
  Jvm.RoadKit.acmp X hx rfl h1 h2 (pc0 := pc) (pc' := n) rfl (hb hby hd) rfl hq ho hp hr
theorem o_ldcInt (X : Stand p l e R s m args below meth c T locs cells slots) (hx : p.tables.exec = Jvm.exec) (hby : c.code = A) {own : String} {i : Nat} {v : Int32} (hown : s.vm.findClass own = some m.cls) (hc : (Cond.constant own i v).before args s = true) (hd : decode A pc = .ok (.ldc i, 2)) (n : Nat) (hn : pc + 2 = n) (hr : Steps p.tables e below (T.setTop (mkF m n L (.int v :: S))) t) : Steps p.tables e below (T.setTop (mkF m pc L S)) t := by
  subst hn; exact X.ldcInt hx hown hc (g := mkF m pc L S) rfl (hb hby hd) t hr
theorem o_ldcwInt (X : Stand p l e R s m args below meth c T locs cells slots) (hx : p.tables.exec = Jvm.exec) (hby : c.code = A) {own : String} {i : Nat} {v : Int32} (hown : s.vm.findClass own = some m.cls) (hc : (Cond.constant own i v).before args s = true) (hd : decode A pc = .ok (.ldc_w i, 3)) (n : Nat) (hn : pc + 3 = n) (hr : Steps p.tables e below (T.setTop (mkF m n L (.int v :: S))) t) : Steps p.tables e below (T.setTop (mkF m pc L S)) t := by
  subst hn; exact X.ldcwInt hx hown hc (g := mkF m pc L S) rfl (hb hby hd) t hr
theorem o_ldc2Long (X : Stand p l e R s m args below meth c T locs cells slots) (hx : p.tables.exec = Jvm.exec) (hby : c.code = A) {own : String} {i : Nat} {v : Int64} (hown : s.vm.findClass own = some m.cls) (hc : (Cond.constantLong own i v).before args s = true) (hd : decode A pc = .ok (.ldc2_w i, 3)) (n : Nat) (hn : pc + 3 = n) (hr : Steps p.tables e below (T.setTop (mkF m n L (.long v :: S))) t) : Steps p.tables e below (T.setTop (mkF m pc L S)) t := by
  subst hn; exact X.ldc2Long hx hown hc (g := mkF m pc L S) rfl (hb hby hd) t hr
theorem o_b0 : narrow .boolean (.int (0 : Int32)) = .int (0 : Int32) := by decide
theorem o_b1 : narrow .boolean (.int (1 : Int32)) = .int (1 : Int32) := by decide
theorem o_b01 {z : Int32} (h : z = 0 ∨ z = 1) : narrow .boolean (.int z) = .int z := by rcases h with rfl | rfl <;> decide
theorem o_nf {z : Int32} (h : z = 0 ∨ z = 1) : narrow .boolean (.int z) = .int z ∧ fits .boolean (.int z) = true := by rcases h with rfl | rfl <;> decide
theorem o_retZ (X : Stand p l e R s m args below meth c T locs cells slots) (hx : p.tables.exec = Jvm.exec) {Ls : Array Slot} {z : Int32} {rest : List Value} (hret : meth.sig.returnType = some .boolean)
    (hd : decode c.code pc = .ok (.ireturn, 1)) (hz : z = 0 ∨ z = 1) {fs : List Frame} (hl : ∀ (f : JFrame) (acts : List Action), f.method = m → f.locked = none → f.entered = [] → (doReturn e (T.setTop f) acts (some (.int z))).1 = T.setFrames fs) :
    Steps p.tables e below (T.setTop (mkF m pc Ls (.int z :: rest))) (T.setFrames fs) :=
  retOut X hx hret (o_b01 hz) (Or.inl ⟨rfl, Or.inr (Or.inl rfl), z, rfl⟩) hd hl
theorem o_retI (X : Stand p l e R s m args below meth c T locs cells slots) (hx : p.tables.exec = Jvm.exec) {Ls : Array Slot} {z : Int32} {rest : List Value} (hret : meth.sig.returnType = some .int)
    (hd : decode c.code pc = .ok (.ireturn, 1)) {fs : List Frame} (hl : ∀ (f : JFrame) (acts : List Action), f.method = m → f.locked = none → f.entered = [] → (doReturn e (T.setTop f) acts (some (.int z))).1 = T.setFrames fs) :
    Steps p.tables e below (T.setTop (mkF m pc Ls (.int z :: rest))) (T.setFrames fs) :=
  retOut X hx hret rfl (Or.inl ⟨rfl, Or.inl rfl, z, rfl⟩) hd hl
theorem o_retB (X : Stand p l e R s m args below meth c T locs cells slots) (hx : p.tables.exec = Jvm.exec) {Ls : Array Slot} {z : Int32} {rest : List Value} (hret : meth.sig.returnType = some .byte)
    (hd : decode c.code pc = .ok (.ireturn, 1)) (hz : narrow .byte (.int z) = .int z) {fs : List Frame} (hl : ∀ (f : JFrame) (acts : List Action), f.method = m → f.locked = none → f.entered = [] → (doReturn e (T.setTop f) acts (some (.int z))).1 = T.setFrames fs) :
    Steps p.tables e below (T.setTop (mkF m pc Ls (.int z :: rest))) (T.setFrames fs) :=
  retOut X hx hret hz (Or.inl ⟨rfl, Or.inr (Or.inr (Or.inl rfl)), z, rfl⟩) hd hl
theorem o_retJ (X : Stand p l e R s m args below meth c T locs cells slots) (hx : p.tables.exec = Jvm.exec) {Ls : Array Slot} {z : Int64} {rest : List Value} (hret : meth.sig.returnType = some .long)
    (hd : decode c.code pc = .ok (.lreturn, 1)) {fs : List Frame} (hl : ∀ (f : JFrame) (acts : List Action), f.method = m → f.locked = none → f.entered = [] → (doReturn e (T.setTop f) acts (some (.long z))).1 = T.setFrames fs) :
    Steps p.tables e below (T.setTop (mkF m pc Ls (.long z :: rest))) (T.setFrames fs) :=
  retOut X hx hret rfl (Or.inr (Or.inl ⟨rfl, rfl, z, rfl⟩)) hd hl
theorem o_retR (X : Stand p l e R s m args below meth c T locs cells slots) (hx : p.tables.exec = Jvm.exec) {Ls : Array Slot} {w : Value} {ty : FieldType} {rest : List Value} (hret : meth.sig.returnType = some ty) (ht : ty.isReference = true)
    (hd : decode c.code pc = .ok (.areturn, 1)) (hw : w.isRef = true) (hn : narrow ty w = w) {fs : List Frame} (hl : ∀ (f : JFrame) (acts : List Action), f.method = m → f.locked = none → f.entered = [] → (doReturn e (T.setTop f) acts (some w)).1 = T.setFrames fs) :
    Steps p.tables e below (T.setTop (mkF m pc Ls (w :: rest))) (T.setFrames fs) :=
  retOut X hx hret hn (Or.inr (Or.inr (Or.inr (Or.inr ⟨rfl, ht, hw⟩)))) hd hl
end Own

def own_at (b0 b1 b2 b3 i : Int32) : Int32 := if i = 0 then b0 else if i = 1 then b1 else if i = 2 then b2 else b3
theorem own_four {j : Int32} (h : ¬ j < 0 ∧ j < 4) : j = 0 ∨ j = 1 ∨ j = 2 ∨ j = 3 := by
  obtain ⟨h1, h2⟩ := h
  rw [Int32.lt_iff_toInt_lt] at h1 h2
  simp only [Int32.reduceToInt] at h1 h2
  rcases (by omega : j.toInt = 0 ∨ j.toInt = 1 ∨ j.toInt = 2 ∨ j.toInt = 3) with q | q | q | q
  · exact Or.inl (Int32.toInt_inj.mp q)
  · exact Or.inr (Or.inl (Int32.toInt_inj.mp q))
  · exact Or.inr (Or.inr (Or.inl (Int32.toInt_inj.mp q)))
  · exact Or.inr (Or.inr (Or.inr (Int32.toInt_inj.mp q)))
theorem own_get4 {b0 b1 b2 b3 j : Int32} {dv : Value} (h : ¬ j < 0 ∧ j < 4) : ([.int b0, .int b1, .int b2, .int b3] : List Value).getD j.toNatClampNeg dv = .int (own_at b0 b1 b2 b3 j) := by
  rcases own_four h with rfl | rfl | rfl | rfl <;> rfl
theorem own_nb (x : Int32) : narrow .byte (.int (x.toInt8.toInt32)) = .int (x.toInt8.toInt32) := by simp [narrow]
theorem own_l0 {y p : Int32} (h : p.toInt ≤ y.toInt + ((0 : Nat) : Int)) : ¬ y < p := by rw [Int32.lt_iff_toInt_lt]; omega
theorem own_p1 {y p v : Int32} (hlt : y < p) (h3 : p.toInt ≤ 4) (hp : ¬ y < 0) (hv : v = y + 1) : v.toInt = y.toInt + 1 := by
  rw [Int32.lt_iff_toInt_lt] at hlt hp; have k := c_iadd y 1; rw [← hv] at k; have r := rng32 v; simp only [Int32.reduceToInt] at hp k; omega
theorem own_u1 {y p v : Int32} (hlt : y < p) (h3 : p.toInt ≤ 4) (hp : ¬ y < 0) (hv : v = y + 1) : ¬ v < 0 := by
  have k := own_p1 hlt h3 hp hv; rw [Int32.lt_iff_toInt_lt] at hp ⊢; simp only [Int32.reduceToInt] at hp ⊢; omega
theorem own_u2 {y p v : Int32} {n : Nat} (hlt : y < p) (h3 : p.toInt ≤ 4) (hp : ¬ y < 0) (hv : v = y + 1) (hn : p.toInt ≤ y.toInt + ((n + 1 : Nat) : Int)) : p.toInt ≤ v.toInt + (n : Int) := by
  have k := own_p1 hlt h3 hp hv; omega
theorem own_j1 {y p : Int32} (hlt : y < p) (h3 : p.toInt ≤ 4) (hp : ¬ y < 0) : ¬ y < 0 ∧ y < 4 := by
  refine ⟨hp, ?_⟩; rw [Int32.lt_iff_toInt_lt] at hlt ⊢; simp only [Int32.reduceToInt]; omega
def own_step (pt b y7 y8 y9 y10 : Int32) (y11 : Int64) (y13 : Int32) : Int32 × Int32 × Int32 × Int32 × Int64 × Int32 :=
  if b < 48 ∨ 57 < b then (if b = 46 ∧ ¬ pt = 0 ∧ y8 = 0 then (y7, 1, y9, y10, y11, y13 + 1) else (0, y8, y9, y10, y11, y13 + 1))
  else (y7, y8, y9 + 1, (if y8 = 0 then y10 else y10 + 1), y11 * 10 + (b - 48).toInt64, y13 + 1)
def own_run (b0 b1 b2 b3 to pt : Int32) : Nat → Int32 × Int32 × Int32 × Int32 × Int64 × Int32 → Int32 × Int32 × Int32 × Int32 × Int64 × Int32
  | 0, s => s
  | n + 1, (y7, y8, y9, y10, y11, y13) => if y7 = 0 then (y7, y8, y9, y10, y11, y13) else if y13 < to then own_run b0 b1 b2 b3 to pt n (own_step pt (own_at b0 b1 b2 b3 y13) y7 y8 y9 y10 y11 y13) else (y7, y8, y9, y10, y11, y13)
theorem own_runS (b0 b1 b2 b3 to pt : Int32) (n : Nat) (y7 y8 y9 y10 : Int32) (y11 : Int64) (y13 : Int32) : own_run b0 b1 b2 b3 to pt (n + 1) (y7, y8, y9, y10, y11, y13) = if y7 = 0 then (y7, y8, y9, y10, y11, y13) else if y13 < to then own_run b0 b1 b2 b3 to pt n (own_step pt (own_at b0 b1 b2 b3 y13) y7 y8 y9 y10 y11 y13) else (y7, y8, y9, y10, y11, y13) := rfl
theorem own_runS0 {b0 b1 b2 b3 to pt : Int32} {n : Nat} {y7 y8 y9 y10 : Int32} {y11 : Int64} {y13 : Int32} (h : y7 = 0 ∨ ¬ y13 < to) : (y7, y8, y9, y10, y11, y13) = own_run b0 b1 b2 b3 to pt (n + 1) (y7, y8, y9, y10, y11, y13) := by
  rw [own_runS]
  by_cases q : y7 = 0
  · rw [if_pos q]
  · rw [if_neg q, if_neg (h.resolve_left q)]
theorem own_runN {b0 b1 b2 b3 to pt : Int32} (n : Nat) {y7 y8 y9 y10 : Int32} {y11 : Int64} {y13 : Int32} (h : y7 = 0 ∨ ¬ y13 < to) : own_run b0 b1 b2 b3 to pt n (y7, y8, y9, y10, y11, y13) = (y7, y8, y9, y10, y11, y13) := by
  cases n with
  | zero => rfl
  | succ n => exact (own_runS0 h).symm
def own_read (b0 b1 b2 b3 p2 p3 pt : Int32) (d0 : Int64) (e0 r : Int32) (dg : Int64) (dc : Int32) : Prop :=
  ∃ (sg first w7 w8 w9 w10 : Int32) (w11 : Int64) (w13 : Int32),
    sg = (if p2 < p3 then (if (own_at b0 b1 b2 b3 p2) = (43 : Int32) then (1 : Int32) else (if (own_at b0 b1 b2 b3 p2) = (45 : Int32) then (1 : Int32) else (0 : Int32))) else (0 : Int32)) ∧
    first = (if sg = (0 : Int32) then p2 else (p2 + (1 : Int32))) ∧
    (w7, w8, w9, w10, w11, w13) = own_run b0 b1 b2 b3 p3 pt 4 ((1 : Int32), (0 : Int32), (0 : Int32), (0 : Int32), (0 : Int64), first) ∧
    r = (if w7 = (0 : Int32) then (0 : Int32) else (if (0 : Int32) < w9 then (1 : Int32) else (0 : Int32))) ∧
    dg = (if r = 0 then d0 else (if sg = (0 : Int32) then w11 else (if (own_at b0 b1 b2 b3 p2) = (45 : Int32) then (-w11) else w11))) ∧
    dc = (if r = 0 then e0 else w10)
theorem d1_0 : decode method_2_code 0 = .ok (.iload_n 0, 1) := by decide +kernel
theorem d1_1 : decode method_2_code 1 = .ok (.ldc 7, 2) := by decide +kernel
theorem d1_3 : decode method_2_code 3 = .ok (.iand, 1) := by decide +kernel
theorem d1_4 : decode method_2_code 4 = .ok (.ifCond .eq 6, 3) := by decide +kernel
theorem d1_7 : decode method_2_code 7 = .ok (.iload_n 0, 1) := by decide +kernel
theorem d1_8 : decode method_2_code 8 = .ok (.i2b, 1) := by decide +kernel
theorem d1_9 : decode method_2_code 9 = .ok (.ireturn, 1) := by decide +kernel
theorem d1_10 : decode method_2_code 10 = .ok (.iload_n 0, 1) := by decide +kernel
theorem d1_11 : decode method_2_code 11 = .ok (.bipush 7, 2) := by decide +kernel
theorem d1_13 : decode method_2_code 13 = .ok (.iand, 1) := by decide +kernel
theorem d1_14 : decode method_2_code 14 = .ok (.istore_n 1, 1) := by decide +kernel
theorem d1_15 : decode method_2_code 15 = .ok (.iload_n 1, 1) := by decide +kernel
theorem d1_16 : decode method_2_code 16 = .ok (.ifCond .ne 6, 3) := by decide +kernel
theorem d1_19 : decode method_2_code 19 = .ok (.bipush 43, 2) := by decide +kernel
theorem d1_21 : decode method_2_code 21 = .ok (.ireturn, 1) := by decide +kernel
theorem d1_22 : decode method_2_code 22 = .ok (.iload_n 1, 1) := by decide +kernel
theorem d1_23 : decode method_2_code 23 = .ok (.iconst 1, 1) := by decide +kernel
theorem d1_24 : decode method_2_code 24 = .ok (.if_icmp .ne 6, 3) := by decide +kernel
theorem d1_27 : decode method_2_code 27 = .ok (.bipush 45, 2) := by decide +kernel
theorem d1_29 : decode method_2_code 29 = .ok (.ireturn, 1) := by decide +kernel
theorem d1_30 : decode method_2_code 30 = .ok (.iload_n 1, 1) := by decide +kernel
theorem d1_31 : decode method_2_code 31 = .ok (.iconst 2, 1) := by decide +kernel
theorem d1_32 : decode method_2_code 32 = .ok (.if_icmp .ne 6, 3) := by decide +kernel
theorem d1_35 : decode method_2_code 35 = .ok (.bipush 46, 2) := by decide +kernel
theorem d1_37 : decode method_2_code 37 = .ok (.ireturn, 1) := by decide +kernel
theorem d1_38 : decode method_2_code 38 = .ok (.bipush 48, 2) := by decide +kernel
theorem d1_40 : decode method_2_code 40 = .ok (.iload_n 0, 1) := by decide +kernel
theorem d1_41 : decode method_2_code 41 = .ok (.iconst 3, 1) := by decide +kernel
theorem d1_42 : decode method_2_code 42 = .ok (.iushr, 1) := by decide +kernel
theorem d1_43 : decode method_2_code 43 = .ok (.bipush 10, 2) := by decide +kernel
theorem d1_45 : decode method_2_code 45 = .ok (.irem, 1) := by decide +kernel
theorem d1_46 : decode method_2_code 46 = .ok (.iadd, 1) := by decide +kernel
theorem d1_47 : decode method_2_code 47 = .ok (.i2b, 1) := by decide +kernel
theorem d1_48 : decode method_2_code 48 = .ok (.ireturn, 1) := by decide +kernel
theorem pn_1 : plainName "com/example/amortine/amortine/cli/DigitsReadPinLaw" = true := by first | (simp [plainName, overriddenIn]; done) | decide +kernel
theorem ef_1 (m : MethodId) (x0 : Int32) : entryFrame m #[(.int x0)] 2 = mkF m 0 #[.val (.int x0), .unset] [] := by first | (simp [entryFrame, mkF, argsToLocals, Value.category]; done) | rfl
def Fpick (p0 : Int32) : Int32 := let v4 : Int32 := (if (p0 &&& (32768 : Int32)) = (0 : Int32) then (if (p0 &&& (7 : Int32)) = (0 : Int32) then (43 : Int32) else (if (p0 &&& (7 : Int32)) = (1 : Int32) then (45 : Int32) else (if (p0 &&& (7 : Int32)) = (2 : Int32) then (46 : Int32) else (((48 : Int32) + (((p0.toUInt32 >>> ((3 : Int32) &&& 31).toUInt32).toInt32) % (10 : Int32))).toInt8.toInt32)))) else (p0.toInt8.toInt32)); v4
def Q1 (Z : State) (p0 : Int32) (h0 : Heap) (n0 : Nat) (v : Option Value) (h : Heap) (L : List Loc) : Prop := v = some (.int (Fpick p0)) ∧ Fr n0 L ∧ h = h0
set_option maxRecDepth 65536 in
set_option maxHeartbeats 40000000 in
theorem rm1 (l : Launch) (Z : State) (aw : Array Value) (hw : ∀ d ∈ tables_1, d.before aw Z = true) (ws : List Jvm.Cond) (p0 : Int32) (h0 : Heap) (n0 : Nat) (Z0 : n0 ≤ h0.size) :
    MetFree l (⟨"com/example/amortine/amortine/cli/DigitsReadPinLaw", "pick", "(I)B"⟩ : MethodName) (head1 (Jvm.Cond.code (⟨"com/example/amortine/amortine/cli/DigitsReadPinLaw", "pick", "(I)B"⟩ : MethodName) method_2_code 2 (some .byte) :: ws) ({ frames := 0, cells := 0, slots := 0, locals := 0 } : Room)) (fun a U => a = #[(.int p0)] ∧ Z.Warmed39 U.vm ∧ U.heap = h0) (fun _ _ _ _ _ => True) (fun _ U o U' => ∃ v L, o = .returned v ∧ Q1 Z p0 h0 n0 v U'.heap L ∧ FrameEnd U o U' L ({ frames := 0, cells := 0, slots := 0, locals := 0 } : Room).cells ({ frames := 0, cells := 0, slots := 0, locals := 0 } : Room).slots) := by
  refine MetFree.of_bodySF (plainFor_of_name pn_1) hisR ?_
  intro p e s m args below meth c s₁ Bd hml0 hP hK
  obtain ⟨rfl, hZ, hh⟩ := hP
  have hx := Bd.exec
  have hby := Bd.bytes
  have hml : c.maxLocals = 2 := hml0
  have hown : s.vm.findClass "com/example/amortine/amortine/cli/DigitsReadPinLaw" = some m.cls := findClass_of_methodNamed Bd.named
  have hnm := (name_of_methodNamed Bd.named Bd.method).1
  have X0 : Stand p l e ({ frames := 0, cells := 0, slots := 0, locals := 0 } : Room) s m #[(.int p0)] below meth c s₁ [] 0 0 := Stand.of_body Bd
  have e0 : s₁.heap = h0 := by rw [← hh, Bd.state]; rfl
  have N0 := Fr.nil n0
  obtain ⟨A0, hA0⟩ : ∃ A0, A0 = s₁.setTop (entryFrame m #[(.int p0)] 2) := ⟨_, rfl⟩
  have go0 : Go p e below A0 (s₁.setTop (mkF m 0 #[.val (.int p0), .unset] [])) := fun t k => by rw [hA0]; exact castTop (ef_1 m p0) k
  have go1 : Go p e below A0 (s₁.setTop (mkF m 4 #[.val (.int p0), .unset] [(.int (p0 &&& (32768 : Int32)))])) := by
    intro t k
    refine go0 t ?_
    refine o_iloadN X0 hx hby d1_0 1 rfl rfl ?_
    refine o_ldcInt X0 hx hby hown (mvT hZ (hw _ (List.mem_of_getElem? (i := 6) rfl))) d1_1 3 rfl ?_
    refine o_iand X0 hx hby d1_3 4 rfl ?_
    exact k
  obtain ⟨v4, pcr8, Lr8, Sr8, hv4, hd8, go13⟩ : ∃ (v4 : Int32) (pcr8 : Nat) (Lr8 : Array Slot) (Sr8 : List Value), v4 = (if (p0 &&& (32768 : Int32)) = (0 : Int32) then (if (p0 &&& (7 : Int32)) = (0 : Int32) then (43 : Int32) else (if (p0 &&& (7 : Int32)) = (1 : Int32) then (45 : Int32) else (if (p0 &&& (7 : Int32)) = (2 : Int32) then (46 : Int32) else (((48 : Int32) + (((p0.toUInt32 >>> ((3 : Int32) &&& 31).toUInt32).toInt32) % (10 : Int32))).toInt8.toInt32)))) else (p0.toInt8.toInt32)) ∧ decode c.code pcr8 = .ok (.ireturn, 1) ∧ Go p e below A0 (s₁.setTop (mkF m pcr8 Lr8 ((.int v4) :: Sr8))) := by
    by_cases hc4_1 : (p0 &&& (32768 : Int32)) = (0 : Int32)
    · have go2 : Go p e below A0 (s₁.setTop (mkF m 16 #[.val (.int p0), .val (.int (p0 &&& (7 : Int32)))] [(.int (p0 &&& (7 : Int32)))])) := by
        intro t k
        refine go1 t ?_
        refine o_ifY X0 hx hby d1_4 10 rfl (teq hc4_1).1 ?_
        refine o_iloadN X0 hx hby d1_10 11 rfl rfl ?_
        refine o_bipush X0 hx hby d1_11 13 rfl (v := (7 : Int32)) rfl ?_
        refine o_iand X0 hx hby d1_13 14 rfl ?_
        refine o_istoreN X0 hx hby d1_14 15 rfl (l' := #[.val (.int p0), .val (.int (p0 &&& (7 : Int32)))]) rfl ?_
        refine o_iloadN X0 hx hby d1_15 16 rfl rfl ?_
        exact k
      obtain ⟨v3, pcr7, Lr7, Sr7, hv3, hd7, go11⟩ : ∃ (v3 : Int32) (pcr7 : Nat) (Lr7 : Array Slot) (Sr7 : List Value), v3 = (if (p0 &&& (7 : Int32)) = (0 : Int32) then (43 : Int32) else (if (p0 &&& (7 : Int32)) = (1 : Int32) then (45 : Int32) else (if (p0 &&& (7 : Int32)) = (2 : Int32) then (46 : Int32) else (((48 : Int32) + (((p0.toUInt32 >>> ((3 : Int32) &&& 31).toUInt32).toInt32) % (10 : Int32))).toInt8.toInt32)))) ∧ decode c.code pcr7 = .ok (.ireturn, 1) ∧ Go p e below A0 (s₁.setTop (mkF m pcr7 Lr7 ((.int v3) :: Sr7))) := by
        by_cases hc16_2 : (p0 &&& (7 : Int32)) = (0 : Int32)
        · have go3 : Go p e below A0 (s₁.setTop (mkF m 21 #[.val (.int p0), .val (.int (p0 &&& (7 : Int32)))] [(.int (43 : Int32))])) := by
            intro t k
            refine go2 t ?_
            refine o_ifN X0 hx hby d1_16 19 rfl (teq hc16_2).2 ?_
            refine o_bipush X0 hx hby d1_19 21 rfl (v := (43 : Int32)) rfl ?_
            exact k
          exact ⟨(43 : Int32), _, _, _, (if_pos hc16_2).symm, (hb hby d1_21), go3⟩
        · have go4 : Go p e below A0 (s₁.setTop (mkF m 24 #[.val (.int p0), .val (.int (p0 &&& (7 : Int32)))] [(.int (1 : Int32)), (.int (p0 &&& (7 : Int32)))])) := by
            intro t k
            refine go2 t ?_
            refine o_ifY X0 hx hby d1_16 22 rfl (feq hc16_2).2 ?_
            refine o_iloadN X0 hx hby d1_22 23 rfl rfl ?_
            refine o_iconst X0 hx hby d1_23 24 rfl (v := (1 : Int32)) rfl ?_
            exact k
          obtain ⟨v2, pcr6, Lr6, Sr6, hv2, hd6, go10⟩ : ∃ (v2 : Int32) (pcr6 : Nat) (Lr6 : Array Slot) (Sr6 : List Value), v2 = (if (p0 &&& (7 : Int32)) = (1 : Int32) then (45 : Int32) else (if (p0 &&& (7 : Int32)) = (2 : Int32) then (46 : Int32) else (((48 : Int32) + (((p0.toUInt32 >>> ((3 : Int32) &&& 31).toUInt32).toInt32) % (10 : Int32))).toInt8.toInt32))) ∧ decode c.code pcr6 = .ok (.ireturn, 1) ∧ Go p e below A0 (s₁.setTop (mkF m pcr6 Lr6 ((.int v2) :: Sr6))) := by
            by_cases hc24_3 : (p0 &&& (7 : Int32)) = (1 : Int32)
            · have go5 : Go p e below A0 (s₁.setTop (mkF m 29 #[.val (.int p0), .val (.int (p0 &&& (7 : Int32)))] [(.int (45 : Int32))])) := by
                intro t k
                refine go4 t ?_
                refine o_icmpN X0 hx hby d1_24 27 rfl (teq hc24_3).2 ?_
                refine o_bipush X0 hx hby d1_27 29 rfl (v := (45 : Int32)) rfl ?_
                exact k
              exact ⟨(45 : Int32), _, _, _, (if_pos hc24_3).symm, (hb hby d1_29), go5⟩
            · have go6 : Go p e below A0 (s₁.setTop (mkF m 32 #[.val (.int p0), .val (.int (p0 &&& (7 : Int32)))] [(.int (2 : Int32)), (.int (p0 &&& (7 : Int32)))])) := by
                intro t k
                refine go4 t ?_
                refine o_icmpY X0 hx hby d1_24 30 rfl (feq hc24_3).2 ?_
                refine o_iloadN X0 hx hby d1_30 31 rfl rfl ?_
                refine o_iconst X0 hx hby d1_31 32 rfl (v := (2 : Int32)) rfl ?_
                exact k
              obtain ⟨v1, pcr5, Lr5, Sr5, hv1, hd5, go9⟩ : ∃ (v1 : Int32) (pcr5 : Nat) (Lr5 : Array Slot) (Sr5 : List Value), v1 = (if (p0 &&& (7 : Int32)) = (2 : Int32) then (46 : Int32) else (((48 : Int32) + (((p0.toUInt32 >>> ((3 : Int32) &&& 31).toUInt32).toInt32) % (10 : Int32))).toInt8.toInt32)) ∧ decode c.code pcr5 = .ok (.ireturn, 1) ∧ Go p e below A0 (s₁.setTop (mkF m pcr5 Lr5 ((.int v1) :: Sr5))) := by
                by_cases hc32_4 : (p0 &&& (7 : Int32)) = (2 : Int32)
                · have go7 : Go p e below A0 (s₁.setTop (mkF m 37 #[.val (.int p0), .val (.int (p0 &&& (7 : Int32)))] [(.int (46 : Int32))])) := by
                    intro t k
                    refine go6 t ?_
                    refine o_icmpN X0 hx hby d1_32 35 rfl (teq hc32_4).2 ?_
                    refine o_bipush X0 hx hby d1_35 37 rfl (v := (46 : Int32)) rfl ?_
                    exact k
                  exact ⟨(46 : Int32), _, _, _, (if_pos hc32_4).symm, (hb hby d1_37), go7⟩
                · have go8 : Go p e below A0 (s₁.setTop (mkF m 48 #[.val (.int p0), .val (.int (p0 &&& (7 : Int32)))] [(.int (((48 : Int32) + (((p0.toUInt32 >>> ((3 : Int32) &&& 31).toUInt32).toInt32) % (10 : Int32))).toInt8.toInt32))])) := by
                    intro t k
                    refine go6 t ?_
                    refine o_icmpY X0 hx hby d1_32 38 rfl (feq hc32_4).2 ?_
                    refine o_bipush X0 hx hby d1_38 40 rfl (v := (48 : Int32)) rfl ?_
                    refine o_iloadN X0 hx hby d1_40 41 rfl rfl ?_
                    refine o_iconst X0 hx hby d1_41 42 rfl (v := (3 : Int32)) rfl ?_
                    refine o_iushr X0 hx hby d1_42 43 rfl ?_
                    refine o_bipush X0 hx hby d1_43 45 rfl (v := (10 : Int32)) rfl ?_
                    refine o_irem X0 hx hby d1_45 46 rfl (by decide) ?_
                    refine o_iadd X0 hx hby d1_46 47 rfl ?_
                    refine o_i2b X0 hx hby d1_47 48 rfl ?_
                    exact k
                  exact ⟨(((48 : Int32) + (((p0.toUInt32 >>> ((3 : Int32) &&& 31).toUInt32).toInt32) % (10 : Int32))).toInt8.toInt32), _, _, _, (if_neg hc32_4).symm, (hb hby d1_48), go8⟩
              rw [hv1] at go9
              exact ⟨(if (p0 &&& (7 : Int32)) = (2 : Int32) then (46 : Int32) else (((48 : Int32) + (((p0.toUInt32 >>> ((3 : Int32) &&& 31).toUInt32).toInt32) % (10 : Int32))).toInt8.toInt32)), _, _, _, (if_neg hc24_3).symm, hd5, go9⟩
          rw [hv2] at go10
          exact ⟨(if (p0 &&& (7 : Int32)) = (1 : Int32) then (45 : Int32) else (if (p0 &&& (7 : Int32)) = (2 : Int32) then (46 : Int32) else (((48 : Int32) + (((p0.toUInt32 >>> ((3 : Int32) &&& 31).toUInt32).toInt32) % (10 : Int32))).toInt8.toInt32))), _, _, _, (if_neg hc16_2).symm, hd6, go10⟩
      rw [hv3] at go11
      exact ⟨(if (p0 &&& (7 : Int32)) = (0 : Int32) then (43 : Int32) else (if (p0 &&& (7 : Int32)) = (1 : Int32) then (45 : Int32) else (if (p0 &&& (7 : Int32)) = (2 : Int32) then (46 : Int32) else (((48 : Int32) + (((p0.toUInt32 >>> ((3 : Int32) &&& 31).toUInt32).toInt32) % (10 : Int32))).toInt8.toInt32)))), _, _, _, (if_pos hc4_1).symm, hd7, go11⟩
    · have go12 : Go p e below A0 (s₁.setTop (mkF m 9 #[.val (.int p0), .unset] [(.int (p0.toInt8.toInt32))])) := by
        intro t k
        refine go1 t ?_
        refine o_ifN X0 hx hby d1_4 7 rfl (feq hc4_1).1 ?_
        refine o_iloadN X0 hx hby d1_7 8 rfl rfl ?_
        refine o_i2b X0 hx hby d1_8 9 rfl ?_
        exact k
      exact ⟨(p0.toInt8.toInt32), _, _, _, (if_neg hc4_1).symm, (hb hby d1_9), go12⟩
  have hF : v4 = Fpick p0 := by simp only [Fpick, hv4]
  rw [hA0] at go13
  obtain ⟨fs, hr, hrun, hended, hW, hsame⟩ := X0.leave (v := some (.int v4)) (fun h => by rw [Bd.returns] at h; cases h)
  refine ⟨_, _, go13 _ (o_retB X0 hx Bd.returns hd8 (by rw [hv4]; (repeat' split) <;> first | decide | exact own_nb _) hr), hrun, hended, _, _, rfl, ?_, ⟨_, rfl⟩, hW, hsame.mono (by decide) (by decide)⟩
  show Q1 Z p0 h0 n0 _ s₁.heap _
  rw [e0]
  exact ⟨by rw [← hF], N0, rfl⟩
theorem d3_0 : decode method_4_code 0 = .ok (.iload_n 0, 1) := by decide +kernel
theorem d3_1 : decode method_4_code 1 = .ok (.iload_n 1, 1) := by decide +kernel
theorem d3_2 : decode method_4_code 2 = .ok (.if_icmp .lt 12, 3) := by decide +kernel
theorem d3_5 : decode method_4_code 5 = .ok (.iload_n 0, 1) := by decide +kernel
theorem d3_6 : decode method_4_code 6 = .ok (.iload_n 2, 1) := by decide +kernel
theorem d3_7 : decode method_4_code 7 = .ok (.if_icmp .ge 7, 3) := by decide +kernel
theorem d3_10 : decode method_4_code 10 = .ok (.iconst 1, 1) := by decide +kernel
theorem d3_11 : decode method_4_code 11 = .ok (.goto 4, 3) := by decide +kernel
theorem d3_14 : decode method_4_code 14 = .ok (.iconst 0, 1) := by decide +kernel
theorem d3_15 : decode method_4_code 15 = .ok (.ireturn, 1) := by decide +kernel
theorem ef_3 (m : MethodId) (x0 : Int32) (x1 : Int32) (x2 : Int32) : entryFrame m #[(.int x0), (.int x1), (.int x2)] 3 = mkF m 0 #[.val (.int x0), .val (.int x1), .val (.int x2)] [] := by first | (simp [entryFrame, mkF, argsToLocals, Value.category]; done) | rfl
def Fin_ (p0 : Int32) (p1 : Int32) (p2 : Int32) : Int32 := let v2 : Int32 := (if p0 < p1 then (0 : Int32) else (if p0 < p2 then (1 : Int32) else (0 : Int32))); v2
def Q3 (Z : State) (p0 : Int32) (p1 : Int32) (p2 : Int32) (h0 : Heap) (n0 : Nat) (v : Option Value) (h : Heap) (L : List Loc) : Prop := v = some (.int (Fin_ p0 p1 p2)) ∧ Fr n0 L ∧ h = h0
set_option maxRecDepth 65536 in
set_option maxHeartbeats 40000000 in
theorem rm3 (l : Launch) (Z : State) (aw : Array Value) (hw : ∀ d ∈ tables_1, d.before aw Z = true) (ws : List Jvm.Cond) (p0 : Int32) (p1 : Int32) (p2 : Int32) (h0 : Heap) (n0 : Nat) (Z0 : n0 ≤ h0.size) :
    MetFree l (⟨"com/example/amortine/amortine/cli/DigitsReadPinLaw", "in", "(III)Z"⟩ : MethodName) (head1 (Jvm.Cond.code (⟨"com/example/amortine/amortine/cli/DigitsReadPinLaw", "in", "(III)Z"⟩ : MethodName) method_4_code 3 (some .boolean) :: ws) ({ frames := 0, cells := 0, slots := 0, locals := 0 } : Room)) (fun a U => a = #[(.int p0), (.int p1), (.int p2)] ∧ Z.Warmed39 U.vm ∧ U.heap = h0) (fun _ _ _ _ _ => True) (fun _ U o U' => ∃ v L, o = .returned v ∧ Q3 Z p0 p1 p2 h0 n0 v U'.heap L ∧ FrameEnd U o U' L ({ frames := 0, cells := 0, slots := 0, locals := 0 } : Room).cells ({ frames := 0, cells := 0, slots := 0, locals := 0 } : Room).slots) := by
  refine MetFree.of_bodySF (plainFor_of_name pn_1) hisR ?_
  intro p e s m args below meth c s₁ Bd hml0 hP hK
  obtain ⟨rfl, hZ, hh⟩ := hP
  have hx := Bd.exec
  have hby := Bd.bytes
  have hml : c.maxLocals = 3 := hml0
  have hown : s.vm.findClass "com/example/amortine/amortine/cli/DigitsReadPinLaw" = some m.cls := findClass_of_methodNamed Bd.named
  have hnm := (name_of_methodNamed Bd.named Bd.method).1
  have X0 : Stand p l e ({ frames := 0, cells := 0, slots := 0, locals := 0 } : Room) s m #[(.int p0), (.int p1), (.int p2)] below meth c s₁ [] 0 0 := Stand.of_body Bd
  have e0 : s₁.heap = h0 := by rw [← hh, Bd.state]; rfl
  have N0 := Fr.nil n0
  obtain ⟨A0, hA0⟩ : ∃ A0, A0 = s₁.setTop (entryFrame m #[(.int p0), (.int p1), (.int p2)] 3) := ⟨_, rfl⟩
  have go0 : Go p e below A0 (s₁.setTop (mkF m 0 #[.val (.int p0), .val (.int p1), .val (.int p2)] [])) := fun t k => by rw [hA0]; exact castTop (ef_3 m p0 p1 p2) k
  have go1 : Go p e below A0 (s₁.setTop (mkF m 2 #[.val (.int p0), .val (.int p1), .val (.int p2)] [(.int p1), (.int p0)])) := by
    intro t k
    refine go0 t ?_
    refine o_iloadN X0 hx hby d3_0 1 rfl rfl ?_
    refine o_iloadN X0 hx hby d3_1 2 rfl rfl ?_
    exact k
  obtain ⟨v2, hv2, go7⟩ : ∃ (v2 : Int32), v2 = (if p0 < p1 then (0 : Int32) else (if p0 < p2 then (1 : Int32) else (0 : Int32))) ∧ Go p e below A0 (s₁.setTop (mkF m 15 #[.val (.int p0), .val (.int p1), .val (.int p2)] [(.int v2)])) := by
    by_cases hc2_1 : p0 < p1
    · have go2 : Go p e below A0 (s₁.setTop (mkF m 15 #[.val (.int p0), .val (.int p1), .val (.int p2)] [(.int (0 : Int32))])) := by
        intro t k
        refine go1 t ?_
        refine o_icmpY X0 hx hby d3_2 14 rfl (tlt hc2_1).1 ?_
        refine o_iconst X0 hx hby d3_14 15 rfl (v := (0 : Int32)) rfl ?_
        exact k
      exact ⟨(0 : Int32), (if_pos hc2_1).symm, go2⟩
    · have go3 : Go p e below A0 (s₁.setTop (mkF m 7 #[.val (.int p0), .val (.int p1), .val (.int p2)] [(.int p2), (.int p0)])) := by
        intro t k
        refine go1 t ?_
        refine o_icmpN X0 hx hby d3_2 5 rfl (flt hc2_1).1 ?_
        refine o_iloadN X0 hx hby d3_5 6 rfl rfl ?_
        refine o_iloadN X0 hx hby d3_6 7 rfl rfl ?_
        exact k
      obtain ⟨v1, hv1, go6⟩ : ∃ (v1 : Int32), v1 = (if p0 < p2 then (1 : Int32) else (0 : Int32)) ∧ Go p e below A0 (s₁.setTop (mkF m 15 #[.val (.int p0), .val (.int p1), .val (.int p2)] [(.int v1)])) := by
        by_cases hc7_2 : p0 < p2
        · have go4 : Go p e below A0 (s₁.setTop (mkF m 15 #[.val (.int p0), .val (.int p1), .val (.int p2)] [(.int (1 : Int32))])) := by
            intro t k
            refine go3 t ?_
            refine o_icmpN X0 hx hby d3_7 10 rfl (tlt hc7_2).2.1 ?_
            refine o_iconst X0 hx hby d3_10 11 rfl (v := (1 : Int32)) rfl ?_
            refine o_goto X0 hx hby d3_11 15 rfl ?_
            exact k
          exact ⟨(1 : Int32), (if_pos hc7_2).symm, go4⟩
        · have go5 : Go p e below A0 (s₁.setTop (mkF m 15 #[.val (.int p0), .val (.int p1), .val (.int p2)] [(.int (0 : Int32))])) := by
            intro t k
            refine go3 t ?_
            refine o_icmpY X0 hx hby d3_7 14 rfl (flt hc7_2).2.1 ?_
            refine o_iconst X0 hx hby d3_14 15 rfl (v := (0 : Int32)) rfl ?_
            exact k
          exact ⟨(0 : Int32), (if_neg hc7_2).symm, go5⟩
      rw [hv1] at go6
      exact ⟨(if p0 < p2 then (1 : Int32) else (0 : Int32)), (if_neg hc2_1).symm, go6⟩
  have hF : v2 = Fin_ p0 p1 p2 := by simp only [Fin_, hv2]
  rw [hA0] at go7
  obtain ⟨fs, hr, hrun, hended, hW, hsame⟩ := X0.leave (v := some (.int v2)) (fun h => by rw [Bd.returns] at h; cases h)
  refine ⟨_, _, go7 _ (o_retZ X0 hx Bd.returns (hb hby d3_15) (by rw [hv2]; (repeat' split) <;> first | exact Or.inl rfl | exact Or.inr rfl) hr), hrun, hended, _, _, rfl, ?_, ⟨_, rfl⟩, hW, hsame.mono (by decide) (by decide)⟩
  show Q3 Z p0 p1 p2 h0 n0 _ s₁.heap _
  rw [e0]
  exact ⟨by rw [← hF], N0, rfl⟩
theorem d13_0 : decode method_3_code 0 = .ok (.iload_n 0, 1) := by decide +kernel
theorem d13_1 : decode method_3_code 1 = .ok (.bipush 48, 2) := by decide +kernel
theorem d13_3 : decode method_3_code 3 = .ok (.if_icmp .lt 13, 3) := by decide +kernel
theorem d13_6 : decode method_3_code 6 = .ok (.iload_n 0, 1) := by decide +kernel
theorem d13_7 : decode method_3_code 7 = .ok (.bipush 57, 2) := by decide +kernel
theorem d13_9 : decode method_3_code 9 = .ok (.if_icmp .gt 7, 3) := by decide +kernel
theorem d13_12 : decode method_3_code 12 = .ok (.iconst 1, 1) := by decide +kernel
theorem d13_13 : decode method_3_code 13 = .ok (.goto 4, 3) := by decide +kernel
theorem d13_16 : decode method_3_code 16 = .ok (.iconst 0, 1) := by decide +kernel
theorem d13_17 : decode method_3_code 17 = .ok (.ireturn, 1) := by decide +kernel
theorem ef_13 (m : MethodId) (x0 : Int32) : entryFrame m #[(.int x0)] 1 = mkF m 0 #[.val (.int x0)] [] := by first | (simp [entryFrame, mkF, argsToLocals, Value.category]; done) | rfl
def Fis (p0 : Int32) : Int32 := let v2 : Int32 := (if p0 < (48 : Int32) then (0 : Int32) else (if (57 : Int32) < p0 then (0 : Int32) else (1 : Int32))); v2
def Q13 (Z : State) (p0 : Int32) (h0 : Heap) (n0 : Nat) (v : Option Value) (h : Heap) (L : List Loc) : Prop := v = some (.int (Fis p0)) ∧ Fr n0 L ∧ h = h0
set_option maxRecDepth 65536 in
set_option maxHeartbeats 40000000 in
theorem rm13 (l : Launch) (Z : State) (aw : Array Value) (hw : ∀ d ∈ tables_1, d.before aw Z = true) (ws : List Jvm.Cond) (p0 : Int32) (h0 : Heap) (n0 : Nat) (Z0 : n0 ≤ h0.size) :
    MetFree l (⟨"com/example/amortine/amortine/cli/DigitsReadPinLaw", "isDigit", "(B)Z"⟩ : MethodName) (head1 (Jvm.Cond.code (⟨"com/example/amortine/amortine/cli/DigitsReadPinLaw", "isDigit", "(B)Z"⟩ : MethodName) method_3_code 1 (some .boolean) :: ws) ({ frames := 0, cells := 0, slots := 0, locals := 0 } : Room)) (fun a U => a = #[(.int p0)] ∧ Z.Warmed39 U.vm ∧ U.heap = h0) (fun _ _ _ _ _ => True) (fun _ U o U' => ∃ v L, o = .returned v ∧ Q13 Z p0 h0 n0 v U'.heap L ∧ FrameEnd U o U' L ({ frames := 0, cells := 0, slots := 0, locals := 0 } : Room).cells ({ frames := 0, cells := 0, slots := 0, locals := 0 } : Room).slots) := by
  refine MetFree.of_bodySF (plainFor_of_name pn_1) hisR ?_
  intro p e s m args below meth c s₁ Bd hml0 hP hK
  obtain ⟨rfl, hZ, hh⟩ := hP
  have hx := Bd.exec
  have hby := Bd.bytes
  have hml : c.maxLocals = 1 := hml0
  have hown : s.vm.findClass "com/example/amortine/amortine/cli/DigitsReadPinLaw" = some m.cls := findClass_of_methodNamed Bd.named
  have hnm := (name_of_methodNamed Bd.named Bd.method).1
  have X0 : Stand p l e ({ frames := 0, cells := 0, slots := 0, locals := 0 } : Room) s m #[(.int p0)] below meth c s₁ [] 0 0 := Stand.of_body Bd
  have e0 : s₁.heap = h0 := by rw [← hh, Bd.state]; rfl
  have N0 := Fr.nil n0
  obtain ⟨A0, hA0⟩ : ∃ A0, A0 = s₁.setTop (entryFrame m #[(.int p0)] 1) := ⟨_, rfl⟩
  have go0 : Go p e below A0 (s₁.setTop (mkF m 0 #[.val (.int p0)] [])) := fun t k => by rw [hA0]; exact castTop (ef_13 m p0) k
  have go1 : Go p e below A0 (s₁.setTop (mkF m 3 #[.val (.int p0)] [(.int (48 : Int32)), (.int p0)])) := by
    intro t k
    refine go0 t ?_
    refine o_iloadN X0 hx hby d13_0 1 rfl rfl ?_
    refine o_bipush X0 hx hby d13_1 3 rfl (v := (48 : Int32)) rfl ?_
    exact k
  obtain ⟨v2, hv2, go7⟩ : ∃ (v2 : Int32), v2 = (if p0 < (48 : Int32) then (0 : Int32) else (if (57 : Int32) < p0 then (0 : Int32) else (1 : Int32))) ∧ Go p e below A0 (s₁.setTop (mkF m 17 #[.val (.int p0)] [(.int v2)])) := by
    by_cases hc3_1 : p0 < (48 : Int32)
    · have go2 : Go p e below A0 (s₁.setTop (mkF m 17 #[.val (.int p0)] [(.int (0 : Int32))])) := by
        intro t k
        refine go1 t ?_
        refine o_icmpY X0 hx hby d13_3 16 rfl (tlt hc3_1).1 ?_
        refine o_iconst X0 hx hby d13_16 17 rfl (v := (0 : Int32)) rfl ?_
        exact k
      exact ⟨(0 : Int32), (if_pos hc3_1).symm, go2⟩
    · have go3 : Go p e below A0 (s₁.setTop (mkF m 9 #[.val (.int p0)] [(.int (57 : Int32)), (.int p0)])) := by
        intro t k
        refine go1 t ?_
        refine o_icmpN X0 hx hby d13_3 6 rfl (flt hc3_1).1 ?_
        refine o_iloadN X0 hx hby d13_6 7 rfl rfl ?_
        refine o_bipush X0 hx hby d13_7 9 rfl (v := (57 : Int32)) rfl ?_
        exact k
      obtain ⟨v1, hv1, go6⟩ : ∃ (v1 : Int32), v1 = (if (57 : Int32) < p0 then (0 : Int32) else (1 : Int32)) ∧ Go p e below A0 (s₁.setTop (mkF m 17 #[.val (.int p0)] [(.int v1)])) := by
        by_cases hc9_2 : (57 : Int32) < p0
        · have go4 : Go p e below A0 (s₁.setTop (mkF m 17 #[.val (.int p0)] [(.int (0 : Int32))])) := by
            intro t k
            refine go3 t ?_
            refine o_icmpY X0 hx hby d13_9 16 rfl (tlt hc9_2).2.2.1 ?_
            refine o_iconst X0 hx hby d13_16 17 rfl (v := (0 : Int32)) rfl ?_
            exact k
          exact ⟨(0 : Int32), (if_pos hc9_2).symm, go4⟩
        · have go5 : Go p e below A0 (s₁.setTop (mkF m 17 #[.val (.int p0)] [(.int (1 : Int32))])) := by
            intro t k
            refine go3 t ?_
            refine o_icmpN X0 hx hby d13_9 12 rfl (flt hc9_2).2.2.1 ?_
            refine o_iconst X0 hx hby d13_12 13 rfl (v := (1 : Int32)) rfl ?_
            refine o_goto X0 hx hby d13_13 17 rfl ?_
            exact k
          exact ⟨(1 : Int32), (if_neg hc9_2).symm, go5⟩
      rw [hv1] at go6
      exact ⟨(if (57 : Int32) < p0 then (0 : Int32) else (1 : Int32)), (if_neg hc3_1).symm, go6⟩
  have hF : v2 = Fis p0 := by simp only [Fis, hv2]
  rw [hA0] at go7
  obtain ⟨fs, hr, hrun, hended, hW, hsame⟩ := X0.leave (v := some (.int v2)) (fun h => by rw [Bd.returns] at h; cases h)
  refine ⟨_, _, go7 _ (o_retZ X0 hx Bd.returns (hb hby d13_17) (by rw [hv2]; (repeat' split) <;> first | exact Or.inl rfl | exact Or.inr rfl) hr), hrun, hended, _, _, rfl, ?_, ⟨_, rfl⟩, hW, hsame.mono (by decide) (by decide)⟩
  show Q13 Z p0 h0 n0 _ s₁.heap _
  rw [e0]
  exact ⟨by rw [← hF], N0, rfl⟩
theorem d2_0 : decode method_5_code 0 = .ok (.iload_n 1, 1) := by decide +kernel
theorem d2_1 : decode method_5_code 1 = .ok (.iload_n 2, 1) := by decide +kernel
theorem d2_2 : decode method_5_code 2 = .ok (.iload_n 3, 1) := by decide +kernel
theorem d2_3 : decode method_5_code 3 = .ok (.invokestatic 8, 3) := by decide +kernel
theorem d2_6 : decode method_5_code 6 = .ok (.ifCond .eq 16, 3) := by decide +kernel
theorem d2_9 : decode method_5_code 9 = .ok (.aload_n 0, 1) := by decide +kernel
theorem d2_10 : decode method_5_code 10 = .ok (.iload_n 1, 1) := by decide +kernel
theorem d2_11 : decode method_5_code 11 = .ok (.baload, 1) := by decide +kernel
theorem d2_12 : decode method_5_code 12 = .ok (.invokestatic 14, 3) := by decide +kernel
theorem d2_15 : decode method_5_code 15 = .ok (.ifCond .eq 7, 3) := by decide +kernel
theorem d2_18 : decode method_5_code 18 = .ok (.iconst 1, 1) := by decide +kernel
theorem d2_19 : decode method_5_code 19 = .ok (.goto 4, 3) := by decide +kernel
theorem d2_22 : decode method_5_code 22 = .ok (.iconst 0, 1) := by decide +kernel
theorem d2_23 : decode method_5_code 23 = .ok (.ireturn, 1) := by decide +kernel
theorem pd_1 : parseMethodDescriptor "(III)Z" = some ⟨[.int, .int, .int], some .boolean⟩ := by decide +kernel
theorem pd_2 : parseMethodDescriptor "(B)Z" = some ⟨[.byte], some .boolean⟩ := by decide +kernel
theorem ef_2 (m : MethodId) (x0 : Addr) (x1 : Int32) (x2 : Int32) (x3 : Int32) : entryFrame m #[(.ref x0), (.int x1), (.int x2), (.int x3)] 4 = mkF m 0 #[.val (.ref x0), .val (.int x1), .val (.int x2), .val (.int x3)] [] := by first | (simp [entryFrame, mkF, argsToLocals, Value.category]; done) | rfl
def Fdig (p1 : Int32) (p2 : Int32) (p3 : Int32) (b0 : Int32) (b1 : Int32) (b2 : Int32) (b3 : Int32) : Int32 := let v1 : Int32 := (Fin_ p1 p2 p3); let v3 : Int32 := (if v1 = (0 : Int32) then (0 : Int32) else (if (Fis (own_at b0 b1 b2 b3 p1)) = (0 : Int32) then (0 : Int32) else (1 : Int32))); v3
def Q2 (Z : State) (a0 : Addr) (p1 : Int32) (p2 : Int32) (p3 : Int32) (ka : ClassId) (b0 : Int32) (b1 : Int32) (b2 : Int32) (b3 : Int32) (h0 : Heap) (n0 : Nat) (v : Option Value) (h : Heap) (L : List Loc) : Prop := v = some (.int (Fdig p1 p2 p3 b0 b1 b2 b3)) ∧ Fr n0 L ∧ h = h0
set_option maxRecDepth 65536 in
set_option maxHeartbeats 40000000 in
theorem rm2 (l : Launch) (Z : State) (aw : Array Value) (hw : ∀ d ∈ tables_1, d.before aw Z = true) (ws : List Jvm.Cond) (a0 : Addr) (p1 : Int32) (p2 : Int32) (p3 : Int32) (ka : ClassId) (b0 : Int32) (b1 : Int32) (b2 : Int32) (b3 : Int32) (h0 : Heap) (n0 : Nat) (Z0 : n0 ≤ h0.size) (r0 : Arv Z h0 a0 ka .byte (4 : Int32) [(.int b0), (.int b1), (.int b2), (.int b3)] (.int (0 : Int32))) (hi : (¬ p1 < 0 ∧ p1 < 4)) :
    MetFree l (⟨"com/example/amortine/amortine/cli/DigitsReadPinLaw", "digitAt", "([BIII)I"⟩ : MethodName) (head1 (Jvm.Cond.code (⟨"com/example/amortine/amortine/cli/DigitsReadPinLaw", "digitAt", "([BIII)I"⟩ : MethodName) method_5_code 4 (some .int) :: ws) ({ frames := 1, cells := 0, slots := 0, locals := 14 } : Room)) (fun a U => a = #[(.ref a0), (.int p1), (.int p2), (.int p3)] ∧ Z.Warmed39 U.vm ∧ U.heap = h0) (fun _ _ _ _ _ => True) (fun _ U o U' => ∃ v L, o = .returned v ∧ Q2 Z a0 p1 p2 p3 ka b0 b1 b2 b3 h0 n0 v U'.heap L ∧ FrameEnd U o U' L ({ frames := 1, cells := 0, slots := 0, locals := 14 } : Room).cells ({ frames := 1, cells := 0, slots := 0, locals := 14 } : Room).slots) := by
  refine MetFree.of_bodySF (plainFor_of_name pn_1) hisR ?_
  intro p e s m args below meth c s₁ Bd hml0 hP hK
  obtain ⟨rfl, hZ, hh⟩ := hP
  have hx := Bd.exec
  have hby := Bd.bytes
  have hml : c.maxLocals = 4 := hml0
  have hown : s.vm.findClass "com/example/amortine/amortine/cli/DigitsReadPinLaw" = some m.cls := findClass_of_methodNamed Bd.named
  have hnm := (name_of_methodNamed Bd.named Bd.method).1
  have X0 : Stand p l e ({ frames := 1, cells := 0, slots := 0, locals := 14 } : Room) s m #[(.ref a0), (.int p1), (.int p2), (.int p3)] below meth c s₁ [] 0 0 := Stand.of_body Bd
  have e0 : s₁.heap = h0 := by rw [← hh, Bd.state]; rfl
  have N0 := Fr.nil n0
  obtain ⟨A0, hA0⟩ : ∃ A0, A0 = s₁.setTop (entryFrame m #[(.ref a0), (.int p1), (.int p2), (.int p3)] 4) := ⟨_, rfl⟩
  have go0 : Go p e below A0 (s₁.setTop (mkF m 0 #[.val (.ref a0), .val (.int p1), .val (.int p2), .val (.int p3)] [])) := fun t k => by rw [hA0]; exact castTop (ef_2 m a0 p1 p2 p3) k
  have go1 : Go p e below A0 (s₁.setTop (mkF m 3 #[.val (.ref a0), .val (.int p1), .val (.int p2), .val (.int p3)] [(.int p3), (.int p2), (.int p1)])) := by
    intro t k
    refine go0 t ?_
    refine o_iloadN X0 hx hby d2_0 1 rfl rfl ?_
    refine o_iloadN X0 hx hby d2_1 2 rfl rfl ?_
    refine o_iloadN X0 hx hby d2_2 3 rfl rfl ?_
    exact k
  obtain ⟨_, _, ⟨T1, L1, k1, n1⟩, -, X1, ⟨Lc1, hQ1, l1, y1, z1⟩, st1⟩ := Jvm.LawKit.callS X0 hx (y := (⟨"com/example/amortine/amortine/cli/DigitsReadPinLaw", "in", "(III)Z"⟩ : MethodName)) hown (mvT hZ (hw _ (List.mem_of_getElem? (i := 11) rfl))) (mvT hZ (hw _ (List.mem_of_getElem? (i := 12) rfl))) (mvT hZ (hw _ (List.mem_of_getElem? (i := 4) rfl))) (mvT hZ (hw _ (List.mem_of_getElem? (i := 13) rfl))) (by decide) (backOf (W := 0) (rm3 l Z aw hw [] p1 p2 p3 h0 n0 Z0) hZ (hw _ (List.mem_of_getElem? (i := 13) rfl)) (hw _ (List.mem_of_getElem? (i := 4) rfl)) (by decide) (by decide)) (g := (mkF m 3 #[.val (.ref a0), .val (.int p1), .val (.int p2), .val (.int p3)] [(.int p3), (.int p2), (.int p1)])) rfl (by rw [hml]; rfl) (argsL := [(.int p1), (.int p2), (.int p3)]) (rest := []) (lenOf pd_1 rfl) rfl (by show 2 * 0 + _ ≤ _; exact Nat.le_of_eq rfl) (hb hby d2_3) (fun _ _ => ⟨rfl, e0, (by decide : 0 + 0 ≤ _), (by decide : 0 + 0 ≤ _)⟩)
  dsimp only [Pt.U, Pt.locs, Pt.cells, Pt.slots] at X1 l1 y1 z1 st1 hQ1
  obtain rfl : k1 = 0 := y1
  obtain rfl : n1 = 0 := z1
  obtain ⟨rfl, N1q, e1⟩ := hQ1
  have N1 : Fr n0 L1 := by rw [l1]; exact Fr.app N0 N1q
  have go2 : Go p e below A0 (T1.setTop (mkF m 6 #[.val (.ref a0), .val (.int p1), .val (.int p2), .val (.int p3)] [(.int (Fin_ p1 p2 p3))])) := by
    intro t k
    refine go1 t ?_
    refine st1 _ ?_
    show Steps p.tables e below (T1.setTop (mkF m 6 #[.val (.ref a0), .val (.int p1), .val (.int p2), .val (.int p3)] [(.int (Fin_ p1 p2 p3))])) _
    exact k
  obtain ⟨v1, hv1, go3⟩ : ∃ v1 : Int32, v1 = (Fin_ p1 p2 p3) ∧ Go p e below A0 (T1.setTop (mkF m 6 #[.val (.ref a0), .val (.int p1), .val (.int p2), .val (.int p3)] [(.int v1)])) := ⟨_, rfl, go2⟩
  obtain ⟨T6, l6, v3, X6, N6, e6, hv3, go9⟩ : ∃ (T6 : State) (l6 : List Loc) (v3 : Int32), Stand p l e ({ frames := 1, cells := 0, slots := 0, locals := 14 } : Room) s m #[(.ref a0), (.int p1), (.int p2), (.int p3)] below meth c T6 l6 0 0 ∧ Fr n0 l6 ∧ T6.heap = h0 ∧ v3 = (if v1 = (0 : Int32) then (0 : Int32) else (if (Fis (own_at b0 b1 b2 b3 p1)) = (0 : Int32) then (0 : Int32) else (1 : Int32))) ∧ Go p e below A0 (T6.setTop (mkF m 23 #[.val (.ref a0), .val (.int p1), .val (.int p2), .val (.int p3)] [(.int v3)])) := by
    by_cases hc6_2 : v1 = (0 : Int32)
    · have go4 : Go p e below A0 (T1.setTop (mkF m 23 #[.val (.ref a0), .val (.int p1), .val (.int p2), .val (.int p3)] [(.int (0 : Int32))])) := by
        intro t k
        refine go3 t ?_
        refine o_ifY X1 hx hby d2_6 22 rfl (teq hc6_2).1 ?_
        refine o_iconst X1 hx hby d2_22 23 rfl (v := (0 : Int32)) rfl ?_
        exact k
      exact ⟨T1, _, (0 : Int32), X1, N1, e1, (if_pos hc6_2).symm, go4⟩
    · obtain ⟨cl3, Ar3, q3, S3, M3, H3, G3⟩ := id r0
      have hin3 : ¬ (p1 < 0 ∨ cl3.slots.size ≤ (p1).toNatClampNeg) := inb_of S3 (hi)
      have hat3 : cl3.slots[(p1).toNatClampNeg]? = some (.int (own_at b0 b1 b2 b3 p1)) := H3.at hin3 (own_get4 (hi))
      obtain ⟨_, _, ⟨T4, L4, k4, n4⟩, -, X4, ⟨Lc4, hQ4, l4, y4, z4⟩, st4⟩ := Jvm.LawKit.callS X1 hx (y := (⟨"com/example/amortine/amortine/cli/DigitsReadPinLaw", "isDigit", "(B)Z"⟩ : MethodName)) hown (mvT hZ (hw _ (List.mem_of_getElem? (i := 55) rfl))) (mvT hZ (hw _ (List.mem_of_getElem? (i := 56) rfl))) (mvT hZ (hw _ (List.mem_of_getElem? (i := 4) rfl))) (mvT hZ (hw _ (List.mem_of_getElem? (i := 57) rfl))) (by decide) (backOf (W := 0) (rm13 l Z aw hw [] (own_at b0 b1 b2 b3 p1) h0 n0 Z0) hZ (hw _ (List.mem_of_getElem? (i := 57) rfl)) (hw _ (List.mem_of_getElem? (i := 4) rfl)) (by decide) (by decide)) (g := (mkF m 12 #[.val (.ref a0), .val (.int p1), .val (.int p2), .val (.int p3)] [(.int (own_at b0 b1 b2 b3 p1))])) rfl (by rw [hml]; rfl) (argsL := [(.int (own_at b0 b1 b2 b3 p1))]) (rest := []) (lenOf pd_2 rfl) rfl (by show 2 * 0 + _ ≤ _; exact Nat.le_of_eq rfl) (hb hby d2_12) (fun _ _ => ⟨rfl, e1, (by decide : 0 + 0 ≤ _), (by decide : 0 + 0 ≤ _)⟩)
      dsimp only [Pt.U, Pt.locs, Pt.cells, Pt.slots] at X4 l4 y4 z4 st4 hQ4
      obtain rfl : k4 = 0 := y4
      obtain rfl : n4 = 0 := z4
      obtain ⟨rfl, N4q, e4⟩ := hQ4
      have N4 : Fr n0 L4 := by rw [l4]; exact Fr.app N1 N4q
      have go5 : Go p e below A0 (T4.setTop (mkF m 15 #[.val (.ref a0), .val (.int p1), .val (.int p2), .val (.int p3)] [(.int (Fis (own_at b0 b1 b2 b3 p1)))])) := by
        intro t k
        refine go3 t ?_
        refine o_ifN X1 hx hby d2_6 9 rfl (feq hc6_2).1 ?_
        refine o_aloadN X1 hx hby d2_9 10 rfl rfl rfl ?_
        refine o_iloadN X1 hx hby d2_10 11 rfl rfl ?_
        refine X1.baloadBytes hx (j := p1) (v := (.int (own_at b0 b1 b2 b3 p1))) (by rw [e1]; exact Ar3.1) (State.isArrayOf_alike hZ.alike Ar3.2.1) Ar3.2.2 hin3 hat3 (g := (mkF m 11 #[.val (.ref a0), .val (.int p1), .val (.int p2), .val (.int p3)] [(.int p1), (.ref a0)])) rfl rfl (hb hby d2_11) _ ?_
        show Steps p.tables e below (T1.setTop (mkF m 12 #[.val (.ref a0), .val (.int p1), .val (.int p2), .val (.int p3)] [(.int (own_at b0 b1 b2 b3 p1))])) _
        refine st4 _ ?_
        show Steps p.tables e below (T4.setTop (mkF m 15 #[.val (.ref a0), .val (.int p1), .val (.int p2), .val (.int p3)] [(.int (Fis (own_at b0 b1 b2 b3 p1)))])) _
        exact k
      obtain ⟨v2, hv2, go8⟩ : ∃ (v2 : Int32), v2 = (if (Fis (own_at b0 b1 b2 b3 p1)) = (0 : Int32) then (0 : Int32) else (1 : Int32)) ∧ Go p e below A0 (T4.setTop (mkF m 23 #[.val (.ref a0), .val (.int p1), .val (.int p2), .val (.int p3)] [(.int v2)])) := by
        by_cases hc15_5 : (Fis (own_at b0 b1 b2 b3 p1)) = (0 : Int32)
        · have go6 : Go p e below A0 (T4.setTop (mkF m 23 #[.val (.ref a0), .val (.int p1), .val (.int p2), .val (.int p3)] [(.int (0 : Int32))])) := by
            intro t k
            refine go5 t ?_
            refine o_ifY X4 hx hby d2_15 22 rfl (teq hc15_5).1 ?_
            refine o_iconst X4 hx hby d2_22 23 rfl (v := (0 : Int32)) rfl ?_
            exact k
          exact ⟨(0 : Int32), (if_pos hc15_5).symm, go6⟩
        · have go7 : Go p e below A0 (T4.setTop (mkF m 23 #[.val (.ref a0), .val (.int p1), .val (.int p2), .val (.int p3)] [(.int (1 : Int32))])) := by
            intro t k
            refine go5 t ?_
            refine o_ifN X4 hx hby d2_15 18 rfl (feq hc15_5).1 ?_
            refine o_iconst X4 hx hby d2_18 19 rfl (v := (1 : Int32)) rfl ?_
            refine o_goto X4 hx hby d2_19 23 rfl ?_
            exact k
          exact ⟨(1 : Int32), (if_neg hc15_5).symm, go7⟩
      rw [hv2] at go8
      exact ⟨T4, _, (if (Fis (own_at b0 b1 b2 b3 p1)) = (0 : Int32) then (0 : Int32) else (1 : Int32)), X4, N4, e4, (if_neg hc6_2).symm, go8⟩
  have hF : v3 = (Fdig p1 p2 p3 b0 b1 b2 b3) := by simp only [Fdig, hv1, hv3]
  rw [hA0] at go9
  obtain ⟨fs, hr, hrun, hended, hW, hsame⟩ := X6.leave (v := some (.int v3)) (fun h => by rw [Bd.returns] at h; cases h)
  refine ⟨_, _, go9 _ (o_retI X6 hx Bd.returns (hb hby d2_23) hr), hrun, hended, _, _, rfl, ?_, ⟨_, rfl⟩, hW, hsame.mono (by decide) (by decide)⟩
  show Q2 Z a0 p1 p2 p3 ka b0 b1 b2 b3 h0 n0 _ T6.heap _
  rw [e6]
  exact ⟨by rw [← hF], N6, rfl⟩
theorem d4_0 : decode method_6_code 0 = .ok (.iload_n 1, 1) := by decide +kernel
theorem d4_1 : decode method_6_code 1 = .ok (.iload_n 2, 1) := by decide +kernel
theorem d4_2 : decode method_6_code 2 = .ok (.iload_n 3, 1) := by decide +kernel
theorem d4_3 : decode method_6_code 3 = .ok (.invokestatic 8, 3) := by decide +kernel
theorem d4_6 : decode method_6_code 6 = .ok (.ifCond .eq 15, 3) := by decide +kernel
theorem d4_9 : decode method_6_code 9 = .ok (.aload_n 0, 1) := by decide +kernel
theorem d4_10 : decode method_6_code 10 = .ok (.iload_n 1, 1) := by decide +kernel
theorem d4_11 : decode method_6_code 11 = .ok (.baload, 1) := by decide +kernel
theorem d4_12 : decode method_6_code 12 = .ok (.bipush 46, 2) := by decide +kernel
theorem d4_14 : decode method_6_code 14 = .ok (.if_icmp .ne 7, 3) := by decide +kernel
theorem d4_17 : decode method_6_code 17 = .ok (.iconst 1, 1) := by decide +kernel
theorem d4_18 : decode method_6_code 18 = .ok (.goto 4, 3) := by decide +kernel
theorem d4_21 : decode method_6_code 21 = .ok (.iconst 0, 1) := by decide +kernel
theorem d4_22 : decode method_6_code 22 = .ok (.ireturn, 1) := by decide +kernel
theorem ef_4 (m : MethodId) (x0 : Addr) (x1 : Int32) (x2 : Int32) (x3 : Int32) : entryFrame m #[(.ref x0), (.int x1), (.int x2), (.int x3)] 4 = mkF m 0 #[.val (.ref x0), .val (.int x1), .val (.int x2), .val (.int x3)] [] := by first | (simp [entryFrame, mkF, argsToLocals, Value.category]; done) | rfl
def Fdot (p1 : Int32) (p2 : Int32) (p3 : Int32) (b0 : Int32) (b1 : Int32) (b2 : Int32) (b3 : Int32) : Int32 := let v1 : Int32 := (Fin_ p1 p2 p3); let v3 : Int32 := (if v1 = (0 : Int32) then (0 : Int32) else (if (own_at b0 b1 b2 b3 p1) = (46 : Int32) then (1 : Int32) else (0 : Int32))); v3
def Q4 (Z : State) (a0 : Addr) (p1 : Int32) (p2 : Int32) (p3 : Int32) (ka : ClassId) (b0 : Int32) (b1 : Int32) (b2 : Int32) (b3 : Int32) (h0 : Heap) (n0 : Nat) (v : Option Value) (h : Heap) (L : List Loc) : Prop := v = some (.int (Fdot p1 p2 p3 b0 b1 b2 b3)) ∧ Fr n0 L ∧ h = h0
set_option maxRecDepth 65536 in
set_option maxHeartbeats 40000000 in
theorem rm4 (l : Launch) (Z : State) (aw : Array Value) (hw : ∀ d ∈ tables_1, d.before aw Z = true) (ws : List Jvm.Cond) (a0 : Addr) (p1 : Int32) (p2 : Int32) (p3 : Int32) (ka : ClassId) (b0 : Int32) (b1 : Int32) (b2 : Int32) (b3 : Int32) (h0 : Heap) (n0 : Nat) (Z0 : n0 ≤ h0.size) (r0 : Arv Z h0 a0 ka .byte (4 : Int32) [(.int b0), (.int b1), (.int b2), (.int b3)] (.int (0 : Int32))) (hi : (¬ p1 < 0 ∧ p1 < 4)) :
    MetFree l (⟨"com/example/amortine/amortine/cli/DigitsReadPinLaw", "dotAt", "([BIII)I"⟩ : MethodName) (head1 (Jvm.Cond.code (⟨"com/example/amortine/amortine/cli/DigitsReadPinLaw", "dotAt", "([BIII)I"⟩ : MethodName) method_6_code 4 (some .int) :: ws) ({ frames := 1, cells := 0, slots := 0, locals := 14 } : Room)) (fun a U => a = #[(.ref a0), (.int p1), (.int p2), (.int p3)] ∧ Z.Warmed39 U.vm ∧ U.heap = h0) (fun _ _ _ _ _ => True) (fun _ U o U' => ∃ v L, o = .returned v ∧ Q4 Z a0 p1 p2 p3 ka b0 b1 b2 b3 h0 n0 v U'.heap L ∧ FrameEnd U o U' L ({ frames := 1, cells := 0, slots := 0, locals := 14 } : Room).cells ({ frames := 1, cells := 0, slots := 0, locals := 14 } : Room).slots) := by
  refine MetFree.of_bodySF (plainFor_of_name pn_1) hisR ?_
  intro p e s m args below meth c s₁ Bd hml0 hP hK
  obtain ⟨rfl, hZ, hh⟩ := hP
  have hx := Bd.exec
  have hby := Bd.bytes
  have hml : c.maxLocals = 4 := hml0
  have hown : s.vm.findClass "com/example/amortine/amortine/cli/DigitsReadPinLaw" = some m.cls := findClass_of_methodNamed Bd.named
  have hnm := (name_of_methodNamed Bd.named Bd.method).1
  have X0 : Stand p l e ({ frames := 1, cells := 0, slots := 0, locals := 14 } : Room) s m #[(.ref a0), (.int p1), (.int p2), (.int p3)] below meth c s₁ [] 0 0 := Stand.of_body Bd
  have e0 : s₁.heap = h0 := by rw [← hh, Bd.state]; rfl
  have N0 := Fr.nil n0
  obtain ⟨A0, hA0⟩ : ∃ A0, A0 = s₁.setTop (entryFrame m #[(.ref a0), (.int p1), (.int p2), (.int p3)] 4) := ⟨_, rfl⟩
  have go0 : Go p e below A0 (s₁.setTop (mkF m 0 #[.val (.ref a0), .val (.int p1), .val (.int p2), .val (.int p3)] [])) := fun t k => by rw [hA0]; exact castTop (ef_4 m a0 p1 p2 p3) k
  have go1 : Go p e below A0 (s₁.setTop (mkF m 3 #[.val (.ref a0), .val (.int p1), .val (.int p2), .val (.int p3)] [(.int p3), (.int p2), (.int p1)])) := by
    intro t k
    refine go0 t ?_
    refine o_iloadN X0 hx hby d4_0 1 rfl rfl ?_
    refine o_iloadN X0 hx hby d4_1 2 rfl rfl ?_
    refine o_iloadN X0 hx hby d4_2 3 rfl rfl ?_
    exact k
  obtain ⟨_, _, ⟨T1, L1, k1, n1⟩, -, X1, ⟨Lc1, hQ1, l1, y1, z1⟩, st1⟩ := Jvm.LawKit.callS X0 hx (y := (⟨"com/example/amortine/amortine/cli/DigitsReadPinLaw", "in", "(III)Z"⟩ : MethodName)) hown (mvT hZ (hw _ (List.mem_of_getElem? (i := 11) rfl))) (mvT hZ (hw _ (List.mem_of_getElem? (i := 12) rfl))) (mvT hZ (hw _ (List.mem_of_getElem? (i := 4) rfl))) (mvT hZ (hw _ (List.mem_of_getElem? (i := 13) rfl))) (by decide) (backOf (W := 0) (rm3 l Z aw hw [] p1 p2 p3 h0 n0 Z0) hZ (hw _ (List.mem_of_getElem? (i := 13) rfl)) (hw _ (List.mem_of_getElem? (i := 4) rfl)) (by decide) (by decide)) (g := (mkF m 3 #[.val (.ref a0), .val (.int p1), .val (.int p2), .val (.int p3)] [(.int p3), (.int p2), (.int p1)])) rfl (by rw [hml]; rfl) (argsL := [(.int p1), (.int p2), (.int p3)]) (rest := []) (lenOf pd_1 rfl) rfl (by show 2 * 0 + _ ≤ _; exact Nat.le_of_eq rfl) (hb hby d4_3) (fun _ _ => ⟨rfl, e0, (by decide : 0 + 0 ≤ _), (by decide : 0 + 0 ≤ _)⟩)
  dsimp only [Pt.U, Pt.locs, Pt.cells, Pt.slots] at X1 l1 y1 z1 st1 hQ1
  obtain rfl : k1 = 0 := y1
  obtain rfl : n1 = 0 := z1
  obtain ⟨rfl, N1q, e1⟩ := hQ1
  have N1 : Fr n0 L1 := by rw [l1]; exact Fr.app N0 N1q
  have go2 : Go p e below A0 (T1.setTop (mkF m 6 #[.val (.ref a0), .val (.int p1), .val (.int p2), .val (.int p3)] [(.int (Fin_ p1 p2 p3))])) := by
    intro t k
    refine go1 t ?_
    refine st1 _ ?_
    show Steps p.tables e below (T1.setTop (mkF m 6 #[.val (.ref a0), .val (.int p1), .val (.int p2), .val (.int p3)] [(.int (Fin_ p1 p2 p3))])) _
    exact k
  obtain ⟨v1, hv1, go3⟩ : ∃ v1 : Int32, v1 = (Fin_ p1 p2 p3) ∧ Go p e below A0 (T1.setTop (mkF m 6 #[.val (.ref a0), .val (.int p1), .val (.int p2), .val (.int p3)] [(.int v1)])) := ⟨_, rfl, go2⟩
  obtain ⟨v3, hv3, go9⟩ : ∃ (v3 : Int32), v3 = (if v1 = (0 : Int32) then (0 : Int32) else (if (own_at b0 b1 b2 b3 p1) = (46 : Int32) then (1 : Int32) else (0 : Int32))) ∧ Go p e below A0 (T1.setTop (mkF m 22 #[.val (.ref a0), .val (.int p1), .val (.int p2), .val (.int p3)] [(.int v3)])) := by
    by_cases hc6_2 : v1 = (0 : Int32)
    · have go4 : Go p e below A0 (T1.setTop (mkF m 22 #[.val (.ref a0), .val (.int p1), .val (.int p2), .val (.int p3)] [(.int (0 : Int32))])) := by
        intro t k
        refine go3 t ?_
        refine o_ifY X1 hx hby d4_6 21 rfl (teq hc6_2).1 ?_
        refine o_iconst X1 hx hby d4_21 22 rfl (v := (0 : Int32)) rfl ?_
        exact k
      exact ⟨(0 : Int32), (if_pos hc6_2).symm, go4⟩
    · obtain ⟨cl3, Ar3, q3, S3, M3, H3, G3⟩ := id r0
      have hin3 : ¬ (p1 < 0 ∨ cl3.slots.size ≤ (p1).toNatClampNeg) := inb_of S3 (hi)
      have hat3 : cl3.slots[(p1).toNatClampNeg]? = some (.int (own_at b0 b1 b2 b3 p1)) := H3.at hin3 (own_get4 (hi))
      have go5 : Go p e below A0 (T1.setTop (mkF m 14 #[.val (.ref a0), .val (.int p1), .val (.int p2), .val (.int p3)] [(.int (46 : Int32)), (.int (own_at b0 b1 b2 b3 p1))])) := by
        intro t k
        refine go3 t ?_
        refine o_ifN X1 hx hby d4_6 9 rfl (feq hc6_2).1 ?_
        refine o_aloadN X1 hx hby d4_9 10 rfl rfl rfl ?_
        refine o_iloadN X1 hx hby d4_10 11 rfl rfl ?_
        refine X1.baloadBytes hx (j := p1) (v := (.int (own_at b0 b1 b2 b3 p1))) (by rw [e1]; exact Ar3.1) (State.isArrayOf_alike hZ.alike Ar3.2.1) Ar3.2.2 hin3 hat3 (g := (mkF m 11 #[.val (.ref a0), .val (.int p1), .val (.int p2), .val (.int p3)] [(.int p1), (.ref a0)])) rfl rfl (hb hby d4_11) _ ?_
        show Steps p.tables e below (T1.setTop (mkF m 12 #[.val (.ref a0), .val (.int p1), .val (.int p2), .val (.int p3)] [(.int (own_at b0 b1 b2 b3 p1))])) _
        refine o_bipush X1 hx hby d4_12 14 rfl (v := (46 : Int32)) rfl ?_
        exact k
      obtain ⟨v2, hv2, go8⟩ : ∃ (v2 : Int32), v2 = (if (own_at b0 b1 b2 b3 p1) = (46 : Int32) then (1 : Int32) else (0 : Int32)) ∧ Go p e below A0 (T1.setTop (mkF m 22 #[.val (.ref a0), .val (.int p1), .val (.int p2), .val (.int p3)] [(.int v2)])) := by
        by_cases hc14_4 : (own_at b0 b1 b2 b3 p1) = (46 : Int32)
        · have go6 : Go p e below A0 (T1.setTop (mkF m 22 #[.val (.ref a0), .val (.int p1), .val (.int p2), .val (.int p3)] [(.int (1 : Int32))])) := by
            intro t k
            refine go5 t ?_
            refine o_icmpN X1 hx hby d4_14 17 rfl (teq hc14_4).2 ?_
            refine o_iconst X1 hx hby d4_17 18 rfl (v := (1 : Int32)) rfl ?_
            refine o_goto X1 hx hby d4_18 22 rfl ?_
            exact k
          exact ⟨(1 : Int32), (if_pos hc14_4).symm, go6⟩
        · have go7 : Go p e below A0 (T1.setTop (mkF m 22 #[.val (.ref a0), .val (.int p1), .val (.int p2), .val (.int p3)] [(.int (0 : Int32))])) := by
            intro t k
            refine go5 t ?_
            refine o_icmpY X1 hx hby d4_14 21 rfl (feq hc14_4).2 ?_
            refine o_iconst X1 hx hby d4_21 22 rfl (v := (0 : Int32)) rfl ?_
            exact k
          exact ⟨(0 : Int32), (if_neg hc14_4).symm, go7⟩
      rw [hv2] at go8
      exact ⟨(if (own_at b0 b1 b2 b3 p1) = (46 : Int32) then (1 : Int32) else (0 : Int32)), (if_neg hc6_2).symm, go8⟩
  have hF : v3 = (Fdot p1 p2 p3 b0 b1 b2 b3) := by simp only [Fdot, hv1, hv3]
  rw [hA0] at go9
  obtain ⟨fs, hr, hrun, hended, hW, hsame⟩ := X1.leave (v := some (.int v3)) (fun h => by rw [Bd.returns] at h; cases h)
  refine ⟨_, _, go9 _ (o_retI X1 hx Bd.returns (hb hby d4_22) hr), hrun, hended, _, _, rfl, ?_, ⟨_, rfl⟩, hW, hsame.mono (by decide) (by decide)⟩
  show Q4 Z a0 p1 p2 p3 ka b0 b1 b2 b3 h0 n0 _ T1.heap _
  rw [e1]
  exact ⟨by rw [← hF], N1, rfl⟩
theorem d5_0 : decode method_7_code 0 = .ok (.iload_n 1, 1) := by decide +kernel
theorem d5_1 : decode method_7_code 1 = .ok (.iload_n 2, 1) := by decide +kernel
theorem d5_2 : decode method_7_code 2 = .ok (.iload_n 3, 1) := by decide +kernel
theorem d5_3 : decode method_7_code 3 = .ok (.invokestatic 8, 3) := by decide +kernel
theorem d5_6 : decode method_7_code 6 = .ok (.ifCond .eq 24, 3) := by decide +kernel
theorem d5_9 : decode method_7_code 9 = .ok (.aload_n 0, 1) := by decide +kernel
theorem d5_10 : decode method_7_code 10 = .ok (.iload_n 1, 1) := by decide +kernel
theorem d5_11 : decode method_7_code 11 = .ok (.baload, 1) := by decide +kernel
theorem d5_12 : decode method_7_code 12 = .ok (.invokestatic 14, 3) := by decide +kernel
theorem d5_15 : decode method_7_code 15 = .ok (.ifCond .ne 15, 3) := by decide +kernel
theorem d5_18 : decode method_7_code 18 = .ok (.aload_n 0, 1) := by decide +kernel
theorem d5_19 : decode method_7_code 19 = .ok (.iload_n 1, 1) := by decide +kernel
theorem d5_20 : decode method_7_code 20 = .ok (.baload, 1) := by decide +kernel
theorem d5_21 : decode method_7_code 21 = .ok (.bipush 46, 2) := by decide +kernel
theorem d5_23 : decode method_7_code 23 = .ok (.if_icmp .eq 7, 3) := by decide +kernel
theorem d5_26 : decode method_7_code 26 = .ok (.iconst 1, 1) := by decide +kernel
theorem d5_27 : decode method_7_code 27 = .ok (.goto 4, 3) := by decide +kernel
theorem d5_30 : decode method_7_code 30 = .ok (.iconst 0, 1) := by decide +kernel
theorem d5_31 : decode method_7_code 31 = .ok (.ireturn, 1) := by decide +kernel
theorem ef_5 (m : MethodId) (x0 : Addr) (x1 : Int32) (x2 : Int32) (x3 : Int32) : entryFrame m #[(.ref x0), (.int x1), (.int x2), (.int x3)] 4 = mkF m 0 #[.val (.ref x0), .val (.int x1), .val (.int x2), .val (.int x3)] [] := by first | (simp [entryFrame, mkF, argsToLocals, Value.category]; done) | rfl
def Foth (p1 : Int32) (p2 : Int32) (p3 : Int32) (b0 : Int32) (b1 : Int32) (b2 : Int32) (b3 : Int32) : Int32 := let v1 : Int32 := (Fin_ p1 p2 p3); let v4 : Int32 := (if v1 = (0 : Int32) then (0 : Int32) else (if (Fis (own_at b0 b1 b2 b3 p1)) = (0 : Int32) then (if (own_at b0 b1 b2 b3 p1) = (46 : Int32) then (0 : Int32) else (1 : Int32)) else (0 : Int32))); v4
def Q5 (Z : State) (a0 : Addr) (p1 : Int32) (p2 : Int32) (p3 : Int32) (ka : ClassId) (b0 : Int32) (b1 : Int32) (b2 : Int32) (b3 : Int32) (h0 : Heap) (n0 : Nat) (v : Option Value) (h : Heap) (L : List Loc) : Prop := v = some (.int (Foth p1 p2 p3 b0 b1 b2 b3)) ∧ Fr n0 L ∧ h = h0
set_option maxRecDepth 65536 in
set_option maxHeartbeats 40000000 in
theorem rm5 (l : Launch) (Z : State) (aw : Array Value) (hw : ∀ d ∈ tables_1, d.before aw Z = true) (ws : List Jvm.Cond) (a0 : Addr) (p1 : Int32) (p2 : Int32) (p3 : Int32) (ka : ClassId) (b0 : Int32) (b1 : Int32) (b2 : Int32) (b3 : Int32) (h0 : Heap) (n0 : Nat) (Z0 : n0 ≤ h0.size) (r0 : Arv Z h0 a0 ka .byte (4 : Int32) [(.int b0), (.int b1), (.int b2), (.int b3)] (.int (0 : Int32))) (hi : (¬ p1 < 0 ∧ p1 < 4)) :
    MetFree l (⟨"com/example/amortine/amortine/cli/DigitsReadPinLaw", "otherAt", "([BIII)I"⟩ : MethodName) (head1 (Jvm.Cond.code (⟨"com/example/amortine/amortine/cli/DigitsReadPinLaw", "otherAt", "([BIII)I"⟩ : MethodName) method_7_code 4 (some .int) :: ws) ({ frames := 1, cells := 0, slots := 0, locals := 14 } : Room)) (fun a U => a = #[(.ref a0), (.int p1), (.int p2), (.int p3)] ∧ Z.Warmed39 U.vm ∧ U.heap = h0) (fun _ _ _ _ _ => True) (fun _ U o U' => ∃ v L, o = .returned v ∧ Q5 Z a0 p1 p2 p3 ka b0 b1 b2 b3 h0 n0 v U'.heap L ∧ FrameEnd U o U' L ({ frames := 1, cells := 0, slots := 0, locals := 14 } : Room).cells ({ frames := 1, cells := 0, slots := 0, locals := 14 } : Room).slots) := by
  refine MetFree.of_bodySF (plainFor_of_name pn_1) hisR ?_
  intro p e s m args below meth c s₁ Bd hml0 hP hK
  obtain ⟨rfl, hZ, hh⟩ := hP
  have hx := Bd.exec
  have hby := Bd.bytes
  have hml : c.maxLocals = 4 := hml0
  have hown : s.vm.findClass "com/example/amortine/amortine/cli/DigitsReadPinLaw" = some m.cls := findClass_of_methodNamed Bd.named
  have hnm := (name_of_methodNamed Bd.named Bd.method).1
  have X0 : Stand p l e ({ frames := 1, cells := 0, slots := 0, locals := 14 } : Room) s m #[(.ref a0), (.int p1), (.int p2), (.int p3)] below meth c s₁ [] 0 0 := Stand.of_body Bd
  have e0 : s₁.heap = h0 := by rw [← hh, Bd.state]; rfl
  have N0 := Fr.nil n0
  obtain ⟨A0, hA0⟩ : ∃ A0, A0 = s₁.setTop (entryFrame m #[(.ref a0), (.int p1), (.int p2), (.int p3)] 4) := ⟨_, rfl⟩
  have go0 : Go p e below A0 (s₁.setTop (mkF m 0 #[.val (.ref a0), .val (.int p1), .val (.int p2), .val (.int p3)] [])) := fun t k => by rw [hA0]; exact castTop (ef_5 m a0 p1 p2 p3) k
  have go1 : Go p e below A0 (s₁.setTop (mkF m 3 #[.val (.ref a0), .val (.int p1), .val (.int p2), .val (.int p3)] [(.int p3), (.int p2), (.int p1)])) := by
    intro t k
    refine go0 t ?_
    refine o_iloadN X0 hx hby d5_0 1 rfl rfl ?_
    refine o_iloadN X0 hx hby d5_1 2 rfl rfl ?_
    refine o_iloadN X0 hx hby d5_2 3 rfl rfl ?_
    exact k
  obtain ⟨_, _, ⟨T1, L1, k1, n1⟩, -, X1, ⟨Lc1, hQ1, l1, y1, z1⟩, st1⟩ := Jvm.LawKit.callS X0 hx (y := (⟨"com/example/amortine/amortine/cli/DigitsReadPinLaw", "in", "(III)Z"⟩ : MethodName)) hown (mvT hZ (hw _ (List.mem_of_getElem? (i := 11) rfl))) (mvT hZ (hw _ (List.mem_of_getElem? (i := 12) rfl))) (mvT hZ (hw _ (List.mem_of_getElem? (i := 4) rfl))) (mvT hZ (hw _ (List.mem_of_getElem? (i := 13) rfl))) (by decide) (backOf (W := 0) (rm3 l Z aw hw [] p1 p2 p3 h0 n0 Z0) hZ (hw _ (List.mem_of_getElem? (i := 13) rfl)) (hw _ (List.mem_of_getElem? (i := 4) rfl)) (by decide) (by decide)) (g := (mkF m 3 #[.val (.ref a0), .val (.int p1), .val (.int p2), .val (.int p3)] [(.int p3), (.int p2), (.int p1)])) rfl (by rw [hml]; rfl) (argsL := [(.int p1), (.int p2), (.int p3)]) (rest := []) (lenOf pd_1 rfl) rfl (by show 2 * 0 + _ ≤ _; exact Nat.le_of_eq rfl) (hb hby d5_3) (fun _ _ => ⟨rfl, e0, (by decide : 0 + 0 ≤ _), (by decide : 0 + 0 ≤ _)⟩)
  dsimp only [Pt.U, Pt.locs, Pt.cells, Pt.slots] at X1 l1 y1 z1 st1 hQ1
  obtain rfl : k1 = 0 := y1
  obtain rfl : n1 = 0 := z1
  obtain ⟨rfl, N1q, e1⟩ := hQ1
  have N1 : Fr n0 L1 := by rw [l1]; exact Fr.app N0 N1q
  have go2 : Go p e below A0 (T1.setTop (mkF m 6 #[.val (.ref a0), .val (.int p1), .val (.int p2), .val (.int p3)] [(.int (Fin_ p1 p2 p3))])) := by
    intro t k
    refine go1 t ?_
    refine st1 _ ?_
    show Steps p.tables e below (T1.setTop (mkF m 6 #[.val (.ref a0), .val (.int p1), .val (.int p2), .val (.int p3)] [(.int (Fin_ p1 p2 p3))])) _
    exact k
  obtain ⟨v1, hv1, go3⟩ : ∃ v1 : Int32, v1 = (Fin_ p1 p2 p3) ∧ Go p e below A0 (T1.setTop (mkF m 6 #[.val (.ref a0), .val (.int p1), .val (.int p2), .val (.int p3)] [(.int v1)])) := ⟨_, rfl, go2⟩
  obtain ⟨T8, l8, v4, X8, N8, e8, hv4, go12⟩ : ∃ (T8 : State) (l8 : List Loc) (v4 : Int32), Stand p l e ({ frames := 1, cells := 0, slots := 0, locals := 14 } : Room) s m #[(.ref a0), (.int p1), (.int p2), (.int p3)] below meth c T8 l8 0 0 ∧ Fr n0 l8 ∧ T8.heap = h0 ∧ v4 = (if v1 = (0 : Int32) then (0 : Int32) else (if (Fis (own_at b0 b1 b2 b3 p1)) = (0 : Int32) then (if (own_at b0 b1 b2 b3 p1) = (46 : Int32) then (0 : Int32) else (1 : Int32)) else (0 : Int32))) ∧ Go p e below A0 (T8.setTop (mkF m 31 #[.val (.ref a0), .val (.int p1), .val (.int p2), .val (.int p3)] [(.int v4)])) := by
    by_cases hc6_2 : v1 = (0 : Int32)
    · have go4 : Go p e below A0 (T1.setTop (mkF m 31 #[.val (.ref a0), .val (.int p1), .val (.int p2), .val (.int p3)] [(.int (0 : Int32))])) := by
        intro t k
        refine go3 t ?_
        refine o_ifY X1 hx hby d5_6 30 rfl (teq hc6_2).1 ?_
        refine o_iconst X1 hx hby d5_30 31 rfl (v := (0 : Int32)) rfl ?_
        exact k
      exact ⟨T1, _, (0 : Int32), X1, N1, e1, (if_pos hc6_2).symm, go4⟩
    · obtain ⟨cl3, Ar3, q3, S3, M3, H3, G3⟩ := id r0
      have hin3 : ¬ (p1 < 0 ∨ cl3.slots.size ≤ (p1).toNatClampNeg) := inb_of S3 (hi)
      have hat3 : cl3.slots[(p1).toNatClampNeg]? = some (.int (own_at b0 b1 b2 b3 p1)) := H3.at hin3 (own_get4 (hi))
      obtain ⟨_, _, ⟨T4, L4, k4, n4⟩, -, X4, ⟨Lc4, hQ4, l4, y4, z4⟩, st4⟩ := Jvm.LawKit.callS X1 hx (y := (⟨"com/example/amortine/amortine/cli/DigitsReadPinLaw", "isDigit", "(B)Z"⟩ : MethodName)) hown (mvT hZ (hw _ (List.mem_of_getElem? (i := 55) rfl))) (mvT hZ (hw _ (List.mem_of_getElem? (i := 56) rfl))) (mvT hZ (hw _ (List.mem_of_getElem? (i := 4) rfl))) (mvT hZ (hw _ (List.mem_of_getElem? (i := 57) rfl))) (by decide) (backOf (W := 0) (rm13 l Z aw hw [] (own_at b0 b1 b2 b3 p1) h0 n0 Z0) hZ (hw _ (List.mem_of_getElem? (i := 57) rfl)) (hw _ (List.mem_of_getElem? (i := 4) rfl)) (by decide) (by decide)) (g := (mkF m 12 #[.val (.ref a0), .val (.int p1), .val (.int p2), .val (.int p3)] [(.int (own_at b0 b1 b2 b3 p1))])) rfl (by rw [hml]; rfl) (argsL := [(.int (own_at b0 b1 b2 b3 p1))]) (rest := []) (lenOf pd_2 rfl) rfl (by show 2 * 0 + _ ≤ _; exact Nat.le_of_eq rfl) (hb hby d5_12) (fun _ _ => ⟨rfl, e1, (by decide : 0 + 0 ≤ _), (by decide : 0 + 0 ≤ _)⟩)
      dsimp only [Pt.U, Pt.locs, Pt.cells, Pt.slots] at X4 l4 y4 z4 st4 hQ4
      obtain rfl : k4 = 0 := y4
      obtain rfl : n4 = 0 := z4
      obtain ⟨rfl, N4q, e4⟩ := hQ4
      have N4 : Fr n0 L4 := by rw [l4]; exact Fr.app N1 N4q
      have go5 : Go p e below A0 (T4.setTop (mkF m 15 #[.val (.ref a0), .val (.int p1), .val (.int p2), .val (.int p3)] [(.int (Fis (own_at b0 b1 b2 b3 p1)))])) := by
        intro t k
        refine go3 t ?_
        refine o_ifN X1 hx hby d5_6 9 rfl (feq hc6_2).1 ?_
        refine o_aloadN X1 hx hby d5_9 10 rfl rfl rfl ?_
        refine o_iloadN X1 hx hby d5_10 11 rfl rfl ?_
        refine X1.baloadBytes hx (j := p1) (v := (.int (own_at b0 b1 b2 b3 p1))) (by rw [e1]; exact Ar3.1) (State.isArrayOf_alike hZ.alike Ar3.2.1) Ar3.2.2 hin3 hat3 (g := (mkF m 11 #[.val (.ref a0), .val (.int p1), .val (.int p2), .val (.int p3)] [(.int p1), (.ref a0)])) rfl rfl (hb hby d5_11) _ ?_
        show Steps p.tables e below (T1.setTop (mkF m 12 #[.val (.ref a0), .val (.int p1), .val (.int p2), .val (.int p3)] [(.int (own_at b0 b1 b2 b3 p1))])) _
        refine st4 _ ?_
        show Steps p.tables e below (T4.setTop (mkF m 15 #[.val (.ref a0), .val (.int p1), .val (.int p2), .val (.int p3)] [(.int (Fis (own_at b0 b1 b2 b3 p1)))])) _
        exact k
      obtain ⟨v3, hv3, go11⟩ : ∃ (v3 : Int32), v3 = (if (Fis (own_at b0 b1 b2 b3 p1)) = (0 : Int32) then (if (own_at b0 b1 b2 b3 p1) = (46 : Int32) then (0 : Int32) else (1 : Int32)) else (0 : Int32)) ∧ Go p e below A0 (T4.setTop (mkF m 31 #[.val (.ref a0), .val (.int p1), .val (.int p2), .val (.int p3)] [(.int v3)])) := by
        by_cases hc15_5 : (Fis (own_at b0 b1 b2 b3 p1)) = (0 : Int32)
        · obtain ⟨cl6, Ar6, q6, S6, M6, H6, G6⟩ := id r0
          have hin6 : ¬ (p1 < 0 ∨ cl6.slots.size ≤ (p1).toNatClampNeg) := inb_of S6 (hi)
          have hat6 : cl6.slots[(p1).toNatClampNeg]? = some (.int (own_at b0 b1 b2 b3 p1)) := H6.at hin6 (own_get4 (hi))
          have go6 : Go p e below A0 (T4.setTop (mkF m 23 #[.val (.ref a0), .val (.int p1), .val (.int p2), .val (.int p3)] [(.int (46 : Int32)), (.int (own_at b0 b1 b2 b3 p1))])) := by
            intro t k
            refine go5 t ?_
            refine o_ifN X4 hx hby d5_15 18 rfl (teq hc15_5).2 ?_
            refine o_aloadN X4 hx hby d5_18 19 rfl rfl rfl ?_
            refine o_iloadN X4 hx hby d5_19 20 rfl rfl ?_
            refine X4.baloadBytes hx (j := p1) (v := (.int (own_at b0 b1 b2 b3 p1))) (by rw [e4]; exact Ar6.1) (State.isArrayOf_alike hZ.alike Ar6.2.1) Ar6.2.2 hin6 hat6 (g := (mkF m 20 #[.val (.ref a0), .val (.int p1), .val (.int p2), .val (.int p3)] [(.int p1), (.ref a0)])) rfl rfl (hb hby d5_20) _ ?_
            show Steps p.tables e below (T4.setTop (mkF m 21 #[.val (.ref a0), .val (.int p1), .val (.int p2), .val (.int p3)] [(.int (own_at b0 b1 b2 b3 p1))])) _
            refine o_bipush X4 hx hby d5_21 23 rfl (v := (46 : Int32)) rfl ?_
            exact k
          obtain ⟨v2, hv2, go9⟩ : ∃ (v2 : Int32), v2 = (if (own_at b0 b1 b2 b3 p1) = (46 : Int32) then (0 : Int32) else (1 : Int32)) ∧ Go p e below A0 (T4.setTop (mkF m 31 #[.val (.ref a0), .val (.int p1), .val (.int p2), .val (.int p3)] [(.int v2)])) := by
            by_cases hc23_7 : (own_at b0 b1 b2 b3 p1) = (46 : Int32)
            · have go7 : Go p e below A0 (T4.setTop (mkF m 31 #[.val (.ref a0), .val (.int p1), .val (.int p2), .val (.int p3)] [(.int (0 : Int32))])) := by
                intro t k
                refine go6 t ?_
                refine o_icmpY X4 hx hby d5_23 30 rfl (teq hc23_7).1 ?_
                refine o_iconst X4 hx hby d5_30 31 rfl (v := (0 : Int32)) rfl ?_
                exact k
              exact ⟨(0 : Int32), (if_pos hc23_7).symm, go7⟩
            · have go8 : Go p e below A0 (T4.setTop (mkF m 31 #[.val (.ref a0), .val (.int p1), .val (.int p2), .val (.int p3)] [(.int (1 : Int32))])) := by
                intro t k
                refine go6 t ?_
                refine o_icmpN X4 hx hby d5_23 26 rfl (feq hc23_7).1 ?_
                refine o_iconst X4 hx hby d5_26 27 rfl (v := (1 : Int32)) rfl ?_
                refine o_goto X4 hx hby d5_27 31 rfl ?_
                exact k
              exact ⟨(1 : Int32), (if_neg hc23_7).symm, go8⟩
          rw [hv2] at go9
          exact ⟨(if (own_at b0 b1 b2 b3 p1) = (46 : Int32) then (0 : Int32) else (1 : Int32)), (if_pos hc15_5).symm, go9⟩
        · have go10 : Go p e below A0 (T4.setTop (mkF m 31 #[.val (.ref a0), .val (.int p1), .val (.int p2), .val (.int p3)] [(.int (0 : Int32))])) := by
            intro t k
            refine go5 t ?_
            refine o_ifY X4 hx hby d5_15 30 rfl (feq hc15_5).2 ?_
            refine o_iconst X4 hx hby d5_30 31 rfl (v := (0 : Int32)) rfl ?_
            exact k
          exact ⟨(0 : Int32), (if_neg hc15_5).symm, go10⟩
      rw [hv3] at go11
      exact ⟨T4, _, (if (Fis (own_at b0 b1 b2 b3 p1)) = (0 : Int32) then (if (own_at b0 b1 b2 b3 p1) = (46 : Int32) then (0 : Int32) else (1 : Int32)) else (0 : Int32)), X4, N4, e4, (if_neg hc6_2).symm, go11⟩
  have hF : v4 = (Foth p1 p2 p3 b0 b1 b2 b3) := by simp only [Foth, hv1, hv4]
  rw [hA0] at go12
  obtain ⟨fs, hr, hrun, hended, hW, hsame⟩ := X8.leave (v := some (.int v4)) (fun h => by rw [Bd.returns] at h; cases h)
  refine ⟨_, _, go12 _ (o_retI X8 hx Bd.returns (hb hby d5_31) hr), hrun, hended, _, _, rfl, ?_, ⟨_, rfl⟩, hW, hsame.mono (by decide) (by decide)⟩
  show Q5 Z a0 p1 p2 p3 ka b0 b1 b2 b3 h0 n0 _ T8.heap _
  rw [e8]
  exact ⟨by rw [← hF], N8, rfl⟩
theorem d6_0 : decode method_8_code 0 = .ok (.aload_n 2, 1) := by decide +kernel
theorem d6_1 : decode method_8_code 1 = .ok (.iload_n 3, 1) := by decide +kernel
theorem d6_2 : decode method_8_code 2 = .ok (.iload 4, 2) := by decide +kernel
theorem d6_4 : decode method_8_code 4 = .ok (.iload 5, 2) := by decide +kernel
theorem d6_6 : decode method_8_code 6 = .ok (.invokestatic 18, 3) := by decide +kernel
theorem d6_9 : decode method_8_code 9 = .ok (.iconst 1, 1) := by decide +kernel
theorem d6_10 : decode method_8_code 10 = .ok (.if_icmp .ne 19, 3) := by decide +kernel
theorem d6_13 : decode method_8_code 13 = .ok (.lload_n 0, 1) := by decide +kernel
theorem d6_14 : decode method_8_code 14 = .ok (.ldc2_w 22, 3) := by decide +kernel
theorem d6_17 : decode method_8_code 17 = .ok (.lmul, 1) := by decide +kernel
theorem d6_18 : decode method_8_code 18 = .ok (.aload_n 2, 1) := by decide +kernel
theorem d6_19 : decode method_8_code 19 = .ok (.iload_n 3, 1) := by decide +kernel
theorem d6_20 : decode method_8_code 20 = .ok (.baload, 1) := by decide +kernel
theorem d6_21 : decode method_8_code 21 = .ok (.bipush 48, 2) := by decide +kernel
theorem d6_23 : decode method_8_code 23 = .ok (.isub, 1) := by decide +kernel
theorem d6_24 : decode method_8_code 24 = .ok (.i2l, 1) := by decide +kernel
theorem d6_25 : decode method_8_code 25 = .ok (.ladd, 1) := by decide +kernel
theorem d6_26 : decode method_8_code 26 = .ok (.goto 4, 3) := by decide +kernel
theorem d6_29 : decode method_8_code 29 = .ok (.lload_n 0, 1) := by decide +kernel
theorem d6_30 : decode method_8_code 30 = .ok (.lreturn, 1) := by decide +kernel
theorem pd_3 : parseMethodDescriptor "([BIII)I" = some ⟨[(.array .byte), .int, .int, .int], some .int⟩ := by decide +kernel
theorem ef_6 (m : MethodId) (x0 : Int64) (x1 : Addr) (x2 : Int32) (x3 : Int32) (x4 : Int32) : entryFrame m #[(.long x0), (.ref x1), (.int x2), (.int x3), (.int x4)] 6 = mkF m 0 #[.val (.long x0), .second, .val (.ref x1), .val (.int x2), .val (.int x3), .val (.int x4)] [] := by first | (simp [entryFrame, mkF, argsToLocals, Value.category]; done) | rfl
def Fhor (q0 : Int64) (p2 : Int32) (p3 : Int32) (p4 : Int32) (b0 : Int32) (b1 : Int32) (b2 : Int32) (b3 : Int32) : Int64 := let v1 : Int32 := (Fdig p2 p3 p4 b0 b1 b2 b3); let v2 : Int64 := (if v1 = (1 : Int32) then ((q0 * (10 : Int64)) + (((own_at b0 b1 b2 b3 p2) - (48 : Int32)).toInt64)) else q0); v2
def Q6 (Z : State) (q0 : Int64) (a1 : Addr) (p2 : Int32) (p3 : Int32) (p4 : Int32) (ka : ClassId) (b0 : Int32) (b1 : Int32) (b2 : Int32) (b3 : Int32) (h0 : Heap) (n0 : Nat) (v : Option Value) (h : Heap) (L : List Loc) : Prop := v = some (.long (Fhor q0 p2 p3 p4 b0 b1 b2 b3)) ∧ Fr n0 L ∧ h = h0
set_option maxRecDepth 65536 in
set_option maxHeartbeats 40000000 in
theorem rm6 (l : Launch) (Z : State) (aw : Array Value) (hw : ∀ d ∈ tables_1, d.before aw Z = true) (ws : List Jvm.Cond) (q0 : Int64) (a1 : Addr) (p2 : Int32) (p3 : Int32) (p4 : Int32) (ka : ClassId) (b0 : Int32) (b1 : Int32) (b2 : Int32) (b3 : Int32) (h0 : Heap) (n0 : Nat) (Z0 : n0 ≤ h0.size) (r0 : Arv Z h0 a1 ka .byte (4 : Int32) [(.int b0), (.int b1), (.int b2), (.int b3)] (.int (0 : Int32))) (hi : (¬ p2 < 0 ∧ p2 < 4)) :
    MetFree l (⟨"com/example/amortine/amortine/cli/DigitsReadPinLaw", "horner", "(J[BIII)J"⟩ : MethodName) (head1 (Jvm.Cond.code (⟨"com/example/amortine/amortine/cli/DigitsReadPinLaw", "horner", "(J[BIII)J"⟩ : MethodName) method_8_code 6 (some .long) :: ws) ({ frames := 2, cells := 0, slots := 0, locals := 29 } : Room)) (fun a U => a = #[(.long q0), (.ref a1), (.int p2), (.int p3), (.int p4)] ∧ Z.Warmed39 U.vm ∧ U.heap = h0) (fun _ _ _ _ _ => True) (fun _ U o U' => ∃ v L, o = .returned v ∧ Q6 Z q0 a1 p2 p3 p4 ka b0 b1 b2 b3 h0 n0 v U'.heap L ∧ FrameEnd U o U' L ({ frames := 2, cells := 0, slots := 0, locals := 29 } : Room).cells ({ frames := 2, cells := 0, slots := 0, locals := 29 } : Room).slots) := by
  refine MetFree.of_bodySF (plainFor_of_name pn_1) hisR ?_
  intro p e s m args below meth c s₁ Bd hml0 hP hK
  obtain ⟨rfl, hZ, hh⟩ := hP
  have hx := Bd.exec
  have hby := Bd.bytes
  have hml : c.maxLocals = 6 := hml0
  have hown : s.vm.findClass "com/example/amortine/amortine/cli/DigitsReadPinLaw" = some m.cls := findClass_of_methodNamed Bd.named
  have hnm := (name_of_methodNamed Bd.named Bd.method).1
  have X0 : Stand p l e ({ frames := 2, cells := 0, slots := 0, locals := 29 } : Room) s m #[(.long q0), (.ref a1), (.int p2), (.int p3), (.int p4)] below meth c s₁ [] 0 0 := Stand.of_body Bd
  have e0 : s₁.heap = h0 := by rw [← hh, Bd.state]; rfl
  have N0 := Fr.nil n0
  obtain ⟨A0, hA0⟩ : ∃ A0, A0 = s₁.setTop (entryFrame m #[(.long q0), (.ref a1), (.int p2), (.int p3), (.int p4)] 6) := ⟨_, rfl⟩
  have go0 : Go p e below A0 (s₁.setTop (mkF m 0 #[.val (.long q0), .second, .val (.ref a1), .val (.int p2), .val (.int p3), .val (.int p4)] [])) := fun t k => by rw [hA0]; exact castTop (ef_6 m q0 a1 p2 p3 p4) k
  have go1 : Go p e below A0 (s₁.setTop (mkF m 6 #[.val (.long q0), .second, .val (.ref a1), .val (.int p2), .val (.int p3), .val (.int p4)] [(.int p4), (.int p3), (.int p2), (.ref a1)])) := by
    intro t k
    refine go0 t ?_
    refine o_aloadN X0 hx hby d6_0 1 rfl rfl rfl ?_
    refine o_iloadN X0 hx hby d6_1 2 rfl rfl ?_
    refine o_iload X0 hx hby d6_2 4 rfl rfl ?_
    refine o_iload X0 hx hby d6_4 6 rfl rfl ?_
    exact k
  obtain ⟨_, _, ⟨T1, L1, k1, n1⟩, -, X1, ⟨Lc1, hQ1, l1, y1, z1⟩, st1⟩ := Jvm.LawKit.callS X0 hx (y := (⟨"com/example/amortine/amortine/cli/DigitsReadPinLaw", "digitAt", "([BIII)I"⟩ : MethodName)) hown (mvT hZ (hw _ (List.mem_of_getElem? (i := 8) rfl))) (mvT hZ (hw _ (List.mem_of_getElem? (i := 9) rfl))) (mvT hZ (hw _ (List.mem_of_getElem? (i := 4) rfl))) (mvT hZ (hw _ (List.mem_of_getElem? (i := 10) rfl))) (by decide) (backOf (W := 0) (rm2 l Z aw hw [] a1 p2 p3 p4 ka b0 b1 b2 b3 h0 n0 Z0 (r0) (hi)) hZ (hw _ (List.mem_of_getElem? (i := 10) rfl)) (hw _ (List.mem_of_getElem? (i := 4) rfl)) (by decide) (by decide)) (g := (mkF m 6 #[.val (.long q0), .second, .val (.ref a1), .val (.int p2), .val (.int p3), .val (.int p4)] [(.int p4), (.int p3), (.int p2), (.ref a1)])) rfl (by rw [hml]; rfl) (argsL := [(.ref a1), (.int p2), (.int p3), (.int p4)]) (rest := []) (lenOf pd_3 rfl) rfl (by show 2 * 0 + _ ≤ _; exact Nat.le_of_eq rfl) (hb hby d6_6) (fun _ _ => ⟨rfl, e0, (by decide : 0 + 0 ≤ _), (by decide : 0 + 0 ≤ _)⟩)
  dsimp only [Pt.U, Pt.locs, Pt.cells, Pt.slots] at X1 l1 y1 z1 st1 hQ1
  obtain rfl : k1 = 0 := y1
  obtain rfl : n1 = 0 := z1
  obtain ⟨rfl, N1q, e1⟩ := hQ1
  have N1 : Fr n0 L1 := by rw [l1]; exact Fr.app N0 N1q
  have go2 : Go p e below A0 (T1.setTop (mkF m 9 #[.val (.long q0), .second, .val (.ref a1), .val (.int p2), .val (.int p3), .val (.int p4)] [(.int (Fdig p2 p3 p4 b0 b1 b2 b3))])) := by
    intro t k
    refine go1 t ?_
    refine st1 _ ?_
    show Steps p.tables e below (T1.setTop (mkF m 9 #[.val (.long q0), .second, .val (.ref a1), .val (.int p2), .val (.int p3), .val (.int p4)] [(.int (Fdig p2 p3 p4 b0 b1 b2 b3))])) _
    exact k
  obtain ⟨v1, hv1, go3⟩ : ∃ v1 : Int32, v1 = (Fdig p2 p3 p4 b0 b1 b2 b3) ∧ Go p e below A0 (T1.setTop (mkF m 9 #[.val (.long q0), .second, .val (.ref a1), .val (.int p2), .val (.int p3), .val (.int p4)] [(.int v1)])) := ⟨_, rfl, go2⟩
  have go4 : Go p e below A0 (T1.setTop (mkF m 10 #[.val (.long q0), .second, .val (.ref a1), .val (.int p2), .val (.int p3), .val (.int p4)] [(.int (1 : Int32)), (.int v1)])) := by
    intro t k
    refine go3 t ?_
    refine o_iconst X1 hx hby d6_9 10 rfl (v := (1 : Int32)) rfl ?_
    exact k
  obtain ⟨v2, hv2, go7⟩ : ∃ (v2 : Int64), v2 = (if v1 = (1 : Int32) then ((q0 * (10 : Int64)) + (((own_at b0 b1 b2 b3 p2) - (48 : Int32)).toInt64)) else q0) ∧ Go p e below A0 (T1.setTop (mkF m 30 #[.val (.long q0), .second, .val (.ref a1), .val (.int p2), .val (.int p3), .val (.int p4)] [(.long v2)])) := by
    by_cases hc10_2 : v1 = (1 : Int32)
    · obtain ⟨cl3, Ar3, q3, S3, M3, H3, G3⟩ := id r0
      have hin3 : ¬ (p2 < 0 ∨ cl3.slots.size ≤ (p2).toNatClampNeg) := inb_of S3 (hi)
      have hat3 : cl3.slots[(p2).toNatClampNeg]? = some (.int (own_at b0 b1 b2 b3 p2)) := H3.at hin3 (own_get4 (hi))
      have go5 : Go p e below A0 (T1.setTop (mkF m 30 #[.val (.long q0), .second, .val (.ref a1), .val (.int p2), .val (.int p3), .val (.int p4)] [(.long ((q0 * (10 : Int64)) + (((own_at b0 b1 b2 b3 p2) - (48 : Int32)).toInt64)))])) := by
        intro t k
        refine go4 t ?_
        refine o_icmpN X1 hx hby d6_10 13 rfl (teq hc10_2).2 ?_
        refine o_lloadN X1 hx hby d6_13 14 rfl rfl ?_
        refine o_ldc2Long X1 hx hby hown (mvT hZ (hw _ (List.mem_of_getElem? (i := 7) rfl))) d6_14 17 rfl ?_
        refine o_lmul X1 hx hby d6_17 18 rfl ?_
        refine o_aloadN X1 hx hby d6_18 19 rfl rfl rfl ?_
        refine o_iloadN X1 hx hby d6_19 20 rfl rfl ?_
        refine X1.baloadBytes hx (j := p2) (v := (.int (own_at b0 b1 b2 b3 p2))) (by rw [e1]; exact Ar3.1) (State.isArrayOf_alike hZ.alike Ar3.2.1) Ar3.2.2 hin3 hat3 (g := (mkF m 20 #[.val (.long q0), .second, .val (.ref a1), .val (.int p2), .val (.int p3), .val (.int p4)] [(.int p2), (.ref a1), (.long (q0 * (10 : Int64)))])) rfl rfl (hb hby d6_20) _ ?_
        show Steps p.tables e below (T1.setTop (mkF m 21 #[.val (.long q0), .second, .val (.ref a1), .val (.int p2), .val (.int p3), .val (.int p4)] [(.int (own_at b0 b1 b2 b3 p2)), (.long (q0 * (10 : Int64)))])) _
        refine o_bipush X1 hx hby d6_21 23 rfl (v := (48 : Int32)) rfl ?_
        refine o_isub X1 hx hby d6_23 24 rfl ?_
        refine o_i2l X1 hx hby d6_24 25 rfl ?_
        refine o_ladd X1 hx hby d6_25 26 rfl ?_
        refine o_goto X1 hx hby d6_26 30 rfl ?_
        exact k
      exact ⟨((q0 * (10 : Int64)) + (((own_at b0 b1 b2 b3 p2) - (48 : Int32)).toInt64)), (if_pos hc10_2).symm, go5⟩
    · have go6 : Go p e below A0 (T1.setTop (mkF m 30 #[.val (.long q0), .second, .val (.ref a1), .val (.int p2), .val (.int p3), .val (.int p4)] [(.long q0)])) := by
        intro t k
        refine go4 t ?_
        refine o_icmpY X1 hx hby d6_10 29 rfl (feq hc10_2).2 ?_
        refine o_lloadN X1 hx hby d6_29 30 rfl rfl ?_
        exact k
      exact ⟨q0, (if_neg hc10_2).symm, go6⟩
  have hF : v2 = (Fhor q0 p2 p3 p4 b0 b1 b2 b3) := by simp only [Fhor, hv1, hv2]
  rw [hA0] at go7
  obtain ⟨fs, hr, hrun, hended, hW, hsame⟩ := X1.leave (v := some (.long v2)) (fun h => by rw [Bd.returns] at h; cases h)
  refine ⟨_, _, go7 _ (o_retJ X1 hx Bd.returns (hb hby d6_30) hr), hrun, hended, _, _, rfl, ?_, ⟨_, rfl⟩, hW, hsame.mono (by decide) (by decide)⟩
  show Q6 Z q0 a1 p2 p3 p4 ka b0 b1 b2 b3 h0 n0 _ T1.heap _
  rw [e1]
  exact ⟨by rw [← hF], N1, rfl⟩
theorem d7_0 : decode method_9_code 0 = .ok (.iconst 0, 1) := by decide +kernel
theorem d7_1 : decode method_9_code 1 = .ok (.istore 4, 2) := by decide +kernel
theorem d7_3 : decode method_9_code 3 = .ok (.iload_n 1, 1) := by decide +kernel
theorem d7_4 : decode method_9_code 4 = .ok (.ifCond .le 15, 3) := by decide +kernel
theorem d7_7 : decode method_9_code 7 = .ok (.iload 4, 2) := by decide +kernel
theorem d7_9 : decode method_9_code 9 = .ok (.aload_n 0, 1) := by decide +kernel
theorem d7_10 : decode method_9_code 10 = .ok (.iconst 0, 1) := by decide +kernel
theorem d7_11 : decode method_9_code 11 = .ok (.iload_n 2, 1) := by decide +kernel
theorem d7_12 : decode method_9_code 12 = .ok (.iload_n 3, 1) := by decide +kernel
theorem d7_13 : decode method_9_code 13 = .ok (.invokestatic 24, 3) := by decide +kernel
theorem d7_16 : decode method_9_code 16 = .ok (.iadd, 1) := by decide +kernel
theorem d7_17 : decode method_9_code 17 = .ok (.istore 4, 2) := by decide +kernel
theorem d7_19 : decode method_9_code 19 = .ok (.iload_n 1, 1) := by decide +kernel
theorem d7_20 : decode method_9_code 20 = .ok (.iconst 1, 1) := by decide +kernel
theorem d7_21 : decode method_9_code 21 = .ok (.if_icmp .le 15, 3) := by decide +kernel
theorem d7_24 : decode method_9_code 24 = .ok (.iload 4, 2) := by decide +kernel
theorem d7_26 : decode method_9_code 26 = .ok (.aload_n 0, 1) := by decide +kernel
theorem d7_27 : decode method_9_code 27 = .ok (.iconst 1, 1) := by decide +kernel
theorem d7_28 : decode method_9_code 28 = .ok (.iload_n 2, 1) := by decide +kernel
theorem d7_29 : decode method_9_code 29 = .ok (.iload_n 3, 1) := by decide +kernel
theorem d7_30 : decode method_9_code 30 = .ok (.invokestatic 24, 3) := by decide +kernel
theorem d7_33 : decode method_9_code 33 = .ok (.iadd, 1) := by decide +kernel
theorem d7_34 : decode method_9_code 34 = .ok (.istore 4, 2) := by decide +kernel
theorem d7_36 : decode method_9_code 36 = .ok (.iload_n 1, 1) := by decide +kernel
theorem d7_37 : decode method_9_code 37 = .ok (.iconst 2, 1) := by decide +kernel
theorem d7_38 : decode method_9_code 38 = .ok (.if_icmp .le 15, 3) := by decide +kernel
theorem d7_41 : decode method_9_code 41 = .ok (.iload 4, 2) := by decide +kernel
theorem d7_43 : decode method_9_code 43 = .ok (.aload_n 0, 1) := by decide +kernel
theorem d7_44 : decode method_9_code 44 = .ok (.iconst 2, 1) := by decide +kernel
theorem d7_45 : decode method_9_code 45 = .ok (.iload_n 2, 1) := by decide +kernel
theorem d7_46 : decode method_9_code 46 = .ok (.iload_n 3, 1) := by decide +kernel
theorem d7_47 : decode method_9_code 47 = .ok (.invokestatic 24, 3) := by decide +kernel
theorem d7_50 : decode method_9_code 50 = .ok (.iadd, 1) := by decide +kernel
theorem d7_51 : decode method_9_code 51 = .ok (.istore 4, 2) := by decide +kernel
theorem d7_53 : decode method_9_code 53 = .ok (.iload 4, 2) := by decide +kernel
theorem d7_55 : decode method_9_code 55 = .ok (.ireturn, 1) := by decide +kernel
theorem ef_7 (m : MethodId) (x0 : Addr) (x1 : Int32) (x2 : Int32) (x3 : Int32) : entryFrame m #[(.ref x0), (.int x1), (.int x2), (.int x3)] 5 = mkF m 0 #[.val (.ref x0), .val (.int x1), .val (.int x2), .val (.int x3), .unset] [] := by first | (simp [entryFrame, mkF, argsToLocals, Value.category]; done) | rfl
def Fdb (p1 : Int32) (p2 : Int32) (p3 : Int32) (b0 : Int32) (b1 : Int32) (b2 : Int32) (b3 : Int32) : Int32 := let v1 : Int32 := (if (0 : Int32) < p1 then ((0 : Int32) + (Fdot (0 : Int32) p2 p3 b0 b1 b2 b3)) else (0 : Int32)); let v2 : Int32 := (if (1 : Int32) < p1 then (v1 + (Fdot (1 : Int32) p2 p3 b0 b1 b2 b3)) else v1); let v3 : Int32 := (if (2 : Int32) < p1 then (v2 + (Fdot (2 : Int32) p2 p3 b0 b1 b2 b3)) else v2); v3
def Q7 (Z : State) (a0 : Addr) (p1 : Int32) (p2 : Int32) (p3 : Int32) (ka : ClassId) (b0 : Int32) (b1 : Int32) (b2 : Int32) (b3 : Int32) (h0 : Heap) (n0 : Nat) (v : Option Value) (h : Heap) (L : List Loc) : Prop := v = some (.int (Fdb p1 p2 p3 b0 b1 b2 b3)) ∧ Fr n0 L ∧ h = h0
set_option maxRecDepth 65536 in
set_option maxHeartbeats 40000000 in
theorem rm7 (l : Launch) (Z : State) (aw : Array Value) (hw : ∀ d ∈ tables_1, d.before aw Z = true) (ws : List Jvm.Cond) (a0 : Addr) (p1 : Int32) (p2 : Int32) (p3 : Int32) (ka : ClassId) (b0 : Int32) (b1 : Int32) (b2 : Int32) (b3 : Int32) (h0 : Heap) (n0 : Nat) (Z0 : n0 ≤ h0.size) (r0 : Arv Z h0 a0 ka .byte (4 : Int32) [(.int b0), (.int b1), (.int b2), (.int b3)] (.int (0 : Int32))) :
    MetFree l (⟨"com/example/amortine/amortine/cli/DigitsReadPinLaw", "dotsBefore", "([BIII)I"⟩ : MethodName) (head1 (Jvm.Cond.code (⟨"com/example/amortine/amortine/cli/DigitsReadPinLaw", "dotsBefore", "([BIII)I"⟩ : MethodName) method_9_code 5 (some .int) :: ws) ({ frames := 2, cells := 0, slots := 0, locals := 30 } : Room)) (fun a U => a = #[(.ref a0), (.int p1), (.int p2), (.int p3)] ∧ Z.Warmed39 U.vm ∧ U.heap = h0) (fun _ _ _ _ _ => True) (fun _ U o U' => ∃ v L, o = .returned v ∧ Q7 Z a0 p1 p2 p3 ka b0 b1 b2 b3 h0 n0 v U'.heap L ∧ FrameEnd U o U' L ({ frames := 2, cells := 0, slots := 0, locals := 30 } : Room).cells ({ frames := 2, cells := 0, slots := 0, locals := 30 } : Room).slots) := by
  refine MetFree.of_bodySF (plainFor_of_name pn_1) hisR ?_
  intro p e s m args below meth c s₁ Bd hml0 hP hK
  obtain ⟨rfl, hZ, hh⟩ := hP
  have hx := Bd.exec
  have hby := Bd.bytes
  have hml : c.maxLocals = 5 := hml0
  have hown : s.vm.findClass "com/example/amortine/amortine/cli/DigitsReadPinLaw" = some m.cls := findClass_of_methodNamed Bd.named
  have hnm := (name_of_methodNamed Bd.named Bd.method).1
  have X0 : Stand p l e ({ frames := 2, cells := 0, slots := 0, locals := 30 } : Room) s m #[(.ref a0), (.int p1), (.int p2), (.int p3)] below meth c s₁ [] 0 0 := Stand.of_body Bd
  have e0 : s₁.heap = h0 := by rw [← hh, Bd.state]; rfl
  have N0 := Fr.nil n0
  obtain ⟨A0, hA0⟩ : ∃ A0, A0 = s₁.setTop (entryFrame m #[(.ref a0), (.int p1), (.int p2), (.int p3)] 5) := ⟨_, rfl⟩
  have go0 : Go p e below A0 (s₁.setTop (mkF m 0 #[.val (.ref a0), .val (.int p1), .val (.int p2), .val (.int p3), .unset] [])) := fun t k => by rw [hA0]; exact castTop (ef_7 m a0 p1 p2 p3) k
  have go1 : Go p e below A0 (s₁.setTop (mkF m 3 #[.val (.ref a0), .val (.int p1), .val (.int p2), .val (.int p3), .val (.int (0 : Int32))] [])) := by
    intro t k
    refine go0 t ?_
    refine o_iconst X0 hx hby d7_0 1 rfl (v := (0 : Int32)) rfl ?_
    refine o_istore X0 hx hby d7_1 3 rfl (l' := #[.val (.ref a0), .val (.int p1), .val (.int p2), .val (.int p3), .val (.int (0 : Int32))]) rfl ?_
    exact k
  have go2 : Go p e below A0 (s₁.setTop (mkF m 4 #[.val (.ref a0), .val (.int p1), .val (.int p2), .val (.int p3), .val (.int (0 : Int32))] [(.int p1)])) := by
    intro t k
    refine go1 t ?_
    refine o_iloadN X0 hx hby d7_3 4 rfl rfl ?_
    exact k
  obtain ⟨T3, l3, v1, X3, N3, e3, hv1, go5⟩ : ∃ (T3 : State) (l3 : List Loc) (v1 : Int32), Stand p l e ({ frames := 2, cells := 0, slots := 0, locals := 30 } : Room) s m #[(.ref a0), (.int p1), (.int p2), (.int p3)] below meth c T3 l3 0 0 ∧ Fr n0 l3 ∧ T3.heap = h0 ∧ v1 = (if (0 : Int32) < p1 then ((0 : Int32) + (Fdot (0 : Int32) p2 p3 b0 b1 b2 b3)) else (0 : Int32)) ∧ Go p e below A0 (T3.setTop (mkF m 19 #[.val (.ref a0), .val (.int p1), .val (.int p2), .val (.int p3), .val (.int v1)] [])) := by
    by_cases hc4_1 : (0 : Int32) < p1
    · obtain ⟨_, _, ⟨T2, L2, k2, n2⟩, -, X2, ⟨Lc2, hQ2, l2, y2, z2⟩, st2⟩ := Jvm.LawKit.callS X0 hx (y := (⟨"com/example/amortine/amortine/cli/DigitsReadPinLaw", "dotAt", "([BIII)I"⟩ : MethodName)) hown (mvT hZ (hw _ (List.mem_of_getElem? (i := 14) rfl))) (mvT hZ (hw _ (List.mem_of_getElem? (i := 15) rfl))) (mvT hZ (hw _ (List.mem_of_getElem? (i := 4) rfl))) (mvT hZ (hw _ (List.mem_of_getElem? (i := 16) rfl))) (by decide) (backOf (W := 1) (rm4 l Z aw hw [] a0 (0 : Int32) p2 p3 ka b0 b1 b2 b3 h0 n0 Z0 (r0) (by decide)) hZ (hw _ (List.mem_of_getElem? (i := 16) rfl)) (hw _ (List.mem_of_getElem? (i := 4) rfl)) (by decide) (by decide)) (g := (mkF m 13 #[.val (.ref a0), .val (.int p1), .val (.int p2), .val (.int p3), .val (.int (0 : Int32))] [(.int p3), (.int p2), (.int (0 : Int32)), (.ref a0), (.int (0 : Int32))])) rfl (by rw [hml]; rfl) (argsL := [(.ref a0), (.int (0 : Int32)), (.int p2), (.int p3)]) (rest := [(.int (0 : Int32))]) (lenOf pd_3 rfl) rfl (by show 2 * 0 + _ ≤ _; exact Nat.le_of_eq rfl) (hb hby d7_13) (fun _ _ => ⟨rfl, e0, (by decide : 0 + 0 ≤ _), (by decide : 0 + 0 ≤ _)⟩)
      dsimp only [Pt.U, Pt.locs, Pt.cells, Pt.slots] at X2 l2 y2 z2 st2 hQ2
      obtain rfl : k2 = 0 := y2
      obtain rfl : n2 = 0 := z2
      obtain ⟨rfl, N2q, e2⟩ := hQ2
      have N2 : Fr n0 L2 := by rw [l2]; exact Fr.app N0 N2q
      have go3 : Go p e below A0 (T2.setTop (mkF m 19 #[.val (.ref a0), .val (.int p1), .val (.int p2), .val (.int p3), .val (.int ((0 : Int32) + (Fdot (0 : Int32) p2 p3 b0 b1 b2 b3)))] [])) := by
        intro t k
        refine go2 t ?_
        refine o_ifN X0 hx hby d7_4 7 rfl (tlt hc4_1).2.2.2 ?_
        refine o_iload X0 hx hby d7_7 9 rfl rfl ?_
        refine o_aloadN X0 hx hby d7_9 10 rfl rfl rfl ?_
        refine o_iconst X0 hx hby d7_10 11 rfl (v := (0 : Int32)) rfl ?_
        refine o_iloadN X0 hx hby d7_11 12 rfl rfl ?_
        refine o_iloadN X0 hx hby d7_12 13 rfl rfl ?_
        refine st2 _ ?_
        show Steps p.tables e below (T2.setTop (mkF m 16 #[.val (.ref a0), .val (.int p1), .val (.int p2), .val (.int p3), .val (.int (0 : Int32))] [(.int (Fdot (0 : Int32) p2 p3 b0 b1 b2 b3)), (.int (0 : Int32))])) _
        refine o_iadd X2 hx hby d7_16 17 rfl ?_
        refine o_istore X2 hx hby d7_17 19 rfl (l' := #[.val (.ref a0), .val (.int p1), .val (.int p2), .val (.int p3), .val (.int ((0 : Int32) + (Fdot (0 : Int32) p2 p3 b0 b1 b2 b3)))]) rfl ?_
        exact k
      exact ⟨T2, _, ((0 : Int32) + (Fdot (0 : Int32) p2 p3 b0 b1 b2 b3)), X2, N2, e2, (if_pos hc4_1).symm, go3⟩
    · have go4 : Go p e below A0 (s₁.setTop (mkF m 19 #[.val (.ref a0), .val (.int p1), .val (.int p2), .val (.int p3), .val (.int (0 : Int32))] [])) := by
        intro t k
        refine go2 t ?_
        refine o_ifY X0 hx hby d7_4 19 rfl (flt hc4_1).2.2.2 ?_
        exact k
      exact ⟨s₁, _, (0 : Int32), X0, N0, e0, (if_neg hc4_1).symm, go4⟩
  have go6 : Go p e below A0 (T3.setTop (mkF m 21 #[.val (.ref a0), .val (.int p1), .val (.int p2), .val (.int p3), .val (.int v1)] [(.int (1 : Int32)), (.int p1)])) := by
    intro t k
    refine go5 t ?_
    refine o_iloadN X3 hx hby d7_19 20 rfl rfl ?_
    refine o_iconst X3 hx hby d7_20 21 rfl (v := (1 : Int32)) rfl ?_
    exact k
  obtain ⟨T6, l6, v2, X6, N6, e6, hv2, go9⟩ : ∃ (T6 : State) (l6 : List Loc) (v2 : Int32), Stand p l e ({ frames := 2, cells := 0, slots := 0, locals := 30 } : Room) s m #[(.ref a0), (.int p1), (.int p2), (.int p3)] below meth c T6 l6 0 0 ∧ Fr n0 l6 ∧ T6.heap = h0 ∧ v2 = (if (1 : Int32) < p1 then (v1 + (Fdot (1 : Int32) p2 p3 b0 b1 b2 b3)) else v1) ∧ Go p e below A0 (T6.setTop (mkF m 36 #[.val (.ref a0), .val (.int p1), .val (.int p2), .val (.int p3), .val (.int v2)] [])) := by
    by_cases hc21_4 : (1 : Int32) < p1
    · obtain ⟨_, _, ⟨T5, L5, k5, n5⟩, -, X5, ⟨Lc5, hQ5, l5, y5, z5⟩, st5⟩ := Jvm.LawKit.callS X3 hx (y := (⟨"com/example/amortine/amortine/cli/DigitsReadPinLaw", "dotAt", "([BIII)I"⟩ : MethodName)) hown (mvT hZ (hw _ (List.mem_of_getElem? (i := 14) rfl))) (mvT hZ (hw _ (List.mem_of_getElem? (i := 15) rfl))) (mvT hZ (hw _ (List.mem_of_getElem? (i := 4) rfl))) (mvT hZ (hw _ (List.mem_of_getElem? (i := 16) rfl))) (by decide) (backOf (W := 1) (rm4 l Z aw hw [] a0 (1 : Int32) p2 p3 ka b0 b1 b2 b3 h0 n0 Z0 (r0) (by decide)) hZ (hw _ (List.mem_of_getElem? (i := 16) rfl)) (hw _ (List.mem_of_getElem? (i := 4) rfl)) (by decide) (by decide)) (g := (mkF m 30 #[.val (.ref a0), .val (.int p1), .val (.int p2), .val (.int p3), .val (.int v1)] [(.int p3), (.int p2), (.int (1 : Int32)), (.ref a0), (.int v1)])) rfl (by rw [hml]; rfl) (argsL := [(.ref a0), (.int (1 : Int32)), (.int p2), (.int p3)]) (rest := [(.int v1)]) (lenOf pd_3 rfl) rfl (by show 2 * 0 + _ ≤ _; exact Nat.le_of_eq rfl) (hb hby d7_30) (fun _ _ => ⟨rfl, e3, (by decide : 0 + 0 ≤ _), (by decide : 0 + 0 ≤ _)⟩)
      dsimp only [Pt.U, Pt.locs, Pt.cells, Pt.slots] at X5 l5 y5 z5 st5 hQ5
      obtain rfl : k5 = 0 := y5
      obtain rfl : n5 = 0 := z5
      obtain ⟨rfl, N5q, e5⟩ := hQ5
      have N5 : Fr n0 L5 := by rw [l5]; exact Fr.app N3 N5q
      have go7 : Go p e below A0 (T5.setTop (mkF m 36 #[.val (.ref a0), .val (.int p1), .val (.int p2), .val (.int p3), .val (.int (v1 + (Fdot (1 : Int32) p2 p3 b0 b1 b2 b3)))] [])) := by
        intro t k
        refine go6 t ?_
        refine o_icmpN X3 hx hby d7_21 24 rfl (tlt hc21_4).2.2.2 ?_
        refine o_iload X3 hx hby d7_24 26 rfl rfl ?_
        refine o_aloadN X3 hx hby d7_26 27 rfl rfl rfl ?_
        refine o_iconst X3 hx hby d7_27 28 rfl (v := (1 : Int32)) rfl ?_
        refine o_iloadN X3 hx hby d7_28 29 rfl rfl ?_
        refine o_iloadN X3 hx hby d7_29 30 rfl rfl ?_
        refine st5 _ ?_
        show Steps p.tables e below (T5.setTop (mkF m 33 #[.val (.ref a0), .val (.int p1), .val (.int p2), .val (.int p3), .val (.int v1)] [(.int (Fdot (1 : Int32) p2 p3 b0 b1 b2 b3)), (.int v1)])) _
        refine o_iadd X5 hx hby d7_33 34 rfl ?_
        refine o_istore X5 hx hby d7_34 36 rfl (l' := #[.val (.ref a0), .val (.int p1), .val (.int p2), .val (.int p3), .val (.int (v1 + (Fdot (1 : Int32) p2 p3 b0 b1 b2 b3)))]) rfl ?_
        exact k
      exact ⟨T5, _, (v1 + (Fdot (1 : Int32) p2 p3 b0 b1 b2 b3)), X5, N5, e5, (if_pos hc21_4).symm, go7⟩
    · have go8 : Go p e below A0 (T3.setTop (mkF m 36 #[.val (.ref a0), .val (.int p1), .val (.int p2), .val (.int p3), .val (.int v1)] [])) := by
        intro t k
        refine go6 t ?_
        refine o_icmpY X3 hx hby d7_21 36 rfl (flt hc21_4).2.2.2 ?_
        exact k
      exact ⟨T3, _, v1, X3, N3, e3, (if_neg hc21_4).symm, go8⟩
  have go10 : Go p e below A0 (T6.setTop (mkF m 38 #[.val (.ref a0), .val (.int p1), .val (.int p2), .val (.int p3), .val (.int v2)] [(.int (2 : Int32)), (.int p1)])) := by
    intro t k
    refine go9 t ?_
    refine o_iloadN X6 hx hby d7_36 37 rfl rfl ?_
    refine o_iconst X6 hx hby d7_37 38 rfl (v := (2 : Int32)) rfl ?_
    exact k
  obtain ⟨T9, l9, v3, X9, N9, e9, hv3, go13⟩ : ∃ (T9 : State) (l9 : List Loc) (v3 : Int32), Stand p l e ({ frames := 2, cells := 0, slots := 0, locals := 30 } : Room) s m #[(.ref a0), (.int p1), (.int p2), (.int p3)] below meth c T9 l9 0 0 ∧ Fr n0 l9 ∧ T9.heap = h0 ∧ v3 = (if (2 : Int32) < p1 then (v2 + (Fdot (2 : Int32) p2 p3 b0 b1 b2 b3)) else v2) ∧ Go p e below A0 (T9.setTop (mkF m 53 #[.val (.ref a0), .val (.int p1), .val (.int p2), .val (.int p3), .val (.int v3)] [])) := by
    by_cases hc38_7 : (2 : Int32) < p1
    · obtain ⟨_, _, ⟨T8, L8, k8, n8⟩, -, X8, ⟨Lc8, hQ8, l8, y8, z8⟩, st8⟩ := Jvm.LawKit.callS X6 hx (y := (⟨"com/example/amortine/amortine/cli/DigitsReadPinLaw", "dotAt", "([BIII)I"⟩ : MethodName)) hown (mvT hZ (hw _ (List.mem_of_getElem? (i := 14) rfl))) (mvT hZ (hw _ (List.mem_of_getElem? (i := 15) rfl))) (mvT hZ (hw _ (List.mem_of_getElem? (i := 4) rfl))) (mvT hZ (hw _ (List.mem_of_getElem? (i := 16) rfl))) (by decide) (backOf (W := 1) (rm4 l Z aw hw [] a0 (2 : Int32) p2 p3 ka b0 b1 b2 b3 h0 n0 Z0 (r0) (by decide)) hZ (hw _ (List.mem_of_getElem? (i := 16) rfl)) (hw _ (List.mem_of_getElem? (i := 4) rfl)) (by decide) (by decide)) (g := (mkF m 47 #[.val (.ref a0), .val (.int p1), .val (.int p2), .val (.int p3), .val (.int v2)] [(.int p3), (.int p2), (.int (2 : Int32)), (.ref a0), (.int v2)])) rfl (by rw [hml]; rfl) (argsL := [(.ref a0), (.int (2 : Int32)), (.int p2), (.int p3)]) (rest := [(.int v2)]) (lenOf pd_3 rfl) rfl (by show 2 * 0 + _ ≤ _; exact Nat.le_of_eq rfl) (hb hby d7_47) (fun _ _ => ⟨rfl, e6, (by decide : 0 + 0 ≤ _), (by decide : 0 + 0 ≤ _)⟩)
      dsimp only [Pt.U, Pt.locs, Pt.cells, Pt.slots] at X8 l8 y8 z8 st8 hQ8
      obtain rfl : k8 = 0 := y8
      obtain rfl : n8 = 0 := z8
      obtain ⟨rfl, N8q, e8⟩ := hQ8
      have N8 : Fr n0 L8 := by rw [l8]; exact Fr.app N6 N8q
      have go11 : Go p e below A0 (T8.setTop (mkF m 53 #[.val (.ref a0), .val (.int p1), .val (.int p2), .val (.int p3), .val (.int (v2 + (Fdot (2 : Int32) p2 p3 b0 b1 b2 b3)))] [])) := by
        intro t k
        refine go10 t ?_
        refine o_icmpN X6 hx hby d7_38 41 rfl (tlt hc38_7).2.2.2 ?_
        refine o_iload X6 hx hby d7_41 43 rfl rfl ?_
        refine o_aloadN X6 hx hby d7_43 44 rfl rfl rfl ?_
        refine o_iconst X6 hx hby d7_44 45 rfl (v := (2 : Int32)) rfl ?_
        refine o_iloadN X6 hx hby d7_45 46 rfl rfl ?_
        refine o_iloadN X6 hx hby d7_46 47 rfl rfl ?_
        refine st8 _ ?_
        show Steps p.tables e below (T8.setTop (mkF m 50 #[.val (.ref a0), .val (.int p1), .val (.int p2), .val (.int p3), .val (.int v2)] [(.int (Fdot (2 : Int32) p2 p3 b0 b1 b2 b3)), (.int v2)])) _
        refine o_iadd X8 hx hby d7_50 51 rfl ?_
        refine o_istore X8 hx hby d7_51 53 rfl (l' := #[.val (.ref a0), .val (.int p1), .val (.int p2), .val (.int p3), .val (.int (v2 + (Fdot (2 : Int32) p2 p3 b0 b1 b2 b3)))]) rfl ?_
        exact k
      exact ⟨T8, _, (v2 + (Fdot (2 : Int32) p2 p3 b0 b1 b2 b3)), X8, N8, e8, (if_pos hc38_7).symm, go11⟩
    · have go12 : Go p e below A0 (T6.setTop (mkF m 53 #[.val (.ref a0), .val (.int p1), .val (.int p2), .val (.int p3), .val (.int v2)] [])) := by
        intro t k
        refine go10 t ?_
        refine o_icmpY X6 hx hby d7_38 53 rfl (flt hc38_7).2.2.2 ?_
        exact k
      exact ⟨T6, _, v2, X6, N6, e6, (if_neg hc38_7).symm, go12⟩
  have go14 : Go p e below A0 (T9.setTop (mkF m 55 #[.val (.ref a0), .val (.int p1), .val (.int p2), .val (.int p3), .val (.int v3)] [(.int v3)])) := by
    intro t k
    refine go13 t ?_
    refine o_iload X9 hx hby d7_53 55 rfl rfl ?_
    exact k
  have hF : v3 = (Fdb p1 p2 p3 b0 b1 b2 b3) := by simp only [Fdb, hv1, hv2, hv3]
  rw [hA0] at go14
  obtain ⟨fs, hr, hrun, hended, hW, hsame⟩ := X9.leave (v := some (.int v3)) (fun h => by rw [Bd.returns] at h; cases h)
  refine ⟨_, _, go14 _ (o_retI X9 hx Bd.returns (hb hby d7_55) hr), hrun, hended, _, _, rfl, ?_, ⟨_, rfl⟩, hW, hsame.mono (by decide) (by decide)⟩
  show Q7 Z a0 p1 p2 p3 ka b0 b1 b2 b3 h0 n0 _ T9.heap _
  rw [e9]
  exact ⟨by rw [← hF], N9, rfl⟩
theorem d8_0 : decode prog_121_method_1_code 0 = .ok (.aload_n 0, 1) := by decide +kernel
theorem d8_1 : decode prog_121_method_1_code 1 = .ok (.invokespecial 1, 3) := by decide +kernel
theorem d8_4 : decode prog_121_method_1_code 4 = .ok (.return_, 1) := by decide +kernel
theorem pn_8 : plainName "com/example/amortine/amortine/cli/Options$Digits" = true := by first | (simp [plainName, overriddenIn]; done) | decide +kernel
theorem ef_8 (m : MethodId) (x0 : Addr) : entryFrame m #[(.ref x0)] 1 = mkF m 0 #[.val (.ref x0)] [] := by first | (simp [entryFrame, mkF, argsToLocals, Value.category]; done) | rfl
def Q8 (Z : State) (a0 : Addr) (h0 : Heap) (n0 : Nat) (v : Option Value) (h : Heap) (L : List Loc) : Prop := v = none ∧ Fr n0 L ∧ h = h0
set_option maxRecDepth 65536 in
set_option maxHeartbeats 40000000 in
theorem rm8 (l : Launch) (Z : State) (aw : Array Value) (hw : ∀ d ∈ tables_1, d.before aw Z = true) (ws : List Jvm.Cond) (a0 : Addr) (h0 : Heap) (n0 : Nat) (Z0 : n0 ≤ h0.size) (r0 : Exa Z h0 a0 "com/example/amortine/amortine/cli/Options$Digits") :
    MetFree l (⟨"com/example/amortine/amortine/cli/Options$Digits", "<init>", "()V"⟩ : MethodName) (head1 (Jvm.Cond.code (⟨"com/example/amortine/amortine/cli/Options$Digits", "<init>", "()V"⟩ : MethodName) prog_121_method_1_code 1 none :: ws) ({ frames := 1, cells := 0, slots := 0, locals := 12 } : Room)) (fun a U => a = #[(.ref a0)] ∧ Z.Warmed39 U.vm ∧ U.heap = h0) (fun _ _ _ _ _ => True) (fun _ U o U' => ∃ v L, o = .returned v ∧ Q8 Z a0 h0 n0 v U'.heap L ∧ FrameEnd U o U' L ({ frames := 1, cells := 0, slots := 0, locals := 12 } : Room).cells ({ frames := 1, cells := 0, slots := 0, locals := 12 } : Room).slots) := by
  refine MetFree.of_bodySF (plainFor_of_name pn_8) hisR ?_
  intro p e s m args below meth c s₁ Bd hml0 hP hK
  obtain ⟨rfl, hZ, hh⟩ := hP
  have hx := Bd.exec
  have hby := Bd.bytes
  have hml : c.maxLocals = 1 := hml0
  have hown : s.vm.findClass "com/example/amortine/amortine/cli/Options$Digits" = some m.cls := findClass_of_methodNamed Bd.named
  have hnm := (name_of_methodNamed Bd.named Bd.method).1
  have X0 : Stand p l e ({ frames := 1, cells := 0, slots := 0, locals := 12 } : Room) s m #[(.ref a0)] below meth c s₁ [] 0 0 := Stand.of_body Bd
  have e0 : s₁.heap = h0 := by rw [← hh, Bd.state]; rfl
  have N0 := Fr.nil n0
  obtain ⟨A0, hA0⟩ : ∃ A0, A0 = s₁.setTop (entryFrame m #[(.ref a0)] 1) := ⟨_, rfl⟩
  have go0 : Go p e below A0 (s₁.setTop (mkF m 0 #[.val (.ref a0)] [])) := fun t k => by rw [hA0]; exact castTop (ef_8 m a0) k
  obtain ⟨T1, X1, e1, st1⟩ := initO X0 hx hZ hown (hw _ (List.mem_of_getElem? (i := 32) rfl)) (hw _ (List.mem_of_getElem? (i := 33) rfl)) (hw _ (List.mem_of_getElem? (i := 34) rfl)) e0 (g := (mkF m 1 #[.val (.ref a0)] [(.ref a0)])) rfl (by rw [hml]; rfl) rfl (hb hby d8_1) (by decide) (W := 0) (by show 2 * 0 + _ ≤ _; exact Nat.le_of_eq rfl) (by decide)
  have go1 : Go p e below A0 (T1.setTop (mkF m 4 #[.val (.ref a0)] [])) := by
    intro t k
    refine go0 t ?_
    refine o_aloadN X0 hx hby d8_0 1 rfl rfl rfl ?_
    refine st1 _ ?_
    exact k
  rw [hA0] at go1
  obtain ⟨fs, hr, hrun, hended, hW, hsame⟩ := X1.leave (v := none) (fun _ => rfl)
  refine ⟨_, _, go1 _ (X1.returnOut hx Bd.returns (hb hby d8_4) hr), hrun, hended, _, _, rfl, ?_, ⟨_, rfl⟩, hW, hsame.mono (by decide) (by decide)⟩
  show Q8 Z a0 h0 n0 _ T1.heap _
  rw [e1]
  exact ⟨rfl, N0, rfl⟩
theorem d11_0 : decode prog_121_method_3_code 0 = .ok (.aload_n 0, 1) := by decide +kernel
theorem d11_1 : decode prog_121_method_3_code 1 = .ok (.getfield 9, 3) := by decide +kernel
theorem d11_4 : decode prog_121_method_3_code 4 = .ok (.lreturn, 1) := by decide +kernel
theorem ef_11 (m : MethodId) (x0 : Addr) : entryFrame m #[(.ref x0)] 1 = mkF m 0 #[.val (.ref x0)] [] := by first | (simp [entryFrame, mkF, argsToLocals, Value.category]; done) | rfl
def Q11 (Z : State) (a0 : Addr) (d0 : Int64) (h0 : Heap) (n0 : Nat) (v : Option Value) (h : Heap) (L : List Loc) : Prop := v = some (.long d0) ∧ Fr n0 L ∧ h = h0
set_option maxRecDepth 65536 in
set_option maxHeartbeats 40000000 in
theorem rm11 (l : Launch) (Z : State) (aw : Array Value) (hw : ∀ d ∈ tables_1, d.before aw Z = true) (ws : List Jvm.Cond) (a0 : Addr) (d0 : Int64) (h0 : Heap) (n0 : Nat) (Z0 : n0 ≤ h0.size) (r0 : Fld Z h0 a0 "com/example/amortine/amortine/cli/Options$Digits" "digits" "J" (.long d0)) :
    MetFree l (⟨"com/example/amortine/amortine/cli/Options$Digits", "digits", "()J"⟩ : MethodName) (head1 (Jvm.Cond.code (⟨"com/example/amortine/amortine/cli/Options$Digits", "digits", "()J"⟩ : MethodName) prog_121_method_3_code 1 (some .long) :: ws) ({ frames := 0, cells := 0, slots := 0, locals := 0 } : Room)) (fun a U => a = #[(.ref a0)] ∧ Z.Warmed39 U.vm ∧ U.heap = h0) (fun _ _ _ _ _ => True) (fun _ U o U' => ∃ v L, o = .returned v ∧ Q11 Z a0 d0 h0 n0 v U'.heap L ∧ FrameEnd U o U' L ({ frames := 0, cells := 0, slots := 0, locals := 0 } : Room).cells ({ frames := 0, cells := 0, slots := 0, locals := 0 } : Room).slots) := by
  refine MetFree.of_bodySF (plainFor_of_name pn_8) hisR ?_
  intro p e s m args below meth c s₁ Bd hml0 hP hK
  obtain ⟨rfl, hZ, hh⟩ := hP
  have hx := Bd.exec
  have hby := Bd.bytes
  have hml : c.maxLocals = 1 := hml0
  have hown : s.vm.findClass "com/example/amortine/amortine/cli/Options$Digits" = some m.cls := findClass_of_methodNamed Bd.named
  have hnm := (name_of_methodNamed Bd.named Bd.method).1
  have X0 : Stand p l e ({ frames := 0, cells := 0, slots := 0, locals := 0 } : Room) s m #[(.ref a0)] below meth c s₁ [] 0 0 := Stand.of_body Bd
  have e0 : s₁.heap = h0 := by rw [← hh, Bd.state]; rfl
  have N0 := Fr.nil n0
  obtain ⟨A0, hA0⟩ : ∃ A0, A0 = s₁.setTop (entryFrame m #[(.ref a0)] 1) := ⟨_, rfl⟩
  have go0 : Go p e below A0 (s₁.setTop (mkF m 0 #[.val (.ref a0)] [])) := fun t k => by rw [hA0]; exact castTop (ef_11 m a0) k
  obtain ⟨T1, X1, e1, st1⟩ := getF X0 hx hZ hown (host := "") (Or.inl (hw _ (List.mem_of_getElem? (i := 41) rfl))) Via.refl e0 r0 (g := (mkF m 1 #[.val (.ref a0)] [(.ref a0)])) rfl rfl (hb hby d11_1)
  have go1 : Go p e below A0 (T1.setTop (mkF m 4 #[.val (.ref a0)] [(.long d0)])) := by
    intro t k
    refine go0 t ?_
    refine o_aloadN X0 hx hby d11_0 1 rfl rfl rfl ?_
    refine st1 _ ?_
    show Steps p.tables e below (T1.setTop (mkF m 4 #[.val (.ref a0)] [(.long d0)])) _
    exact k
  have hF : d0 = d0 := by first | rfl | simp only [*]
  rw [hA0] at go1
  obtain ⟨fs, hr, hrun, hended, hW, hsame⟩ := X1.leave (v := some (.long d0)) (fun h => by rw [Bd.returns] at h; cases h)
  refine ⟨_, _, go1 _ (o_retJ X1 hx Bd.returns (hb hby d11_4) hr), hrun, hended, _, _, rfl, ?_, ⟨_, rfl⟩, hW, hsame.mono (by decide) (by decide)⟩
  show Q11 Z a0 d0 h0 n0 _ T1.heap _
  rw [e1]
  exact ⟨by rw [← hF], N0, rfl⟩
theorem d12_0 : decode prog_121_method_4_code 0 = .ok (.aload_n 0, 1) := by decide +kernel
theorem d12_1 : decode prog_121_method_4_code 1 = .ok (.getfield 15, 3) := by decide +kernel
theorem d12_4 : decode prog_121_method_4_code 4 = .ok (.ireturn, 1) := by decide +kernel
theorem ef_12 (m : MethodId) (x0 : Addr) : entryFrame m #[(.ref x0)] 1 = mkF m 0 #[.val (.ref x0)] [] := by first | (simp [entryFrame, mkF, argsToLocals, Value.category]; done) | rfl
def Q12 (Z : State) (a0 : Addr) (ez : Int32) (h0 : Heap) (n0 : Nat) (v : Option Value) (h : Heap) (L : List Loc) : Prop := v = some (.int ez) ∧ Fr n0 L ∧ h = h0
set_option maxRecDepth 65536 in
set_option maxHeartbeats 40000000 in
theorem rm12 (l : Launch) (Z : State) (aw : Array Value) (hw : ∀ d ∈ tables_1, d.before aw Z = true) (ws : List Jvm.Cond) (a0 : Addr) (ez : Int32) (h0 : Heap) (n0 : Nat) (Z0 : n0 ≤ h0.size) (r0 : Fld Z h0 a0 "com/example/amortine/amortine/cli/Options$Digits" "decimals" "I" (.int ez)) :
    MetFree l (⟨"com/example/amortine/amortine/cli/Options$Digits", "decimals", "()I"⟩ : MethodName) (head1 (Jvm.Cond.code (⟨"com/example/amortine/amortine/cli/Options$Digits", "decimals", "()I"⟩ : MethodName) prog_121_method_4_code 1 (some .int) :: ws) ({ frames := 0, cells := 0, slots := 0, locals := 0 } : Room)) (fun a U => a = #[(.ref a0)] ∧ Z.Warmed39 U.vm ∧ U.heap = h0) (fun _ _ _ _ _ => True) (fun _ U o U' => ∃ v L, o = .returned v ∧ Q12 Z a0 ez h0 n0 v U'.heap L ∧ FrameEnd U o U' L ({ frames := 0, cells := 0, slots := 0, locals := 0 } : Room).cells ({ frames := 0, cells := 0, slots := 0, locals := 0 } : Room).slots) := by
  refine MetFree.of_bodySF (plainFor_of_name pn_8) hisR ?_
  intro p e s m args below meth c s₁ Bd hml0 hP hK
  obtain ⟨rfl, hZ, hh⟩ := hP
  have hx := Bd.exec
  have hby := Bd.bytes
  have hml : c.maxLocals = 1 := hml0
  have hown : s.vm.findClass "com/example/amortine/amortine/cli/Options$Digits" = some m.cls := findClass_of_methodNamed Bd.named
  have hnm := (name_of_methodNamed Bd.named Bd.method).1
  have X0 : Stand p l e ({ frames := 0, cells := 0, slots := 0, locals := 0 } : Room) s m #[(.ref a0)] below meth c s₁ [] 0 0 := Stand.of_body Bd
  have e0 : s₁.heap = h0 := by rw [← hh, Bd.state]; rfl
  have N0 := Fr.nil n0
  obtain ⟨A0, hA0⟩ : ∃ A0, A0 = s₁.setTop (entryFrame m #[(.ref a0)] 1) := ⟨_, rfl⟩
  have go0 : Go p e below A0 (s₁.setTop (mkF m 0 #[.val (.ref a0)] [])) := fun t k => by rw [hA0]; exact castTop (ef_12 m a0) k
  obtain ⟨T1, X1, e1, st1⟩ := getF X0 hx hZ hown (host := "") (Or.inl (hw _ (List.mem_of_getElem? (i := 43) rfl))) Via.refl e0 r0 (g := (mkF m 1 #[.val (.ref a0)] [(.ref a0)])) rfl rfl (hb hby d12_1)
  have go1 : Go p e below A0 (T1.setTop (mkF m 4 #[.val (.ref a0)] [(.int ez)])) := by
    intro t k
    refine go0 t ?_
    refine o_aloadN X0 hx hby d12_0 1 rfl rfl rfl ?_
    refine st1 _ ?_
    show Steps p.tables e below (T1.setTop (mkF m 4 #[.val (.ref a0)] [(.int ez)])) _
    exact k
  have hF : ez = ez := by first | rfl | simp only [*]
  rw [hA0] at go1
  obtain ⟨fs, hr, hrun, hended, hW, hsame⟩ := X1.leave (v := some (.int ez)) (fun h => by rw [Bd.returns] at h; cases h)
  refine ⟨_, _, go1 _ (o_retI X1 hx Bd.returns (hb hby d12_4) hr), hrun, hended, _, _, rfl, ?_, ⟨_, rfl⟩, hW, hsame.mono (by decide) (by decide)⟩
  show Q12 Z a0 ez h0 n0 _ T1.heap _
  rw [e1]
  exact ⟨by rw [← hF], N0, rfl⟩
theorem d10_0 : decode prog_121_method_2_code 0 = .ok (.iload_n 3, 1) := by decide +kernel
theorem d10_1 : decode prog_121_method_2_code 1 = .ok (.iload_n 2, 1) := by decide +kernel
theorem d10_2 : decode prog_121_method_2_code 2 = .ok (.if_icmp .le 23, 3) := by decide +kernel
theorem d10_5 : decode prog_121_method_2_code 5 = .ok (.aload_n 1, 1) := by decide +kernel
theorem d10_6 : decode prog_121_method_2_code 6 = .ok (.iload_n 2, 1) := by decide +kernel
theorem d10_7 : decode prog_121_method_2_code 7 = .ok (.baload, 1) := by decide +kernel
theorem d10_8 : decode prog_121_method_2_code 8 = .ok (.bipush 43, 2) := by decide +kernel
theorem d10_10 : decode prog_121_method_2_code 10 = .ok (.if_icmp .eq 11, 3) := by decide +kernel
theorem d10_13 : decode prog_121_method_2_code 13 = .ok (.aload_n 1, 1) := by decide +kernel
theorem d10_14 : decode prog_121_method_2_code 14 = .ok (.iload_n 2, 1) := by decide +kernel
theorem d10_15 : decode prog_121_method_2_code 15 = .ok (.baload, 1) := by decide +kernel
theorem d10_16 : decode prog_121_method_2_code 16 = .ok (.bipush 45, 2) := by decide +kernel
theorem d10_18 : decode prog_121_method_2_code 18 = .ok (.if_icmp .ne 7, 3) := by decide +kernel
theorem d10_21 : decode prog_121_method_2_code 21 = .ok (.iconst 1, 1) := by decide +kernel
theorem d10_22 : decode prog_121_method_2_code 22 = .ok (.goto 4, 3) := by decide +kernel
theorem d10_25 : decode prog_121_method_2_code 25 = .ok (.iconst 0, 1) := by decide +kernel
theorem d10_26 : decode prog_121_method_2_code 26 = .ok (.istore 5, 2) := by decide +kernel
theorem d10_28 : decode prog_121_method_2_code 28 = .ok (.iload 5, 2) := by decide +kernel
theorem d10_30 : decode prog_121_method_2_code 30 = .ok (.ifCond .eq 9, 3) := by decide +kernel
theorem d10_33 : decode prog_121_method_2_code 33 = .ok (.iload_n 2, 1) := by decide +kernel
theorem d10_34 : decode prog_121_method_2_code 34 = .ok (.iconst 1, 1) := by decide +kernel
theorem d10_35 : decode prog_121_method_2_code 35 = .ok (.iadd, 1) := by decide +kernel
theorem d10_36 : decode prog_121_method_2_code 36 = .ok (.goto 4, 3) := by decide +kernel
theorem d10_39 : decode prog_121_method_2_code 39 = .ok (.iload_n 2, 1) := by decide +kernel
theorem d10_40 : decode prog_121_method_2_code 40 = .ok (.istore 6, 2) := by decide +kernel
theorem d10_42 : decode prog_121_method_2_code 42 = .ok (.iconst 1, 1) := by decide +kernel
theorem d10_43 : decode prog_121_method_2_code 43 = .ok (.istore 7, 2) := by decide +kernel
theorem d10_45 : decode prog_121_method_2_code 45 = .ok (.iconst 0, 1) := by decide +kernel
theorem d10_46 : decode prog_121_method_2_code 46 = .ok (.istore 8, 2) := by decide +kernel
theorem d10_48 : decode prog_121_method_2_code 48 = .ok (.iconst 0, 1) := by decide +kernel
theorem d10_49 : decode prog_121_method_2_code 49 = .ok (.istore 9, 2) := by decide +kernel
theorem d10_51 : decode prog_121_method_2_code 51 = .ok (.iconst 0, 1) := by decide +kernel
theorem d10_52 : decode prog_121_method_2_code 52 = .ok (.istore 10, 2) := by decide +kernel
theorem d10_54 : decode prog_121_method_2_code 54 = .ok (.lconst 0, 1) := by decide +kernel
theorem d10_55 : decode prog_121_method_2_code 55 = .ok (.lstore 11, 2) := by decide +kernel
theorem d10_57 : decode prog_121_method_2_code 57 = .ok (.iload 6, 2) := by decide +kernel
theorem d10_59 : decode prog_121_method_2_code 59 = .ok (.istore 13, 2) := by decide +kernel
theorem d10_61 : decode prog_121_method_2_code 61 = .ok (.iload 7, 2) := by decide +kernel
theorem d10_63 : decode prog_121_method_2_code 63 = .ok (.ifCond .eq 98, 3) := by decide +kernel
theorem d10_66 : decode prog_121_method_2_code 66 = .ok (.iload 13, 2) := by decide +kernel
theorem d10_68 : decode prog_121_method_2_code 68 = .ok (.iload_n 3, 1) := by decide +kernel
theorem d10_69 : decode prog_121_method_2_code 69 = .ok (.if_icmp .ge 92, 3) := by decide +kernel
theorem d10_72 : decode prog_121_method_2_code 72 = .ok (.aload_n 1, 1) := by decide +kernel
theorem d10_73 : decode prog_121_method_2_code 73 = .ok (.iload 13, 2) := by decide +kernel
theorem d10_75 : decode prog_121_method_2_code 75 = .ok (.baload, 1) := by decide +kernel
theorem d10_76 : decode prog_121_method_2_code 76 = .ok (.istore 14, 2) := by decide +kernel
theorem d10_78 : decode prog_121_method_2_code 78 = .ok (.iload 14, 2) := by decide +kernel
theorem d10_80 : decode prog_121_method_2_code 80 = .ok (.bipush 48, 2) := by decide +kernel
theorem d10_82 : decode prog_121_method_2_code 82 = .ok (.if_icmp .lt 47, 3) := by decide +kernel
theorem d10_85 : decode prog_121_method_2_code 85 = .ok (.iload 14, 2) := by decide +kernel
theorem d10_87 : decode prog_121_method_2_code 87 = .ok (.bipush 57, 2) := by decide +kernel
theorem d10_89 : decode prog_121_method_2_code 89 = .ok (.if_icmp .gt 40, 3) := by decide +kernel
theorem d10_92 : decode prog_121_method_2_code 92 = .ok (.lload 11, 2) := by decide +kernel
theorem d10_94 : decode prog_121_method_2_code 94 = .ok (.ldc2_w 7, 3) := by decide +kernel
theorem d10_97 : decode prog_121_method_2_code 97 = .ok (.lmul, 1) := by decide +kernel
theorem d10_98 : decode prog_121_method_2_code 98 = .ok (.iload 14, 2) := by decide +kernel
theorem d10_100 : decode prog_121_method_2_code 100 = .ok (.bipush 48, 2) := by decide +kernel
theorem d10_102 : decode prog_121_method_2_code 102 = .ok (.isub, 1) := by decide +kernel
theorem d10_103 : decode prog_121_method_2_code 103 = .ok (.i2l, 1) := by decide +kernel
theorem d10_104 : decode prog_121_method_2_code 104 = .ok (.ladd, 1) := by decide +kernel
theorem d10_105 : decode prog_121_method_2_code 105 = .ok (.lstore 11, 2) := by decide +kernel
theorem d10_107 : decode prog_121_method_2_code 107 = .ok (.iinc 9 1, 3) := by decide +kernel
theorem d10_110 : decode prog_121_method_2_code 110 = .ok (.iload 8, 2) := by decide +kernel
theorem d10_112 : decode prog_121_method_2_code 112 = .ok (.ifCond .eq 10, 3) := by decide +kernel
theorem d10_115 : decode prog_121_method_2_code 115 = .ok (.iload 10, 2) := by decide +kernel
theorem d10_117 : decode prog_121_method_2_code 117 = .ok (.iconst 1, 1) := by decide +kernel
theorem d10_118 : decode prog_121_method_2_code 118 = .ok (.iadd, 1) := by decide +kernel
theorem d10_119 : decode prog_121_method_2_code 119 = .ok (.goto 5, 3) := by decide +kernel
theorem d10_122 : decode prog_121_method_2_code 122 = .ok (.iload 10, 2) := by decide +kernel
theorem d10_124 : decode prog_121_method_2_code 124 = .ok (.istore 10, 2) := by decide +kernel
theorem d10_126 : decode prog_121_method_2_code 126 = .ok (.goto 29, 3) := by decide +kernel
theorem d10_129 : decode prog_121_method_2_code 129 = .ok (.iload 14, 2) := by decide +kernel
theorem d10_131 : decode prog_121_method_2_code 131 = .ok (.bipush 46, 2) := by decide +kernel
theorem d10_133 : decode prog_121_method_2_code 133 = .ok (.if_icmp .ne 19, 3) := by decide +kernel
theorem d10_136 : decode prog_121_method_2_code 136 = .ok (.iload 4, 2) := by decide +kernel
theorem d10_138 : decode prog_121_method_2_code 138 = .ok (.ifCond .eq 14, 3) := by decide +kernel
theorem d10_141 : decode prog_121_method_2_code 141 = .ok (.iload 8, 2) := by decide +kernel
theorem d10_143 : decode prog_121_method_2_code 143 = .ok (.ifCond .ne 9, 3) := by decide +kernel
theorem d10_146 : decode prog_121_method_2_code 146 = .ok (.iconst 1, 1) := by decide +kernel
theorem d10_147 : decode prog_121_method_2_code 147 = .ok (.istore 8, 2) := by decide +kernel
theorem d10_149 : decode prog_121_method_2_code 149 = .ok (.goto 6, 3) := by decide +kernel
theorem d10_152 : decode prog_121_method_2_code 152 = .ok (.iconst 0, 1) := by decide +kernel
theorem d10_153 : decode prog_121_method_2_code 153 = .ok (.istore 7, 2) := by decide +kernel
theorem d10_155 : decode prog_121_method_2_code 155 = .ok (.iinc 13 1, 3) := by decide +kernel
theorem d10_158 : decode prog_121_method_2_code 158 = .ok (.goto (-97), 3) := by decide +kernel
theorem d10_161 : decode prog_121_method_2_code 161 = .ok (.iload 7, 2) := by decide +kernel
theorem d10_163 : decode prog_121_method_2_code 163 = .ok (.ifCond .eq 12, 3) := by decide +kernel
theorem d10_166 : decode prog_121_method_2_code 166 = .ok (.iload 9, 2) := by decide +kernel
theorem d10_168 : decode prog_121_method_2_code 168 = .ok (.ifCond .le 7, 3) := by decide +kernel
theorem d10_171 : decode prog_121_method_2_code 171 = .ok (.iconst 1, 1) := by decide +kernel
theorem d10_172 : decode prog_121_method_2_code 172 = .ok (.goto 4, 3) := by decide +kernel
theorem d10_175 : decode prog_121_method_2_code 175 = .ok (.iconst 0, 1) := by decide +kernel
theorem d10_176 : decode prog_121_method_2_code 176 = .ok (.istore 7, 2) := by decide +kernel
theorem d10_178 : decode prog_121_method_2_code 178 = .ok (.iload 7, 2) := by decide +kernel
theorem d10_180 : decode prog_121_method_2_code 180 = .ok (.ifCond .eq 34, 3) := by decide +kernel
theorem d10_183 : decode prog_121_method_2_code 183 = .ok (.aload_n 0, 1) := by decide +kernel
theorem d10_184 : decode prog_121_method_2_code 184 = .ok (.iload 5, 2) := by decide +kernel
theorem d10_186 : decode prog_121_method_2_code 186 = .ok (.ifCond .eq 17, 3) := by decide +kernel
theorem d10_189 : decode prog_121_method_2_code 189 = .ok (.aload_n 1, 1) := by decide +kernel
theorem d10_190 : decode prog_121_method_2_code 190 = .ok (.iload_n 2, 1) := by decide +kernel
theorem d10_191 : decode prog_121_method_2_code 191 = .ok (.baload, 1) := by decide +kernel
theorem d10_192 : decode prog_121_method_2_code 192 = .ok (.bipush 45, 2) := by decide +kernel
theorem d10_194 : decode prog_121_method_2_code 194 = .ok (.if_icmp .ne 9, 3) := by decide +kernel
theorem d10_197 : decode prog_121_method_2_code 197 = .ok (.lload 11, 2) := by decide +kernel
theorem d10_199 : decode prog_121_method_2_code 199 = .ok (.lneg, 1) := by decide +kernel
theorem d10_200 : decode prog_121_method_2_code 200 = .ok (.goto 5, 3) := by decide +kernel
theorem d10_203 : decode prog_121_method_2_code 203 = .ok (.lload 11, 2) := by decide +kernel
theorem d10_205 : decode prog_121_method_2_code 205 = .ok (.putfield 9, 3) := by decide +kernel
theorem d10_208 : decode prog_121_method_2_code 208 = .ok (.aload_n 0, 1) := by decide +kernel
theorem d10_209 : decode prog_121_method_2_code 209 = .ok (.iload 10, 2) := by decide +kernel
theorem d10_211 : decode prog_121_method_2_code 211 = .ok (.putfield 15, 3) := by decide +kernel
theorem d10_214 : decode prog_121_method_2_code 214 = .ok (.iload 7, 2) := by decide +kernel
theorem d10_216 : decode prog_121_method_2_code 216 = .ok (.ireturn, 1) := by decide +kernel
theorem ef_10 (m : MethodId) (x0 : Addr) (x1 : Addr) (x2 : Int32) (x3 : Int32) (x4 : Int32) : entryFrame m #[(.ref x0), (.ref x1), (.int x2), (.int x3), (.int x4)] 15 = mkF m 0 #[.val (.ref x0), .val (.ref x1), .val (.int x2), .val (.int x3), .val (.int x4), .unset, .unset, .unset, .unset, .unset, .unset, .unset, .unset, .unset, .unset] [] := by first | (simp [entryFrame, mkF, argsToLocals, Value.category]; done) | rfl
set_option maxRecDepth 65536 in
set_option maxHeartbeats 4000000 in
theorem pl_10_turn (a0 : Addr) (a1 : Addr) (p2 : Int32) (p3 : Int32) (p4 : Int32) (ka : ClassId) (b0 : Int32) (b1 : Int32) (b2 : Int32) (b3 : Int32) (d0 : Int64) (ez : Int32) (pa2 : ¬ p2 < 0) (pa3 : p3.toInt ≤ 4) (v3 : Int32) (v4 : Int32) (n : Nat) (y7 : Int32) (y8 : Int32) (y9 : Int32) (y10 : Int32) (y11 : Int64) (y13 : Int32) (v5 : Int32) (v24 : Int32) (v25 : Int32) (v26 : Int32) (v27 : Int32) (v28 : Int64) (v29 : Int32) (hv3 : v3 = (if p2 < p3 then (if (own_at b0 b1 b2 b3 p2) = (43 : Int32) then (1 : Int32) else (if (own_at b0 b1 b2 b3 p2) = (45 : Int32) then (1 : Int32) else (0 : Int32))) else (0 : Int32))) (hv4 : v4 = (if v3 = (0 : Int32) then p2 else (p2 + (1 : Int32)))) (hv5 : v5 = (own_at b0 b1 b2 b3 y13)) (hv24 : v24 = (if v5 < (48 : Int32) then (if v5 = (46 : Int32) then (if p4 = (0 : Int32) then (0 : Int32) else (if y8 = (0 : Int32) then y7 else (0 : Int32))) else (0 : Int32)) else (if (57 : Int32) < v5 then (if v5 = (46 : Int32) then (if p4 = (0 : Int32) then (0 : Int32) else (if y8 = (0 : Int32) then y7 else (0 : Int32))) else (0 : Int32)) else y7))) (hv25 : v25 = (if v5 < (48 : Int32) then (if v5 = (46 : Int32) then (if p4 = (0 : Int32) then y8 else (if y8 = (0 : Int32) then (1 : Int32) else y8)) else y8) else (if (57 : Int32) < v5 then (if v5 = (46 : Int32) then (if p4 = (0 : Int32) then y8 else (if y8 = (0 : Int32) then (1 : Int32) else y8)) else y8) else y8))) (hv26 : v26 = (if v5 < (48 : Int32) then y9 else (if (57 : Int32) < v5 then y9 else (y9 + (1 : Int32))))) (hv27 : v27 = (if v5 < (48 : Int32) then y10 else (if (57 : Int32) < v5 then y10 else (if y8 = (0 : Int32) then y10 else (y10 + (1 : Int32)))))) (hv28 : v28 = (if v5 < (48 : Int32) then y11 else (if (57 : Int32) < v5 then y11 else ((y11 * (10 : Int64)) + ((v5 - (48 : Int32)).toInt64))))) (hv29 : v29 = (y13 + (1 : Int32))) (h7 : ¬ (y7 = (0 : Int32))) (hlt : y13 < p3) : own_run b0 b1 b2 b3 p3 p4 (n + 1) (y7, y8, y9, y10, y11, y13) = own_run b0 b1 b2 b3 p3 p4 n (v24, v25, v26, v27, v28, v29) := by
  rw [own_runS, if_neg h7, if_pos hlt]
  have e : own_step p4 (own_at b0 b1 b2 b3 y13) y7 y8 y9 y10 y11 y13 = (v24, v25, v26, v27, v28, v29) := by
    rw [← hv5]; unfold own_step
    by_cases c1 : v5 < 48 <;> by_cases c2 : (57 : Int32) < v5 <;> by_cases c3 : v5 = 46 <;> by_cases c4 : p4 = 0 <;> by_cases c5 : y8 = 0 <;> simp [hv24, hv25, hv26, hv27, hv28, hv29, c1, c2, c3, c4, c5]
  rw [e]
set_option maxRecDepth 65536 in
set_option maxHeartbeats 4000000 in
theorem pf10_fnn_1 (a0 : Addr) (a1 : Addr) (p2 : Int32) (p3 : Int32) (p4 : Int32) (ka : ClassId) (b0 : Int32) (b1 : Int32) (b2 : Int32) (b3 : Int32) (d0 : Int64) (ez : Int32) (pa2 : ¬ p2 < 0) (pa3 : p3.toInt ≤ 4) (v3 : Int32) (v4 : Int32) (hv3 : v3 = (if p2 < p3 then (if (own_at b0 b1 b2 b3 p2) = (43 : Int32) then (1 : Int32) else (if (own_at b0 b1 b2 b3 p2) = (45 : Int32) then (1 : Int32) else (0 : Int32))) else (0 : Int32))) (hv4 : v4 = (if v3 = (0 : Int32) then p2 else (p2 + (1 : Int32)))) : ¬ v4 < 0 := by
  by_cases hs : v3 = 0
  · rw [hv4, if_pos hs]; exact pa2
  · have lt : p2 < p3 := by
      by_cases z : p2 < p3
      · exact z
      · exact absurd (by rw [hv3, if_neg z]) hs
    exact own_u1 lt pa3 pa2 (hv4.trans (if_neg hs))
set_option maxRecDepth 65536 in
set_option maxHeartbeats 4000000 in
theorem pf10_f4_2 (a0 : Addr) (a1 : Addr) (p2 : Int32) (p3 : Int32) (p4 : Int32) (ka : ClassId) (b0 : Int32) (b1 : Int32) (b2 : Int32) (b3 : Int32) (d0 : Int64) (ez : Int32) (pa2 : ¬ p2 < 0) (pa3 : p3.toInt ≤ 4) (v3 : Int32) (v4 : Int32) (hv3 : v3 = (if p2 < p3 then (if (own_at b0 b1 b2 b3 p2) = (43 : Int32) then (1 : Int32) else (if (own_at b0 b1 b2 b3 p2) = (45 : Int32) then (1 : Int32) else (0 : Int32))) else (0 : Int32))) (hv4 : v4 = (if v3 = (0 : Int32) then p2 else (p2 + (1 : Int32)))) : p3.toInt ≤ v4.toInt + ((4 : Nat) : Int) := by
  have nn : ¬ v4 < 0 := by
    by_cases hs : v3 = 0
    · rw [hv4, if_pos hs]; exact pa2
    · have lt : p2 < p3 := by
        by_cases z : p2 < p3
        · exact z
        · exact absurd (by rw [hv3, if_neg z]) hs
      exact own_u1 lt pa3 pa2 (hv4.trans (if_neg hs))
  rw [Int32.lt_iff_toInt_lt] at nn; simp only [Int32.reduceToInt] at nn; omega
set_option maxRecDepth 65536 in
set_option maxHeartbeats 4000000 in
theorem pl_10_r0 (a0 : Addr) (a1 : Addr) (p2 : Int32) (p3 : Int32) (p4 : Int32) (ka : ClassId) (b0 : Int32) (b1 : Int32) (b2 : Int32) (b3 : Int32) (d0 : Int64) (ez : Int32) (pa2 : ¬ p2 < 0) (pa3 : p3.toInt ≤ 4) (v3 : Int32) (v4 : Int32) (w7 : Int32) (w8 : Int32) (w9 : Int32) (w10 : Int32) (w11 : Int64) (w13 : Int32) (v31 : Int32) (hv3 : v3 = (if p2 < p3 then (if (own_at b0 b1 b2 b3 p2) = (43 : Int32) then (1 : Int32) else (if (own_at b0 b1 b2 b3 p2) = (45 : Int32) then (1 : Int32) else (0 : Int32))) else (0 : Int32))) (hv4 : v4 = (if v3 = (0 : Int32) then p2 else (p2 + (1 : Int32)))) (hv31 : v31 = (if w7 = (0 : Int32) then (0 : Int32) else (if (0 : Int32) < w9 then (1 : Int32) else (0 : Int32)))) (hrw : (w7, w8, w9, w10, w11, w13) = own_run b0 b1 b2 b3 p3 p4 4 ((1 : Int32), (0 : Int32), (0 : Int32), (0 : Int32), (0 : Int64), v4)) (hc180_19 : v31 = (0 : Int32)) : own_read b0 b1 b2 b3 p2 p3 p4 d0 ez v31 d0 ez := by
  refine ⟨v3, v4, w7, w8, w9, w10, w11, w13, hv3, hv4, hrw, hv31, ?_, ?_⟩
  · rw [if_pos hc180_19]
  · rw [if_pos hc180_19]
set_option maxRecDepth 65536 in
set_option maxHeartbeats 4000000 in
theorem pf_from_4 (a0 : Addr) (a1 : Addr) (p2 : Int32) (p3 : Int32) (p4 : Int32) (ka : ClassId) (b0 : Int32) (b1 : Int32) (b2 : Int32) (b3 : Int32) (d0 : Int64) (ez : Int32) (pa2 : ¬ p2 < 0) (pa3 : p3.toInt ≤ 4) (v3 : Int32) (v4 : Int32) (w7 : Int32) (w8 : Int32) (w9 : Int32) (w10 : Int32) (w11 : Int64) (w13 : Int32) (v31 : Int32) (hv3 : v3 = (if p2 < p3 then (if (own_at b0 b1 b2 b3 p2) = (43 : Int32) then (1 : Int32) else (if (own_at b0 b1 b2 b3 p2) = (45 : Int32) then (1 : Int32) else (0 : Int32))) else (0 : Int32))) (hv4 : v4 = (if v3 = (0 : Int32) then p2 else (p2 + (1 : Int32)))) (hv31 : v31 = (if w7 = (0 : Int32) then (0 : Int32) else (if (0 : Int32) < w9 then (1 : Int32) else (0 : Int32)))) (hrw : (w7, w8, w9, w10, w11, w13) = own_run b0 b1 b2 b3 p3 p4 4 ((1 : Int32), (0 : Int32), (0 : Int32), (0 : Int32), (0 : Int64), v4)) (hc180_19 : ¬ (v31 = (0 : Int32))) (hc186_20 : ¬ (v3 = (0 : Int32))) : p2 < p3 := by
  by_cases z : p2 < p3
  · exact z
  · exact absurd (by rw [hv3, if_neg z]) hc186_20
set_option maxRecDepth 65536 in
set_option maxHeartbeats 4000000 in
theorem pl_10_r1 (a0 : Addr) (a1 : Addr) (p2 : Int32) (p3 : Int32) (p4 : Int32) (ka : ClassId) (b0 : Int32) (b1 : Int32) (b2 : Int32) (b3 : Int32) (d0 : Int64) (ez : Int32) (pa2 : ¬ p2 < 0) (pa3 : p3.toInt ≤ 4) (v3 : Int32) (v4 : Int32) (w7 : Int32) (w8 : Int32) (w9 : Int32) (w10 : Int32) (w11 : Int64) (w13 : Int32) (v31 : Int32) (v33 : Int64) (hv3 : v3 = (if p2 < p3 then (if (own_at b0 b1 b2 b3 p2) = (43 : Int32) then (1 : Int32) else (if (own_at b0 b1 b2 b3 p2) = (45 : Int32) then (1 : Int32) else (0 : Int32))) else (0 : Int32))) (hv4 : v4 = (if v3 = (0 : Int32) then p2 else (p2 + (1 : Int32)))) (hv31 : v31 = (if w7 = (0 : Int32) then (0 : Int32) else (if (0 : Int32) < w9 then (1 : Int32) else (0 : Int32)))) (hv33 : v33 = (if v3 = (0 : Int32) then w11 else (if (own_at b0 b1 b2 b3 p2) = (45 : Int32) then (-w11) else w11))) (hrw : (w7, w8, w9, w10, w11, w13) = own_run b0 b1 b2 b3 p3 p4 4 ((1 : Int32), (0 : Int32), (0 : Int32), (0 : Int32), (0 : Int64), v4)) (hc180_19 : ¬ (v31 = (0 : Int32))) : own_read b0 b1 b2 b3 p2 p3 p4 d0 ez v31 v33 w10 := by
  refine ⟨v3, v4, w7, w8, w9, w10, w11, w13, hv3, hv4, hrw, hv31, ?_, ?_⟩
  · rw [if_neg hc180_19]; exact hv33
  · rw [if_neg hc180_19]
def Q10 (Z : State) (a0 : Addr) (a1 : Addr) (p2 : Int32) (p3 : Int32) (p4 : Int32) (ka : ClassId) (b0 : Int32) (b1 : Int32) (b2 : Int32) (b3 : Int32) (d0 : Int64) (ez : Int32) (h0 : Heap) (n0 : Nat) (v : Option Value) (h : Heap) (L : List Loc) : Prop := ∃ r : Int32, ∃ dg : Int64, ∃ dc : Int32, v = some (.int r) ∧ Fr n0 L ∧ Keep h0 h [a0] ∧ Fld Z h a0 "com/example/amortine/amortine/cli/Options$Digits" "digits" "J" (.long dg) ∧ Fld Z h a0 "com/example/amortine/amortine/cli/Options$Digits" "decimals" "I" (.int dc) ∧ (own_read b0 b1 b2 b3 p2 p3 p4 d0 ez r dg dc) ∧ True
set_option maxRecDepth 65536 in
set_option maxHeartbeats 40000000 in
theorem rm10 (l : Launch) (Z : State) (aw : Array Value) (hw : ∀ d ∈ tables_1, d.before aw Z = true) (ws : List Jvm.Cond) (a0 : Addr) (a1 : Addr) (p2 : Int32) (p3 : Int32) (p4 : Int32) (ka : ClassId) (b0 : Int32) (b1 : Int32) (b2 : Int32) (b3 : Int32) (d0 : Int64) (ez : Int32) (h0 : Heap) (n0 : Nat) (Z0 : n0 ≤ h0.size) (r0 : Exa Z h0 a0 "com/example/amortine/amortine/cli/Options$Digits") (r1 : n0 ≤ a0) (r2 : Fld Z h0 a0 "com/example/amortine/amortine/cli/Options$Digits" "digits" "J" (.long d0)) (r3 : Fld Z h0 a0 "com/example/amortine/amortine/cli/Options$Digits" "decimals" "I" (.int ez)) (r4 : Arv Z h0 a1 ka .byte (4 : Int32) [(.int b0), (.int b1), (.int b2), (.int b3)] (.int (0 : Int32))) (r5 : a0 ≠ a1) (pa2 : (¬ p2 < 0)) (pa3 : (p3.toInt ≤ 4)) :
    MetFree l (⟨"com/example/amortine/amortine/cli/Options$Digits", "read", "([BIIZ)Z"⟩ : MethodName) (head1 (Jvm.Cond.code (⟨"com/example/amortine/amortine/cli/Options$Digits", "read", "([BIIZ)Z"⟩ : MethodName) prog_121_method_2_code 15 (some .boolean) :: ws) ({ frames := 0, cells := 0, slots := 0, locals := 0 } : Room)) (fun a U => a = #[(.ref a0), (.ref a1), (.int p2), (.int p3), (.int p4)] ∧ Z.Warmed39 U.vm ∧ U.heap = h0) (fun _ _ _ _ _ => True) (fun _ U o U' => ∃ v L, o = .returned v ∧ Q10 Z a0 a1 p2 p3 p4 ka b0 b1 b2 b3 d0 ez h0 n0 v U'.heap L ∧ FrameEnd U o U' L ({ frames := 0, cells := 0, slots := 0, locals := 0 } : Room).cells ({ frames := 0, cells := 0, slots := 0, locals := 0 } : Room).slots) := by
  refine MetFree.of_bodySF (plainFor_of_name pn_8) hisR ?_
  intro p e s m args below meth c s₁ Bd hml0 hP hK
  obtain ⟨rfl, hZ, hh⟩ := hP
  have hx := Bd.exec
  have hby := Bd.bytes
  have hml : c.maxLocals = 15 := hml0
  have hown : s.vm.findClass "com/example/amortine/amortine/cli/Options$Digits" = some m.cls := findClass_of_methodNamed Bd.named
  have hnm := (name_of_methodNamed Bd.named Bd.method).1
  have X0 : Stand p l e ({ frames := 0, cells := 0, slots := 0, locals := 0 } : Room) s m #[(.ref a0), (.ref a1), (.int p2), (.int p3), (.int p4)] below meth c s₁ [] 0 0 := Stand.of_body Bd
  have e0 : s₁.heap = h0 := by rw [← hh, Bd.state]; rfl
  have N0 := Fr.nil n0
  obtain ⟨A0, hA0⟩ : ∃ A0, A0 = s₁.setTop (entryFrame m #[(.ref a0), (.ref a1), (.int p2), (.int p3), (.int p4)] 15) := ⟨_, rfl⟩
  have go0 : Go p e below A0 (s₁.setTop (mkF m 0 #[.val (.ref a0), .val (.ref a1), .val (.int p2), .val (.int p3), .val (.int p4), .unset, .unset, .unset, .unset, .unset, .unset, .unset, .unset, .unset, .unset] [])) := fun t k => by rw [hA0]; exact castTop (ef_10 m a0 a1 p2 p3 p4) k
  have go1 : Go p e below A0 (s₁.setTop (mkF m 2 #[.val (.ref a0), .val (.ref a1), .val (.int p2), .val (.int p3), .val (.int p4), .unset, .unset, .unset, .unset, .unset, .unset, .unset, .unset, .unset, .unset] [(.int p2), (.int p3)])) := by
    intro t k
    refine go0 t ?_
    refine o_iloadN X0 hx hby d10_0 1 rfl rfl ?_
    refine o_iloadN X0 hx hby d10_1 2 rfl rfl ?_
    exact k
  obtain ⟨v3, hv3, go10⟩ : ∃ (v3 : Int32), v3 = (if p2 < p3 then (if (own_at b0 b1 b2 b3 p2) = (43 : Int32) then (1 : Int32) else (if (own_at b0 b1 b2 b3 p2) = (45 : Int32) then (1 : Int32) else (0 : Int32))) else (0 : Int32)) ∧ Go p e below A0 (s₁.setTop (mkF m 26 #[.val (.ref a0), .val (.ref a1), .val (.int p2), .val (.int p3), .val (.int p4), .unset, .unset, .unset, .unset, .unset, .unset, .unset, .unset, .unset, .unset] [(.int v3)])) := by
    by_cases hc2_1 : p2 < p3
    · obtain ⟨cl2, Ar2, q2, S2, M2, H2, G2⟩ := id r4
      have hin2 : ¬ (p2 < 0 ∨ cl2.slots.size ≤ (p2).toNatClampNeg) := inb_of S2 (own_j1 hc2_1 pa3 pa2)
      have hat2 : cl2.slots[(p2).toNatClampNeg]? = some (.int (own_at b0 b1 b2 b3 p2)) := H2.at hin2 (own_get4 (own_j1 hc2_1 pa3 pa2))
      have go2 : Go p e below A0 (s₁.setTop (mkF m 10 #[.val (.ref a0), .val (.ref a1), .val (.int p2), .val (.int p3), .val (.int p4), .unset, .unset, .unset, .unset, .unset, .unset, .unset, .unset, .unset, .unset] [(.int (43 : Int32)), (.int (own_at b0 b1 b2 b3 p2))])) := by
        intro t k
        refine go1 t ?_
        refine o_icmpN X0 hx hby d10_2 5 rfl (tlt hc2_1).2.2.2 ?_
        refine o_aloadN X0 hx hby d10_5 6 rfl rfl rfl ?_
        refine o_iloadN X0 hx hby d10_6 7 rfl rfl ?_
        refine X0.baloadBytes hx (j := p2) (v := (.int (own_at b0 b1 b2 b3 p2))) (by rw [e0]; exact Ar2.1) (State.isArrayOf_alike hZ.alike Ar2.2.1) Ar2.2.2 hin2 hat2 (g := (mkF m 7 #[.val (.ref a0), .val (.ref a1), .val (.int p2), .val (.int p3), .val (.int p4), .unset, .unset, .unset, .unset, .unset, .unset, .unset, .unset, .unset, .unset] [(.int p2), (.ref a1)])) rfl rfl (hb hby d10_7) _ ?_
        show Steps p.tables e below (s₁.setTop (mkF m 8 #[.val (.ref a0), .val (.ref a1), .val (.int p2), .val (.int p3), .val (.int p4), .unset, .unset, .unset, .unset, .unset, .unset, .unset, .unset, .unset, .unset] [(.int (own_at b0 b1 b2 b3 p2))])) _
        refine o_bipush X0 hx hby d10_8 10 rfl (v := (43 : Int32)) rfl ?_
        exact k
      obtain ⟨v2, hv2, go8⟩ : ∃ (v2 : Int32), v2 = (if (own_at b0 b1 b2 b3 p2) = (43 : Int32) then (1 : Int32) else (if (own_at b0 b1 b2 b3 p2) = (45 : Int32) then (1 : Int32) else (0 : Int32))) ∧ Go p e below A0 (s₁.setTop (mkF m 26 #[.val (.ref a0), .val (.ref a1), .val (.int p2), .val (.int p3), .val (.int p4), .unset, .unset, .unset, .unset, .unset, .unset, .unset, .unset, .unset, .unset] [(.int v2)])) := by
        by_cases hc10_3 : (own_at b0 b1 b2 b3 p2) = (43 : Int32)
        · have go3 : Go p e below A0 (s₁.setTop (mkF m 26 #[.val (.ref a0), .val (.ref a1), .val (.int p2), .val (.int p3), .val (.int p4), .unset, .unset, .unset, .unset, .unset, .unset, .unset, .unset, .unset, .unset] [(.int (1 : Int32))])) := by
            intro t k
            refine go2 t ?_
            refine o_icmpY X0 hx hby d10_10 21 rfl (teq hc10_3).1 ?_
            refine o_iconst X0 hx hby d10_21 22 rfl (v := (1 : Int32)) rfl ?_
            refine o_goto X0 hx hby d10_22 26 rfl ?_
            exact k
          exact ⟨(1 : Int32), (if_pos hc10_3).symm, go3⟩
        · obtain ⟨cl4, Ar4, q4, S4, M4, H4, G4⟩ := id r4
          have hin4 : ¬ (p2 < 0 ∨ cl4.slots.size ≤ (p2).toNatClampNeg) := inb_of S4 (own_j1 hc2_1 pa3 pa2)
          have hat4 : cl4.slots[(p2).toNatClampNeg]? = some (.int (own_at b0 b1 b2 b3 p2)) := H4.at hin4 (own_get4 (own_j1 hc2_1 pa3 pa2))
          have go4 : Go p e below A0 (s₁.setTop (mkF m 18 #[.val (.ref a0), .val (.ref a1), .val (.int p2), .val (.int p3), .val (.int p4), .unset, .unset, .unset, .unset, .unset, .unset, .unset, .unset, .unset, .unset] [(.int (45 : Int32)), (.int (own_at b0 b1 b2 b3 p2))])) := by
            intro t k
            refine go2 t ?_
            refine o_icmpN X0 hx hby d10_10 13 rfl (feq hc10_3).1 ?_
            refine o_aloadN X0 hx hby d10_13 14 rfl rfl rfl ?_
            refine o_iloadN X0 hx hby d10_14 15 rfl rfl ?_
            refine X0.baloadBytes hx (j := p2) (v := (.int (own_at b0 b1 b2 b3 p2))) (by rw [e0]; exact Ar4.1) (State.isArrayOf_alike hZ.alike Ar4.2.1) Ar4.2.2 hin4 hat4 (g := (mkF m 15 #[.val (.ref a0), .val (.ref a1), .val (.int p2), .val (.int p3), .val (.int p4), .unset, .unset, .unset, .unset, .unset, .unset, .unset, .unset, .unset, .unset] [(.int p2), (.ref a1)])) rfl rfl (hb hby d10_15) _ ?_
            show Steps p.tables e below (s₁.setTop (mkF m 16 #[.val (.ref a0), .val (.ref a1), .val (.int p2), .val (.int p3), .val (.int p4), .unset, .unset, .unset, .unset, .unset, .unset, .unset, .unset, .unset, .unset] [(.int (own_at b0 b1 b2 b3 p2))])) _
            refine o_bipush X0 hx hby d10_16 18 rfl (v := (45 : Int32)) rfl ?_
            exact k
          obtain ⟨v1, hv1, go7⟩ : ∃ (v1 : Int32), v1 = (if (own_at b0 b1 b2 b3 p2) = (45 : Int32) then (1 : Int32) else (0 : Int32)) ∧ Go p e below A0 (s₁.setTop (mkF m 26 #[.val (.ref a0), .val (.ref a1), .val (.int p2), .val (.int p3), .val (.int p4), .unset, .unset, .unset, .unset, .unset, .unset, .unset, .unset, .unset, .unset] [(.int v1)])) := by
            by_cases hc18_5 : (own_at b0 b1 b2 b3 p2) = (45 : Int32)
            · have go5 : Go p e below A0 (s₁.setTop (mkF m 26 #[.val (.ref a0), .val (.ref a1), .val (.int p2), .val (.int p3), .val (.int p4), .unset, .unset, .unset, .unset, .unset, .unset, .unset, .unset, .unset, .unset] [(.int (1 : Int32))])) := by
                intro t k
                refine go4 t ?_
                refine o_icmpN X0 hx hby d10_18 21 rfl (teq hc18_5).2 ?_
                refine o_iconst X0 hx hby d10_21 22 rfl (v := (1 : Int32)) rfl ?_
                refine o_goto X0 hx hby d10_22 26 rfl ?_
                exact k
              exact ⟨(1 : Int32), (if_pos hc18_5).symm, go5⟩
            · have go6 : Go p e below A0 (s₁.setTop (mkF m 26 #[.val (.ref a0), .val (.ref a1), .val (.int p2), .val (.int p3), .val (.int p4), .unset, .unset, .unset, .unset, .unset, .unset, .unset, .unset, .unset, .unset] [(.int (0 : Int32))])) := by
                intro t k
                refine go4 t ?_
                refine o_icmpY X0 hx hby d10_18 25 rfl (feq hc18_5).2 ?_
                refine o_iconst X0 hx hby d10_25 26 rfl (v := (0 : Int32)) rfl ?_
                exact k
              exact ⟨(0 : Int32), (if_neg hc18_5).symm, go6⟩
          rw [hv1] at go7
          exact ⟨(if (own_at b0 b1 b2 b3 p2) = (45 : Int32) then (1 : Int32) else (0 : Int32)), (if_neg hc10_3).symm, go7⟩
      rw [hv2] at go8
      exact ⟨(if (own_at b0 b1 b2 b3 p2) = (43 : Int32) then (1 : Int32) else (if (own_at b0 b1 b2 b3 p2) = (45 : Int32) then (1 : Int32) else (0 : Int32))), (if_pos hc2_1).symm, go8⟩
    · have go9 : Go p e below A0 (s₁.setTop (mkF m 26 #[.val (.ref a0), .val (.ref a1), .val (.int p2), .val (.int p3), .val (.int p4), .unset, .unset, .unset, .unset, .unset, .unset, .unset, .unset, .unset, .unset] [(.int (0 : Int32))])) := by
        intro t k
        refine go1 t ?_
        refine o_icmpY X0 hx hby d10_2 25 rfl (flt hc2_1).2.2.2 ?_
        refine o_iconst X0 hx hby d10_25 26 rfl (v := (0 : Int32)) rfl ?_
        exact k
      exact ⟨(0 : Int32), (if_neg hc2_1).symm, go9⟩
  have go11 : Go p e below A0 (s₁.setTop (mkF m 28 #[.val (.ref a0), .val (.ref a1), .val (.int p2), .val (.int p3), .val (.int p4), .val (.int v3), .unset, .unset, .unset, .unset, .unset, .unset, .unset, .unset, .unset] [])) := by
    intro t k
    refine go10 t ?_
    refine o_istore X0 hx hby d10_26 28 rfl (l' := #[.val (.ref a0), .val (.ref a1), .val (.int p2), .val (.int p3), .val (.int p4), .val (.int v3), .unset, .unset, .unset, .unset, .unset, .unset, .unset, .unset, .unset]) rfl ?_
    exact k
  have go12 : Go p e below A0 (s₁.setTop (mkF m 30 #[.val (.ref a0), .val (.ref a1), .val (.int p2), .val (.int p3), .val (.int p4), .val (.int v3), .unset, .unset, .unset, .unset, .unset, .unset, .unset, .unset, .unset] [(.int v3)])) := by
    intro t k
    refine go11 t ?_
    refine o_iload X0 hx hby d10_28 30 rfl rfl ?_
    exact k
  obtain ⟨v4, hv4, go15⟩ : ∃ (v4 : Int32), v4 = (if v3 = (0 : Int32) then p2 else (p2 + (1 : Int32))) ∧ Go p e below A0 (s₁.setTop (mkF m 40 #[.val (.ref a0), .val (.ref a1), .val (.int p2), .val (.int p3), .val (.int p4), .val (.int v3), .unset, .unset, .unset, .unset, .unset, .unset, .unset, .unset, .unset] [(.int v4)])) := by
    by_cases hc30_6 : v3 = (0 : Int32)
    · have go13 : Go p e below A0 (s₁.setTop (mkF m 40 #[.val (.ref a0), .val (.ref a1), .val (.int p2), .val (.int p3), .val (.int p4), .val (.int v3), .unset, .unset, .unset, .unset, .unset, .unset, .unset, .unset, .unset] [(.int p2)])) := by
        intro t k
        refine go12 t ?_
        refine o_ifY X0 hx hby d10_30 39 rfl (teq hc30_6).1 ?_
        refine o_iloadN X0 hx hby d10_39 40 rfl rfl ?_
        exact k
      exact ⟨p2, (if_pos hc30_6).symm, go13⟩
    · have go14 : Go p e below A0 (s₁.setTop (mkF m 40 #[.val (.ref a0), .val (.ref a1), .val (.int p2), .val (.int p3), .val (.int p4), .val (.int v3), .unset, .unset, .unset, .unset, .unset, .unset, .unset, .unset, .unset] [(.int (p2 + (1 : Int32)))])) := by
        intro t k
        refine go12 t ?_
        refine o_ifN X0 hx hby d10_30 33 rfl (feq hc30_6).1 ?_
        refine o_iloadN X0 hx hby d10_33 34 rfl rfl ?_
        refine o_iconst X0 hx hby d10_34 35 rfl (v := (1 : Int32)) rfl ?_
        refine o_iadd X0 hx hby d10_35 36 rfl ?_
        refine o_goto X0 hx hby d10_36 40 rfl ?_
        exact k
      exact ⟨(p2 + (1 : Int32)), (if_neg hc30_6).symm, go14⟩
  have go16 : Go p e below A0 (s₁.setTop (mkF m 42 #[.val (.ref a0), .val (.ref a1), .val (.int p2), .val (.int p3), .val (.int p4), .val (.int v3), .val (.int v4), .unset, .unset, .unset, .unset, .unset, .unset, .unset, .unset] [])) := by
    intro t k
    refine go15 t ?_
    refine o_istore X0 hx hby d10_40 42 rfl (l' := #[.val (.ref a0), .val (.ref a1), .val (.int p2), .val (.int p3), .val (.int p4), .val (.int v3), .val (.int v4), .unset, .unset, .unset, .unset, .unset, .unset, .unset, .unset]) rfl ?_
    exact k
  have go17 : Go p e below A0 (s₁.setTop (mkF m 45 #[.val (.ref a0), .val (.ref a1), .val (.int p2), .val (.int p3), .val (.int p4), .val (.int v3), .val (.int v4), .val (.int (1 : Int32)), .unset, .unset, .unset, .unset, .unset, .unset, .unset] [])) := by
    intro t k
    refine go16 t ?_
    refine o_iconst X0 hx hby d10_42 43 rfl (v := (1 : Int32)) rfl ?_
    refine o_istore X0 hx hby d10_43 45 rfl (l' := #[.val (.ref a0), .val (.ref a1), .val (.int p2), .val (.int p3), .val (.int p4), .val (.int v3), .val (.int v4), .val (.int (1 : Int32)), .unset, .unset, .unset, .unset, .unset, .unset, .unset]) rfl ?_
    exact k
  have go18 : Go p e below A0 (s₁.setTop (mkF m 48 #[.val (.ref a0), .val (.ref a1), .val (.int p2), .val (.int p3), .val (.int p4), .val (.int v3), .val (.int v4), .val (.int (1 : Int32)), .val (.int (0 : Int32)), .unset, .unset, .unset, .unset, .unset, .unset] [])) := by
    intro t k
    refine go17 t ?_
    refine o_iconst X0 hx hby d10_45 46 rfl (v := (0 : Int32)) rfl ?_
    refine o_istore X0 hx hby d10_46 48 rfl (l' := #[.val (.ref a0), .val (.ref a1), .val (.int p2), .val (.int p3), .val (.int p4), .val (.int v3), .val (.int v4), .val (.int (1 : Int32)), .val (.int (0 : Int32)), .unset, .unset, .unset, .unset, .unset, .unset]) rfl ?_
    exact k
  have go19 : Go p e below A0 (s₁.setTop (mkF m 51 #[.val (.ref a0), .val (.ref a1), .val (.int p2), .val (.int p3), .val (.int p4), .val (.int v3), .val (.int v4), .val (.int (1 : Int32)), .val (.int (0 : Int32)), .val (.int (0 : Int32)), .unset, .unset, .unset, .unset, .unset] [])) := by
    intro t k
    refine go18 t ?_
    refine o_iconst X0 hx hby d10_48 49 rfl (v := (0 : Int32)) rfl ?_
    refine o_istore X0 hx hby d10_49 51 rfl (l' := #[.val (.ref a0), .val (.ref a1), .val (.int p2), .val (.int p3), .val (.int p4), .val (.int v3), .val (.int v4), .val (.int (1 : Int32)), .val (.int (0 : Int32)), .val (.int (0 : Int32)), .unset, .unset, .unset, .unset, .unset]) rfl ?_
    exact k
  have go20 : Go p e below A0 (s₁.setTop (mkF m 54 #[.val (.ref a0), .val (.ref a1), .val (.int p2), .val (.int p3), .val (.int p4), .val (.int v3), .val (.int v4), .val (.int (1 : Int32)), .val (.int (0 : Int32)), .val (.int (0 : Int32)), .val (.int (0 : Int32)), .unset, .unset, .unset, .unset] [])) := by
    intro t k
    refine go19 t ?_
    refine o_iconst X0 hx hby d10_51 52 rfl (v := (0 : Int32)) rfl ?_
    refine o_istore X0 hx hby d10_52 54 rfl (l' := #[.val (.ref a0), .val (.ref a1), .val (.int p2), .val (.int p3), .val (.int p4), .val (.int v3), .val (.int v4), .val (.int (1 : Int32)), .val (.int (0 : Int32)), .val (.int (0 : Int32)), .val (.int (0 : Int32)), .unset, .unset, .unset, .unset]) rfl ?_
    exact k
  have go21 : Go p e below A0 (s₁.setTop (mkF m 57 #[.val (.ref a0), .val (.ref a1), .val (.int p2), .val (.int p3), .val (.int p4), .val (.int v3), .val (.int v4), .val (.int (1 : Int32)), .val (.int (0 : Int32)), .val (.int (0 : Int32)), .val (.int (0 : Int32)), .val (.long (0 : Int64)), .second, .unset, .unset] [])) := by
    intro t k
    refine go20 t ?_
    refine o_lconst X0 hx hby d10_54 55 rfl (v := (0 : Int64)) rfl ?_
    refine o_lstore X0 hx hby d10_55 57 rfl (l' := #[.val (.ref a0), .val (.ref a1), .val (.int p2), .val (.int p3), .val (.int p4), .val (.int v3), .val (.int v4), .val (.int (1 : Int32)), .val (.int (0 : Int32)), .val (.int (0 : Int32)), .val (.int (0 : Int32)), .val (.long (0 : Int64)), .second, .unset, .unset]) rfl ?_
    exact k
  have go22 : Go p e below A0 (s₁.setTop (mkF m 61 #[.val (.ref a0), .val (.ref a1), .val (.int p2), .val (.int p3), .val (.int p4), .val (.int v3), .val (.int v4), .val (.int (1 : Int32)), .val (.int (0 : Int32)), .val (.int (0 : Int32)), .val (.int (0 : Int32)), .val (.long (0 : Int64)), .second, .val (.int v4), .unset] [])) := by
    intro t k
    refine go21 t ?_
    refine o_iload X0 hx hby d10_57 59 rfl rfl ?_
    refine o_istore X0 hx hby d10_59 61 rfl (l' := #[.val (.ref a0), .val (.ref a1), .val (.int p2), .val (.int p3), .val (.int p4), .val (.int v3), .val (.int v4), .val (.int (1 : Int32)), .val (.int (0 : Int32)), .val (.int (0 : Int32)), .val (.int (0 : Int32)), .val (.long (0 : Int64)), .second, .val (.int v4), .unset]) rfl ?_
    exact k
  have loop : ∀ (n : Nat) (y7 : Int32) (y8 : Int32) (y9 : Int32) (y10 : Int32) (y11 : Int64) (y13 : Int32) (x14 : Slot), (x14 = .unset ∨ ∃ y : Int32, x14 = .val (.int y)) → ¬ y13 < 0 → p3.toInt ≤ y13.toInt + (n : Int) → Go p e below A0 (s₁.setTop (mkF m 61 #[.val (.ref a0), .val (.ref a1), .val (.int p2), .val (.int p3), .val (.int p4), .val (.int v3), .val (.int v4), .val (.int y7), .val (.int y8), .val (.int y9), .val (.int y10), .val (.long y11), .second, .val (.int y13), x14] [])) → ∃ (w7 : Int32) (w8 : Int32) (w9 : Int32) (w10 : Int32) (w11 : Int64) (w13 : Int32) (w14 : Slot), (w7, w8, w9, w10, w11, w13) = own_run b0 b1 b2 b3 p3 p4 n (y7, y8, y9, y10, y11, y13) ∧ Go p e below A0 (s₁.setTop (mkF m 161 #[.val (.ref a0), .val (.ref a1), .val (.int p2), .val (.int p3), .val (.int p4), .val (.int v3), .val (.int v4), .val (.int w7), .val (.int w8), .val (.int w9), .val (.int w10), .val (.long w11), .second, .val (.int w13), w14] [])) := by
    intro n; induction n with
    | zero => 
      intro y7 y8 y9 y10 y11 y13 x14 h14 hp hn gl
      by_cases h7 : y7 = (0 : Int32)
      · have go23 : Go p e below A0 (s₁.setTop (mkF m 161 #[.val (.ref a0), .val (.ref a1), .val (.int p2), .val (.int p3), .val (.int p4), .val (.int v3), .val (.int v4), .val (.int y7), .val (.int y8), .val (.int y9), .val (.int y10), .val (.long y11), .second, .val (.int y13), x14] [])) := by
          intro t k
          refine gl t ?_
          refine o_iload X0 hx hby d10_61 63 rfl rfl ?_
          refine o_ifY X0 hx hby d10_63 161 rfl (teq h7).1 ?_
          exact k
        exact ⟨y7, y8, y9, y10, y11, y13, x14, rfl, go23⟩
      · have hlt : ¬ y13 < p3 := own_l0 hn
        have go24 : Go p e below A0 (s₁.setTop (mkF m 161 #[.val (.ref a0), .val (.ref a1), .val (.int p2), .val (.int p3), .val (.int p4), .val (.int v3), .val (.int v4), .val (.int y7), .val (.int y8), .val (.int y9), .val (.int y10), .val (.long y11), .second, .val (.int y13), x14] [])) := by
          intro t k
          refine gl t ?_
          refine o_iload X0 hx hby d10_61 63 rfl rfl ?_
          refine o_ifN X0 hx hby d10_63 66 rfl (feq h7).1 ?_
          refine o_iload X0 hx hby d10_66 68 rfl rfl ?_
          refine o_iloadN X0 hx hby d10_68 69 rfl rfl ?_
          refine o_icmpY X0 hx hby d10_69 161 rfl (flt hlt).2.1 ?_
          exact k
        exact ⟨y7, y8, y9, y10, y11, y13, x14, rfl, go24⟩
    | succ n ih => 
      intro y7 y8 y9 y10 y11 y13 x14 h14 hp hn gl
      by_cases h7 : y7 = (0 : Int32)
      · have go25 : Go p e below A0 (s₁.setTop (mkF m 161 #[.val (.ref a0), .val (.ref a1), .val (.int p2), .val (.int p3), .val (.int p4), .val (.int v3), .val (.int v4), .val (.int y7), .val (.int y8), .val (.int y9), .val (.int y10), .val (.long y11), .second, .val (.int y13), x14] [])) := by
          intro t k
          refine gl t ?_
          refine o_iload X0 hx hby d10_61 63 rfl rfl ?_
          refine o_ifY X0 hx hby d10_63 161 rfl (teq h7).1 ?_
          exact k
        exact ⟨y7, y8, y9, y10, y11, y13, x14, (own_runS0 (by first | exact Or.inl h7 | exact Or.inr hlt)), go25⟩
      · by_cases hlt : y13 < p3
        · obtain ⟨cl7, Ar7, q7, S7, M7, H7, G7⟩ := id r4
          have hin7 : ¬ (y13 < 0 ∨ cl7.slots.size ≤ (y13).toNatClampNeg) := inb_of S7 (own_j1 hlt pa3 hp)
          have hat7 : cl7.slots[(y13).toNatClampNeg]? = some (.int (own_at b0 b1 b2 b3 y13)) := H7.at hin7 (own_get4 (own_j1 hlt pa3 hp))
          have go26 : Go p e below A0 (s₁.setTop (mkF m 78 #[.val (.ref a0), .val (.ref a1), .val (.int p2), .val (.int p3), .val (.int p4), .val (.int v3), .val (.int v4), .val (.int y7), .val (.int y8), .val (.int y9), .val (.int y10), .val (.long y11), .second, .val (.int y13), .val (.int (own_at b0 b1 b2 b3 y13))] [])) := by
            intro t k
            refine gl t ?_
            refine o_iload X0 hx hby d10_61 63 rfl rfl ?_
            refine o_ifN X0 hx hby d10_63 66 rfl (feq h7).1 ?_
            refine o_iload X0 hx hby d10_66 68 rfl rfl ?_
            refine o_iloadN X0 hx hby d10_68 69 rfl rfl ?_
            refine o_icmpN X0 hx hby d10_69 72 rfl (tlt hlt).2.1 ?_
            refine o_aloadN X0 hx hby d10_72 73 rfl rfl rfl ?_
            refine o_iload X0 hx hby d10_73 75 rfl rfl ?_
            refine X0.baloadBytes hx (j := y13) (v := (.int (own_at b0 b1 b2 b3 y13))) (by rw [e0]; exact Ar7.1) (State.isArrayOf_alike hZ.alike Ar7.2.1) Ar7.2.2 hin7 hat7 (g := (mkF m 75 #[.val (.ref a0), .val (.ref a1), .val (.int p2), .val (.int p3), .val (.int p4), .val (.int v3), .val (.int v4), .val (.int y7), .val (.int y8), .val (.int y9), .val (.int y10), .val (.long y11), .second, .val (.int y13), x14] [(.int y13), (.ref a1)])) rfl rfl (hb hby d10_75) _ ?_
            show Steps p.tables e below (s₁.setTop (mkF m 76 #[.val (.ref a0), .val (.ref a1), .val (.int p2), .val (.int p3), .val (.int p4), .val (.int v3), .val (.int v4), .val (.int y7), .val (.int y8), .val (.int y9), .val (.int y10), .val (.long y11), .second, .val (.int y13), x14] [(.int (own_at b0 b1 b2 b3 y13))])) _
            refine o_istore X0 hx hby d10_76 78 rfl (l' := #[.val (.ref a0), .val (.ref a1), .val (.int p2), .val (.int p3), .val (.int p4), .val (.int v3), .val (.int v4), .val (.int y7), .val (.int y8), .val (.int y9), .val (.int y10), .val (.long y11), .second, .val (.int y13), .val (.int (own_at b0 b1 b2 b3 y13))]) (by rcases h14 with rfl | ⟨y, rfl⟩ <;> rfl) ?_
            exact k
          obtain ⟨v5, hv5, go27⟩ : ∃ v5 : Int32, v5 = (own_at b0 b1 b2 b3 y13) ∧ Go p e below A0 (s₁.setTop (mkF m 78 #[.val (.ref a0), .val (.ref a1), .val (.int p2), .val (.int p3), .val (.int p4), .val (.int v3), .val (.int v4), .val (.int y7), .val (.int y8), .val (.int y9), .val (.int y10), .val (.long y11), .second, .val (.int y13), .val (.int v5)] [])) := ⟨_, rfl, go26⟩
          have go28 : Go p e below A0 (s₁.setTop (mkF m 82 #[.val (.ref a0), .val (.ref a1), .val (.int p2), .val (.int p3), .val (.int p4), .val (.int v3), .val (.int v4), .val (.int y7), .val (.int y8), .val (.int y9), .val (.int y10), .val (.long y11), .second, .val (.int y13), .val (.int v5)] [(.int (48 : Int32)), (.int v5)])) := by
            intro t k
            refine go27 t ?_
            refine o_iload X0 hx hby d10_78 80 rfl rfl ?_
            refine o_bipush X0 hx hby d10_80 82 rfl (v := (48 : Int32)) rfl ?_
            exact k
          obtain ⟨v24, v25, v26, v27, v28, hv24, hv25, hv26, hv27, hv28, go56⟩ : ∃ (v24 : Int32) (v25 : Int32) (v26 : Int32) (v27 : Int32) (v28 : Int64), v24 = (if v5 < (48 : Int32) then (if v5 = (46 : Int32) then (if p4 = (0 : Int32) then (0 : Int32) else (if y8 = (0 : Int32) then y7 else (0 : Int32))) else (0 : Int32)) else (if (57 : Int32) < v5 then (if v5 = (46 : Int32) then (if p4 = (0 : Int32) then (0 : Int32) else (if y8 = (0 : Int32) then y7 else (0 : Int32))) else (0 : Int32)) else y7)) ∧ v25 = (if v5 < (48 : Int32) then (if v5 = (46 : Int32) then (if p4 = (0 : Int32) then y8 else (if y8 = (0 : Int32) then (1 : Int32) else y8)) else y8) else (if (57 : Int32) < v5 then (if v5 = (46 : Int32) then (if p4 = (0 : Int32) then y8 else (if y8 = (0 : Int32) then (1 : Int32) else y8)) else y8) else y8)) ∧ v26 = (if v5 < (48 : Int32) then y9 else (if (57 : Int32) < v5 then y9 else (y9 + (1 : Int32)))) ∧ v27 = (if v5 < (48 : Int32) then y10 else (if (57 : Int32) < v5 then y10 else (if y8 = (0 : Int32) then y10 else (y10 + (1 : Int32))))) ∧ v28 = (if v5 < (48 : Int32) then y11 else (if (57 : Int32) < v5 then y11 else ((y11 * (10 : Int64)) + ((v5 - (48 : Int32)).toInt64)))) ∧ Go p e below A0 (s₁.setTop (mkF m 155 #[.val (.ref a0), .val (.ref a1), .val (.int p2), .val (.int p3), .val (.int p4), .val (.int v3), .val (.int v4), .val (.int v24), .val (.int v25), .val (.int v26), .val (.int v27), .val (.long v28), .second, .val (.int y13), .val (.int v5)] [])) := by
            by_cases hc82_8 : v5 < (48 : Int32)
            · have go29 : Go p e below A0 (s₁.setTop (mkF m 133 #[.val (.ref a0), .val (.ref a1), .val (.int p2), .val (.int p3), .val (.int p4), .val (.int v3), .val (.int v4), .val (.int y7), .val (.int y8), .val (.int y9), .val (.int y10), .val (.long y11), .second, .val (.int y13), .val (.int v5)] [(.int (46 : Int32)), (.int v5)])) := by
                intro t k
                refine go28 t ?_
                refine o_icmpY X0 hx hby d10_82 129 rfl (tlt hc82_8).1 ?_
                refine o_iload X0 hx hby d10_129 131 rfl rfl ?_
                refine o_bipush X0 hx hby d10_131 133 rfl (v := (46 : Int32)) rfl ?_
                exact k
              obtain ⟨v10, v11, hv10, hv11, go38⟩ : ∃ (v10 : Int32) (v11 : Int32), v10 = (if v5 = (46 : Int32) then (if p4 = (0 : Int32) then (0 : Int32) else (if y8 = (0 : Int32) then y7 else (0 : Int32))) else (0 : Int32)) ∧ v11 = (if v5 = (46 : Int32) then (if p4 = (0 : Int32) then y8 else (if y8 = (0 : Int32) then (1 : Int32) else y8)) else y8) ∧ Go p e below A0 (s₁.setTop (mkF m 155 #[.val (.ref a0), .val (.ref a1), .val (.int p2), .val (.int p3), .val (.int p4), .val (.int v3), .val (.int v4), .val (.int v10), .val (.int v11), .val (.int y9), .val (.int y10), .val (.long y11), .second, .val (.int y13), .val (.int v5)] [])) := by
                by_cases hc133_9 : v5 = (46 : Int32)
                · have go30 : Go p e below A0 (s₁.setTop (mkF m 138 #[.val (.ref a0), .val (.ref a1), .val (.int p2), .val (.int p3), .val (.int p4), .val (.int v3), .val (.int v4), .val (.int y7), .val (.int y8), .val (.int y9), .val (.int y10), .val (.long y11), .second, .val (.int y13), .val (.int v5)] [(.int p4)])) := by
                    intro t k
                    refine go29 t ?_
                    refine o_icmpN X0 hx hby d10_133 136 rfl (teq hc133_9).2 ?_
                    refine o_iload X0 hx hby d10_136 138 rfl rfl ?_
                    exact k
                  obtain ⟨v8, v9, hv8, hv9, go36⟩ : ∃ (v8 : Int32) (v9 : Int32), v8 = (if p4 = (0 : Int32) then (0 : Int32) else (if y8 = (0 : Int32) then y7 else (0 : Int32))) ∧ v9 = (if p4 = (0 : Int32) then y8 else (if y8 = (0 : Int32) then (1 : Int32) else y8)) ∧ Go p e below A0 (s₁.setTop (mkF m 155 #[.val (.ref a0), .val (.ref a1), .val (.int p2), .val (.int p3), .val (.int p4), .val (.int v3), .val (.int v4), .val (.int v8), .val (.int v9), .val (.int y9), .val (.int y10), .val (.long y11), .second, .val (.int y13), .val (.int v5)] [])) := by
                    by_cases hc138_10 : p4 = (0 : Int32)
                    · have go31 : Go p e below A0 (s₁.setTop (mkF m 155 #[.val (.ref a0), .val (.ref a1), .val (.int p2), .val (.int p3), .val (.int p4), .val (.int v3), .val (.int v4), .val (.int (0 : Int32)), .val (.int y8), .val (.int y9), .val (.int y10), .val (.long y11), .second, .val (.int y13), .val (.int v5)] [])) := by
                        intro t k
                        refine go30 t ?_
                        refine o_ifY X0 hx hby d10_138 152 rfl (teq hc138_10).1 ?_
                        refine o_iconst X0 hx hby d10_152 153 rfl (v := (0 : Int32)) rfl ?_
                        refine o_istore X0 hx hby d10_153 155 rfl (l' := #[.val (.ref a0), .val (.ref a1), .val (.int p2), .val (.int p3), .val (.int p4), .val (.int v3), .val (.int v4), .val (.int (0 : Int32)), .val (.int y8), .val (.int y9), .val (.int y10), .val (.long y11), .second, .val (.int y13), .val (.int v5)]) rfl ?_
                        exact k
                      exact ⟨(0 : Int32), y8, (if_pos hc138_10).symm, (if_pos hc138_10).symm, go31⟩
                    · have go32 : Go p e below A0 (s₁.setTop (mkF m 143 #[.val (.ref a0), .val (.ref a1), .val (.int p2), .val (.int p3), .val (.int p4), .val (.int v3), .val (.int v4), .val (.int y7), .val (.int y8), .val (.int y9), .val (.int y10), .val (.long y11), .second, .val (.int y13), .val (.int v5)] [(.int y8)])) := by
                        intro t k
                        refine go30 t ?_
                        refine o_ifN X0 hx hby d10_138 141 rfl (feq hc138_10).1 ?_
                        refine o_iload X0 hx hby d10_141 143 rfl rfl ?_
                        exact k
                      obtain ⟨v6, v7, hv6, hv7, go35⟩ : ∃ (v6 : Int32) (v7 : Int32), v6 = (if y8 = (0 : Int32) then y7 else (0 : Int32)) ∧ v7 = (if y8 = (0 : Int32) then (1 : Int32) else y8) ∧ Go p e below A0 (s₁.setTop (mkF m 155 #[.val (.ref a0), .val (.ref a1), .val (.int p2), .val (.int p3), .val (.int p4), .val (.int v3), .val (.int v4), .val (.int v6), .val (.int v7), .val (.int y9), .val (.int y10), .val (.long y11), .second, .val (.int y13), .val (.int v5)] [])) := by
                        by_cases hc143_11 : y8 = (0 : Int32)
                        · have go33 : Go p e below A0 (s₁.setTop (mkF m 155 #[.val (.ref a0), .val (.ref a1), .val (.int p2), .val (.int p3), .val (.int p4), .val (.int v3), .val (.int v4), .val (.int y7), .val (.int (1 : Int32)), .val (.int y9), .val (.int y10), .val (.long y11), .second, .val (.int y13), .val (.int v5)] [])) := by
                            intro t k
                            refine go32 t ?_
                            refine o_ifN X0 hx hby d10_143 146 rfl (teq hc143_11).2 ?_
                            refine o_iconst X0 hx hby d10_146 147 rfl (v := (1 : Int32)) rfl ?_
                            refine o_istore X0 hx hby d10_147 149 rfl (l' := #[.val (.ref a0), .val (.ref a1), .val (.int p2), .val (.int p3), .val (.int p4), .val (.int v3), .val (.int v4), .val (.int y7), .val (.int (1 : Int32)), .val (.int y9), .val (.int y10), .val (.long y11), .second, .val (.int y13), .val (.int v5)]) rfl ?_
                            refine o_goto X0 hx hby d10_149 155 rfl ?_
                            exact k
                          exact ⟨y7, (1 : Int32), (if_pos hc143_11).symm, (if_pos hc143_11).symm, go33⟩
                        · have go34 : Go p e below A0 (s₁.setTop (mkF m 155 #[.val (.ref a0), .val (.ref a1), .val (.int p2), .val (.int p3), .val (.int p4), .val (.int v3), .val (.int v4), .val (.int (0 : Int32)), .val (.int y8), .val (.int y9), .val (.int y10), .val (.long y11), .second, .val (.int y13), .val (.int v5)] [])) := by
                            intro t k
                            refine go32 t ?_
                            refine o_ifY X0 hx hby d10_143 152 rfl (feq hc143_11).2 ?_
                            refine o_iconst X0 hx hby d10_152 153 rfl (v := (0 : Int32)) rfl ?_
                            refine o_istore X0 hx hby d10_153 155 rfl (l' := #[.val (.ref a0), .val (.ref a1), .val (.int p2), .val (.int p3), .val (.int p4), .val (.int v3), .val (.int v4), .val (.int (0 : Int32)), .val (.int y8), .val (.int y9), .val (.int y10), .val (.long y11), .second, .val (.int y13), .val (.int v5)]) rfl ?_
                            exact k
                          exact ⟨(0 : Int32), y8, (if_neg hc143_11).symm, (if_neg hc143_11).symm, go34⟩
                      rw [hv6] at go35
                      rw [hv7] at go35
                      exact ⟨(if y8 = (0 : Int32) then y7 else (0 : Int32)), (if y8 = (0 : Int32) then (1 : Int32) else y8), (if_neg hc138_10).symm, (if_neg hc138_10).symm, go35⟩
                  rw [hv8] at go36
                  rw [hv9] at go36
                  exact ⟨(if p4 = (0 : Int32) then (0 : Int32) else (if y8 = (0 : Int32) then y7 else (0 : Int32))), (if p4 = (0 : Int32) then y8 else (if y8 = (0 : Int32) then (1 : Int32) else y8)), (if_pos hc133_9).symm, (if_pos hc133_9).symm, go36⟩
                · have go37 : Go p e below A0 (s₁.setTop (mkF m 155 #[.val (.ref a0), .val (.ref a1), .val (.int p2), .val (.int p3), .val (.int p4), .val (.int v3), .val (.int v4), .val (.int (0 : Int32)), .val (.int y8), .val (.int y9), .val (.int y10), .val (.long y11), .second, .val (.int y13), .val (.int v5)] [])) := by
                    intro t k
                    refine go29 t ?_
                    refine o_icmpY X0 hx hby d10_133 152 rfl (feq hc133_9).2 ?_
                    refine o_iconst X0 hx hby d10_152 153 rfl (v := (0 : Int32)) rfl ?_
                    refine o_istore X0 hx hby d10_153 155 rfl (l' := #[.val (.ref a0), .val (.ref a1), .val (.int p2), .val (.int p3), .val (.int p4), .val (.int v3), .val (.int v4), .val (.int (0 : Int32)), .val (.int y8), .val (.int y9), .val (.int y10), .val (.long y11), .second, .val (.int y13), .val (.int v5)]) rfl ?_
                    exact k
                  exact ⟨(0 : Int32), y8, (if_neg hc133_9).symm, (if_neg hc133_9).symm, go37⟩
              rw [hv10] at go38
              rw [hv11] at go38
              exact ⟨(if v5 = (46 : Int32) then (if p4 = (0 : Int32) then (0 : Int32) else (if y8 = (0 : Int32) then y7 else (0 : Int32))) else (0 : Int32)), (if v5 = (46 : Int32) then (if p4 = (0 : Int32) then y8 else (if y8 = (0 : Int32) then (1 : Int32) else y8)) else y8), y9, y10, y11, (if_pos hc82_8).symm, (if_pos hc82_8).symm, (if_pos hc82_8).symm, (if_pos hc82_8).symm, (if_pos hc82_8).symm, go38⟩
            · have go39 : Go p e below A0 (s₁.setTop (mkF m 89 #[.val (.ref a0), .val (.ref a1), .val (.int p2), .val (.int p3), .val (.int p4), .val (.int v3), .val (.int v4), .val (.int y7), .val (.int y8), .val (.int y9), .val (.int y10), .val (.long y11), .second, .val (.int y13), .val (.int v5)] [(.int (57 : Int32)), (.int v5)])) := by
                intro t k
                refine go28 t ?_
                refine o_icmpN X0 hx hby d10_82 85 rfl (flt hc82_8).1 ?_
                refine o_iload X0 hx hby d10_85 87 rfl rfl ?_
                refine o_bipush X0 hx hby d10_87 89 rfl (v := (57 : Int32)) rfl ?_
                exact k
              obtain ⟨v19, v20, v21, v22, v23, hv19, hv20, hv21, hv22, hv23, go55⟩ : ∃ (v19 : Int32) (v20 : Int32) (v21 : Int32) (v22 : Int32) (v23 : Int64), v19 = (if (57 : Int32) < v5 then (if v5 = (46 : Int32) then (if p4 = (0 : Int32) then (0 : Int32) else (if y8 = (0 : Int32) then y7 else (0 : Int32))) else (0 : Int32)) else y7) ∧ v20 = (if (57 : Int32) < v5 then (if v5 = (46 : Int32) then (if p4 = (0 : Int32) then y8 else (if y8 = (0 : Int32) then (1 : Int32) else y8)) else y8) else y8) ∧ v21 = (if (57 : Int32) < v5 then y9 else (y9 + (1 : Int32))) ∧ v22 = (if (57 : Int32) < v5 then y10 else (if y8 = (0 : Int32) then y10 else (y10 + (1 : Int32)))) ∧ v23 = (if (57 : Int32) < v5 then y11 else ((y11 * (10 : Int64)) + ((v5 - (48 : Int32)).toInt64))) ∧ Go p e below A0 (s₁.setTop (mkF m 155 #[.val (.ref a0), .val (.ref a1), .val (.int p2), .val (.int p3), .val (.int p4), .val (.int v3), .val (.int v4), .val (.int v19), .val (.int v20), .val (.int v21), .val (.int v22), .val (.long v23), .second, .val (.int y13), .val (.int v5)] [])) := by
                by_cases hc89_12 : (57 : Int32) < v5
                · have go40 : Go p e below A0 (s₁.setTop (mkF m 133 #[.val (.ref a0), .val (.ref a1), .val (.int p2), .val (.int p3), .val (.int p4), .val (.int v3), .val (.int v4), .val (.int y7), .val (.int y8), .val (.int y9), .val (.int y10), .val (.long y11), .second, .val (.int y13), .val (.int v5)] [(.int (46 : Int32)), (.int v5)])) := by
                    intro t k
                    refine go39 t ?_
                    refine o_icmpY X0 hx hby d10_89 129 rfl (tlt hc89_12).2.2.1 ?_
                    refine o_iload X0 hx hby d10_129 131 rfl rfl ?_
                    refine o_bipush X0 hx hby d10_131 133 rfl (v := (46 : Int32)) rfl ?_
                    exact k
                  obtain ⟨v16, v17, hv16, hv17, go49⟩ : ∃ (v16 : Int32) (v17 : Int32), v16 = (if v5 = (46 : Int32) then (if p4 = (0 : Int32) then (0 : Int32) else (if y8 = (0 : Int32) then y7 else (0 : Int32))) else (0 : Int32)) ∧ v17 = (if v5 = (46 : Int32) then (if p4 = (0 : Int32) then y8 else (if y8 = (0 : Int32) then (1 : Int32) else y8)) else y8) ∧ Go p e below A0 (s₁.setTop (mkF m 155 #[.val (.ref a0), .val (.ref a1), .val (.int p2), .val (.int p3), .val (.int p4), .val (.int v3), .val (.int v4), .val (.int v16), .val (.int v17), .val (.int y9), .val (.int y10), .val (.long y11), .second, .val (.int y13), .val (.int v5)] [])) := by
                    by_cases hc133_13 : v5 = (46 : Int32)
                    · have go41 : Go p e below A0 (s₁.setTop (mkF m 138 #[.val (.ref a0), .val (.ref a1), .val (.int p2), .val (.int p3), .val (.int p4), .val (.int v3), .val (.int v4), .val (.int y7), .val (.int y8), .val (.int y9), .val (.int y10), .val (.long y11), .second, .val (.int y13), .val (.int v5)] [(.int p4)])) := by
                        intro t k
                        refine go40 t ?_
                        refine o_icmpN X0 hx hby d10_133 136 rfl (teq hc133_13).2 ?_
                        refine o_iload X0 hx hby d10_136 138 rfl rfl ?_
                        exact k
                      obtain ⟨v14, v15, hv14, hv15, go47⟩ : ∃ (v14 : Int32) (v15 : Int32), v14 = (if p4 = (0 : Int32) then (0 : Int32) else (if y8 = (0 : Int32) then y7 else (0 : Int32))) ∧ v15 = (if p4 = (0 : Int32) then y8 else (if y8 = (0 : Int32) then (1 : Int32) else y8)) ∧ Go p e below A0 (s₁.setTop (mkF m 155 #[.val (.ref a0), .val (.ref a1), .val (.int p2), .val (.int p3), .val (.int p4), .val (.int v3), .val (.int v4), .val (.int v14), .val (.int v15), .val (.int y9), .val (.int y10), .val (.long y11), .second, .val (.int y13), .val (.int v5)] [])) := by
                        by_cases hc138_14 : p4 = (0 : Int32)
                        · have go42 : Go p e below A0 (s₁.setTop (mkF m 155 #[.val (.ref a0), .val (.ref a1), .val (.int p2), .val (.int p3), .val (.int p4), .val (.int v3), .val (.int v4), .val (.int (0 : Int32)), .val (.int y8), .val (.int y9), .val (.int y10), .val (.long y11), .second, .val (.int y13), .val (.int v5)] [])) := by
                            intro t k
                            refine go41 t ?_
                            refine o_ifY X0 hx hby d10_138 152 rfl (teq hc138_14).1 ?_
                            refine o_iconst X0 hx hby d10_152 153 rfl (v := (0 : Int32)) rfl ?_
                            refine o_istore X0 hx hby d10_153 155 rfl (l' := #[.val (.ref a0), .val (.ref a1), .val (.int p2), .val (.int p3), .val (.int p4), .val (.int v3), .val (.int v4), .val (.int (0 : Int32)), .val (.int y8), .val (.int y9), .val (.int y10), .val (.long y11), .second, .val (.int y13), .val (.int v5)]) rfl ?_
                            exact k
                          exact ⟨(0 : Int32), y8, (if_pos hc138_14).symm, (if_pos hc138_14).symm, go42⟩
                        · have go43 : Go p e below A0 (s₁.setTop (mkF m 143 #[.val (.ref a0), .val (.ref a1), .val (.int p2), .val (.int p3), .val (.int p4), .val (.int v3), .val (.int v4), .val (.int y7), .val (.int y8), .val (.int y9), .val (.int y10), .val (.long y11), .second, .val (.int y13), .val (.int v5)] [(.int y8)])) := by
                            intro t k
                            refine go41 t ?_
                            refine o_ifN X0 hx hby d10_138 141 rfl (feq hc138_14).1 ?_
                            refine o_iload X0 hx hby d10_141 143 rfl rfl ?_
                            exact k
                          obtain ⟨v12, v13, hv12, hv13, go46⟩ : ∃ (v12 : Int32) (v13 : Int32), v12 = (if y8 = (0 : Int32) then y7 else (0 : Int32)) ∧ v13 = (if y8 = (0 : Int32) then (1 : Int32) else y8) ∧ Go p e below A0 (s₁.setTop (mkF m 155 #[.val (.ref a0), .val (.ref a1), .val (.int p2), .val (.int p3), .val (.int p4), .val (.int v3), .val (.int v4), .val (.int v12), .val (.int v13), .val (.int y9), .val (.int y10), .val (.long y11), .second, .val (.int y13), .val (.int v5)] [])) := by
                            by_cases hc143_15 : y8 = (0 : Int32)
                            · have go44 : Go p e below A0 (s₁.setTop (mkF m 155 #[.val (.ref a0), .val (.ref a1), .val (.int p2), .val (.int p3), .val (.int p4), .val (.int v3), .val (.int v4), .val (.int y7), .val (.int (1 : Int32)), .val (.int y9), .val (.int y10), .val (.long y11), .second, .val (.int y13), .val (.int v5)] [])) := by
                                intro t k
                                refine go43 t ?_
                                refine o_ifN X0 hx hby d10_143 146 rfl (teq hc143_15).2 ?_
                                refine o_iconst X0 hx hby d10_146 147 rfl (v := (1 : Int32)) rfl ?_
                                refine o_istore X0 hx hby d10_147 149 rfl (l' := #[.val (.ref a0), .val (.ref a1), .val (.int p2), .val (.int p3), .val (.int p4), .val (.int v3), .val (.int v4), .val (.int y7), .val (.int (1 : Int32)), .val (.int y9), .val (.int y10), .val (.long y11), .second, .val (.int y13), .val (.int v5)]) rfl ?_
                                refine o_goto X0 hx hby d10_149 155 rfl ?_
                                exact k
                              exact ⟨y7, (1 : Int32), (if_pos hc143_15).symm, (if_pos hc143_15).symm, go44⟩
                            · have go45 : Go p e below A0 (s₁.setTop (mkF m 155 #[.val (.ref a0), .val (.ref a1), .val (.int p2), .val (.int p3), .val (.int p4), .val (.int v3), .val (.int v4), .val (.int (0 : Int32)), .val (.int y8), .val (.int y9), .val (.int y10), .val (.long y11), .second, .val (.int y13), .val (.int v5)] [])) := by
                                intro t k
                                refine go43 t ?_
                                refine o_ifY X0 hx hby d10_143 152 rfl (feq hc143_15).2 ?_
                                refine o_iconst X0 hx hby d10_152 153 rfl (v := (0 : Int32)) rfl ?_
                                refine o_istore X0 hx hby d10_153 155 rfl (l' := #[.val (.ref a0), .val (.ref a1), .val (.int p2), .val (.int p3), .val (.int p4), .val (.int v3), .val (.int v4), .val (.int (0 : Int32)), .val (.int y8), .val (.int y9), .val (.int y10), .val (.long y11), .second, .val (.int y13), .val (.int v5)]) rfl ?_
                                exact k
                              exact ⟨(0 : Int32), y8, (if_neg hc143_15).symm, (if_neg hc143_15).symm, go45⟩
                          rw [hv12] at go46
                          rw [hv13] at go46
                          exact ⟨(if y8 = (0 : Int32) then y7 else (0 : Int32)), (if y8 = (0 : Int32) then (1 : Int32) else y8), (if_neg hc138_14).symm, (if_neg hc138_14).symm, go46⟩
                      rw [hv14] at go47
                      rw [hv15] at go47
                      exact ⟨(if p4 = (0 : Int32) then (0 : Int32) else (if y8 = (0 : Int32) then y7 else (0 : Int32))), (if p4 = (0 : Int32) then y8 else (if y8 = (0 : Int32) then (1 : Int32) else y8)), (if_pos hc133_13).symm, (if_pos hc133_13).symm, go47⟩
                    · have go48 : Go p e below A0 (s₁.setTop (mkF m 155 #[.val (.ref a0), .val (.ref a1), .val (.int p2), .val (.int p3), .val (.int p4), .val (.int v3), .val (.int v4), .val (.int (0 : Int32)), .val (.int y8), .val (.int y9), .val (.int y10), .val (.long y11), .second, .val (.int y13), .val (.int v5)] [])) := by
                        intro t k
                        refine go40 t ?_
                        refine o_icmpY X0 hx hby d10_133 152 rfl (feq hc133_13).2 ?_
                        refine o_iconst X0 hx hby d10_152 153 rfl (v := (0 : Int32)) rfl ?_
                        refine o_istore X0 hx hby d10_153 155 rfl (l' := #[.val (.ref a0), .val (.ref a1), .val (.int p2), .val (.int p3), .val (.int p4), .val (.int v3), .val (.int v4), .val (.int (0 : Int32)), .val (.int y8), .val (.int y9), .val (.int y10), .val (.long y11), .second, .val (.int y13), .val (.int v5)]) rfl ?_
                        exact k
                      exact ⟨(0 : Int32), y8, (if_neg hc133_13).symm, (if_neg hc133_13).symm, go48⟩
                  rw [hv16] at go49
                  rw [hv17] at go49
                  exact ⟨(if v5 = (46 : Int32) then (if p4 = (0 : Int32) then (0 : Int32) else (if y8 = (0 : Int32) then y7 else (0 : Int32))) else (0 : Int32)), (if v5 = (46 : Int32) then (if p4 = (0 : Int32) then y8 else (if y8 = (0 : Int32) then (1 : Int32) else y8)) else y8), y9, y10, y11, (if_pos hc89_12).symm, (if_pos hc89_12).symm, (if_pos hc89_12).symm, (if_pos hc89_12).symm, (if_pos hc89_12).symm, go49⟩
                · have go50 : Go p e below A0 (s₁.setTop (mkF m 112 #[.val (.ref a0), .val (.ref a1), .val (.int p2), .val (.int p3), .val (.int p4), .val (.int v3), .val (.int v4), .val (.int y7), .val (.int y8), .val (.int (y9 + (1 : Int32))), .val (.int y10), .val (.long ((y11 * (10 : Int64)) + ((v5 - (48 : Int32)).toInt64))), .second, .val (.int y13), .val (.int v5)] [(.int y8)])) := by
                    intro t k
                    refine go39 t ?_
                    refine o_icmpN X0 hx hby d10_89 92 rfl (flt hc89_12).2.2.1 ?_
                    refine o_lload X0 hx hby d10_92 94 rfl rfl ?_
                    refine o_ldc2Long X0 hx hby hown (mvT hZ (hw _ (List.mem_of_getElem? (i := 40) rfl))) d10_94 97 rfl ?_
                    refine o_lmul X0 hx hby d10_97 98 rfl ?_
                    refine o_iload X0 hx hby d10_98 100 rfl rfl ?_
                    refine o_bipush X0 hx hby d10_100 102 rfl (v := (48 : Int32)) rfl ?_
                    refine o_isub X0 hx hby d10_102 103 rfl ?_
                    refine o_i2l X0 hx hby d10_103 104 rfl ?_
                    refine o_ladd X0 hx hby d10_104 105 rfl ?_
                    refine o_lstore X0 hx hby d10_105 107 rfl (l' := #[.val (.ref a0), .val (.ref a1), .val (.int p2), .val (.int p3), .val (.int p4), .val (.int v3), .val (.int v4), .val (.int y7), .val (.int y8), .val (.int y9), .val (.int y10), .val (.long ((y11 * (10 : Int64)) + ((v5 - (48 : Int32)).toInt64))), .second, .val (.int y13), .val (.int v5)]) rfl ?_
                    refine o_iinc X0 hx hby d10_107 110 rfl rfl (i := (1 : Int32)) rfl (l' := #[.val (.ref a0), .val (.ref a1), .val (.int p2), .val (.int p3), .val (.int p4), .val (.int v3), .val (.int v4), .val (.int y7), .val (.int y8), .val (.int (y9 + (1 : Int32))), .val (.int y10), .val (.long ((y11 * (10 : Int64)) + ((v5 - (48 : Int32)).toInt64))), .second, .val (.int y13), .val (.int v5)]) rfl ?_
                    refine o_iload X0 hx hby d10_110 112 rfl rfl ?_
                    exact k
                  obtain ⟨v18, hv18, go53⟩ : ∃ (v18 : Int32), v18 = (if y8 = (0 : Int32) then y10 else (y10 + (1 : Int32))) ∧ Go p e below A0 (s₁.setTop (mkF m 124 #[.val (.ref a0), .val (.ref a1), .val (.int p2), .val (.int p3), .val (.int p4), .val (.int v3), .val (.int v4), .val (.int y7), .val (.int y8), .val (.int (y9 + (1 : Int32))), .val (.int y10), .val (.long ((y11 * (10 : Int64)) + ((v5 - (48 : Int32)).toInt64))), .second, .val (.int y13), .val (.int v5)] [(.int v18)])) := by
                    by_cases hc112_16 : y8 = (0 : Int32)
                    · have go51 : Go p e below A0 (s₁.setTop (mkF m 124 #[.val (.ref a0), .val (.ref a1), .val (.int p2), .val (.int p3), .val (.int p4), .val (.int v3), .val (.int v4), .val (.int y7), .val (.int y8), .val (.int (y9 + (1 : Int32))), .val (.int y10), .val (.long ((y11 * (10 : Int64)) + ((v5 - (48 : Int32)).toInt64))), .second, .val (.int y13), .val (.int v5)] [(.int y10)])) := by
                        intro t k
                        refine go50 t ?_
                        refine o_ifY X0 hx hby d10_112 122 rfl (teq hc112_16).1 ?_
                        refine o_iload X0 hx hby d10_122 124 rfl rfl ?_
                        exact k
                      exact ⟨y10, (if_pos hc112_16).symm, go51⟩
                    · have go52 : Go p e below A0 (s₁.setTop (mkF m 124 #[.val (.ref a0), .val (.ref a1), .val (.int p2), .val (.int p3), .val (.int p4), .val (.int v3), .val (.int v4), .val (.int y7), .val (.int y8), .val (.int (y9 + (1 : Int32))), .val (.int y10), .val (.long ((y11 * (10 : Int64)) + ((v5 - (48 : Int32)).toInt64))), .second, .val (.int y13), .val (.int v5)] [(.int (y10 + (1 : Int32)))])) := by
                        intro t k
                        refine go50 t ?_
                        refine o_ifN X0 hx hby d10_112 115 rfl (feq hc112_16).1 ?_
                        refine o_iload X0 hx hby d10_115 117 rfl rfl ?_
                        refine o_iconst X0 hx hby d10_117 118 rfl (v := (1 : Int32)) rfl ?_
                        refine o_iadd X0 hx hby d10_118 119 rfl ?_
                        refine o_goto X0 hx hby d10_119 124 rfl ?_
                        exact k
                      exact ⟨(y10 + (1 : Int32)), (if_neg hc112_16).symm, go52⟩
                  rw [hv18] at go53
                  have go54 : Go p e below A0 (s₁.setTop (mkF m 155 #[.val (.ref a0), .val (.ref a1), .val (.int p2), .val (.int p3), .val (.int p4), .val (.int v3), .val (.int v4), .val (.int y7), .val (.int y8), .val (.int (y9 + (1 : Int32))), .val (.int (if y8 = (0 : Int32) then y10 else (y10 + (1 : Int32)))), .val (.long ((y11 * (10 : Int64)) + ((v5 - (48 : Int32)).toInt64))), .second, .val (.int y13), .val (.int v5)] [])) := by
                    intro t k
                    refine go53 t ?_
                    refine o_istore X0 hx hby d10_124 126 rfl (l' := #[.val (.ref a0), .val (.ref a1), .val (.int p2), .val (.int p3), .val (.int p4), .val (.int v3), .val (.int v4), .val (.int y7), .val (.int y8), .val (.int (y9 + (1 : Int32))), .val (.int (if y8 = (0 : Int32) then y10 else (y10 + (1 : Int32)))), .val (.long ((y11 * (10 : Int64)) + ((v5 - (48 : Int32)).toInt64))), .second, .val (.int y13), .val (.int v5)]) rfl ?_
                    refine o_goto X0 hx hby d10_126 155 rfl ?_
                    exact k
                  exact ⟨y7, y8, (y9 + (1 : Int32)), (if y8 = (0 : Int32) then y10 else (y10 + (1 : Int32))), ((y11 * (10 : Int64)) + ((v5 - (48 : Int32)).toInt64)), (if_neg hc89_12).symm, (if_neg hc89_12).symm, (if_neg hc89_12).symm, (if_neg hc89_12).symm, (if_neg hc89_12).symm, go54⟩
              rw [hv19] at go55
              rw [hv20] at go55
              rw [hv21] at go55
              rw [hv22] at go55
              rw [hv23] at go55
              exact ⟨(if (57 : Int32) < v5 then (if v5 = (46 : Int32) then (if p4 = (0 : Int32) then (0 : Int32) else (if y8 = (0 : Int32) then y7 else (0 : Int32))) else (0 : Int32)) else y7), (if (57 : Int32) < v5 then (if v5 = (46 : Int32) then (if p4 = (0 : Int32) then y8 else (if y8 = (0 : Int32) then (1 : Int32) else y8)) else y8) else y8), (if (57 : Int32) < v5 then y9 else (y9 + (1 : Int32))), (if (57 : Int32) < v5 then y10 else (if y8 = (0 : Int32) then y10 else (y10 + (1 : Int32)))), (if (57 : Int32) < v5 then y11 else ((y11 * (10 : Int64)) + ((v5 - (48 : Int32)).toInt64))), (if_neg hc82_8).symm, (if_neg hc82_8).symm, (if_neg hc82_8).symm, (if_neg hc82_8).symm, (if_neg hc82_8).symm, go55⟩
          have go57 : Go p e below A0 (s₁.setTop (mkF m 158 #[.val (.ref a0), .val (.ref a1), .val (.int p2), .val (.int p3), .val (.int p4), .val (.int v3), .val (.int v4), .val (.int v24), .val (.int v25), .val (.int v26), .val (.int v27), .val (.long v28), .second, .val (.int (y13 + (1 : Int32))), .val (.int v5)] [])) := by
            intro t k
            refine go56 t ?_
            refine o_iinc X0 hx hby d10_155 158 rfl rfl (i := (1 : Int32)) rfl (l' := #[.val (.ref a0), .val (.ref a1), .val (.int p2), .val (.int p3), .val (.int p4), .val (.int v3), .val (.int v4), .val (.int v24), .val (.int v25), .val (.int v26), .val (.int v27), .val (.long v28), .second, .val (.int (y13 + (1 : Int32))), .val (.int v5)]) rfl ?_
            exact k
          obtain ⟨v29, hv29, go58⟩ : ∃ v29 : Int32, v29 = (y13 + (1 : Int32)) ∧ Go p e below A0 (s₁.setTop (mkF m 158 #[.val (.ref a0), .val (.ref a1), .val (.int p2), .val (.int p3), .val (.int p4), .val (.int v3), .val (.int v4), .val (.int v24), .val (.int v25), .val (.int v26), .val (.int v27), .val (.long v28), .second, .val (.int v29), .val (.int v5)] [])) := ⟨_, rfl, go57⟩
          have go59 : Go p e below A0 (s₁.setTop (mkF m 61 #[.val (.ref a0), .val (.ref a1), .val (.int p2), .val (.int p3), .val (.int p4), .val (.int v3), .val (.int v4), .val (.int v24), .val (.int v25), .val (.int v26), .val (.int v27), .val (.long v28), .second, .val (.int v29), .val (.int v5)] [])) := by
            intro t k
            refine go58 t ?_
            refine o_goto X0 hx hby d10_158 61 rfl ?_
            exact k
          obtain ⟨w7, w8, w9, w10, w11, w13, w14, hr, gw⟩ := ih v24 v25 v26 v27 v28 v29 (.val (.int v5)) (Or.inr ⟨_, rfl⟩) (own_u1 hlt pa3 hp hv29) (own_u2 hlt pa3 hp hv29 hn) go59
          exact ⟨w7, w8, w9, w10, w11, w13, w14, hr.trans (pl_10_turn a0 a1 p2 p3 p4 ka b0 b1 b2 b3 d0 ez pa2 pa3 v3 v4 n y7 y8 y9 y10 y11 y13 v5 v24 v25 v26 v27 v28 v29 hv3 hv4 hv5 hv24 hv25 hv26 hv27 hv28 hv29 h7 hlt).symm, gw⟩
        · have go60 : Go p e below A0 (s₁.setTop (mkF m 161 #[.val (.ref a0), .val (.ref a1), .val (.int p2), .val (.int p3), .val (.int p4), .val (.int v3), .val (.int v4), .val (.int y7), .val (.int y8), .val (.int y9), .val (.int y10), .val (.long y11), .second, .val (.int y13), x14] [])) := by
            intro t k
            refine gl t ?_
            refine o_iload X0 hx hby d10_61 63 rfl rfl ?_
            refine o_ifN X0 hx hby d10_63 66 rfl (feq h7).1 ?_
            refine o_iload X0 hx hby d10_66 68 rfl rfl ?_
            refine o_iloadN X0 hx hby d10_68 69 rfl rfl ?_
            refine o_icmpY X0 hx hby d10_69 161 rfl (flt hlt).2.1 ?_
            exact k
          exact ⟨y7, y8, y9, y10, y11, y13, x14, (own_runS0 (by first | exact Or.inl h7 | exact Or.inr hlt)), go60⟩
  have f_fnn_2 : ¬ v4 < 0 := pf10_fnn_1 a0 a1 p2 p3 p4 ka b0 b1 b2 b3 d0 ez pa2 pa3 v3 v4 hv3 hv4
  have f_f4_3 : p3.toInt ≤ v4.toInt + ((4 : Nat) : Int) := pf10_f4_2 a0 a1 p2 p3 p4 ka b0 b1 b2 b3 d0 ez pa2 pa3 v3 v4 hv3 hv4
  obtain ⟨w7, w8, w9, w10, w11, w13, w14, hrw, gw⟩ := loop 4 (1 : Int32) (0 : Int32) (0 : Int32) (0 : Int32) (0 : Int64) v4 .unset (Or.inl rfl) f_fnn_2 f_f4_3 go22
  have go61 : Go p e below A0 (s₁.setTop (mkF m 163 #[.val (.ref a0), .val (.ref a1), .val (.int p2), .val (.int p3), .val (.int p4), .val (.int v3), .val (.int v4), .val (.int w7), .val (.int w8), .val (.int w9), .val (.int w10), .val (.long w11), .second, .val (.int w13), w14] [(.int w7)])) := by
    intro t k
    refine gw t ?_
    refine o_iload X0 hx hby d10_161 163 rfl rfl ?_
    exact k
  obtain ⟨v31, hv31, go67⟩ : ∃ (v31 : Int32), v31 = (if w7 = (0 : Int32) then (0 : Int32) else (if (0 : Int32) < w9 then (1 : Int32) else (0 : Int32))) ∧ Go p e below A0 (s₁.setTop (mkF m 176 #[.val (.ref a0), .val (.ref a1), .val (.int p2), .val (.int p3), .val (.int p4), .val (.int v3), .val (.int v4), .val (.int w7), .val (.int w8), .val (.int w9), .val (.int w10), .val (.long w11), .second, .val (.int w13), w14] [(.int v31)])) := by
    by_cases hc163_17 : w7 = (0 : Int32)
    · have go62 : Go p e below A0 (s₁.setTop (mkF m 176 #[.val (.ref a0), .val (.ref a1), .val (.int p2), .val (.int p3), .val (.int p4), .val (.int v3), .val (.int v4), .val (.int w7), .val (.int w8), .val (.int w9), .val (.int w10), .val (.long w11), .second, .val (.int w13), w14] [(.int (0 : Int32))])) := by
        intro t k
        refine go61 t ?_
        refine o_ifY X0 hx hby d10_163 175 rfl (teq hc163_17).1 ?_
        refine o_iconst X0 hx hby d10_175 176 rfl (v := (0 : Int32)) rfl ?_
        exact k
      exact ⟨(0 : Int32), (if_pos hc163_17).symm, go62⟩
    · have go63 : Go p e below A0 (s₁.setTop (mkF m 168 #[.val (.ref a0), .val (.ref a1), .val (.int p2), .val (.int p3), .val (.int p4), .val (.int v3), .val (.int v4), .val (.int w7), .val (.int w8), .val (.int w9), .val (.int w10), .val (.long w11), .second, .val (.int w13), w14] [(.int w9)])) := by
        intro t k
        refine go61 t ?_
        refine o_ifN X0 hx hby d10_163 166 rfl (feq hc163_17).1 ?_
        refine o_iload X0 hx hby d10_166 168 rfl rfl ?_
        exact k
      obtain ⟨v30, hv30, go66⟩ : ∃ (v30 : Int32), v30 = (if (0 : Int32) < w9 then (1 : Int32) else (0 : Int32)) ∧ Go p e below A0 (s₁.setTop (mkF m 176 #[.val (.ref a0), .val (.ref a1), .val (.int p2), .val (.int p3), .val (.int p4), .val (.int v3), .val (.int v4), .val (.int w7), .val (.int w8), .val (.int w9), .val (.int w10), .val (.long w11), .second, .val (.int w13), w14] [(.int v30)])) := by
        by_cases hc168_18 : (0 : Int32) < w9
        · have go64 : Go p e below A0 (s₁.setTop (mkF m 176 #[.val (.ref a0), .val (.ref a1), .val (.int p2), .val (.int p3), .val (.int p4), .val (.int v3), .val (.int v4), .val (.int w7), .val (.int w8), .val (.int w9), .val (.int w10), .val (.long w11), .second, .val (.int w13), w14] [(.int (1 : Int32))])) := by
            intro t k
            refine go63 t ?_
            refine o_ifN X0 hx hby d10_168 171 rfl (tlt hc168_18).2.2.2 ?_
            refine o_iconst X0 hx hby d10_171 172 rfl (v := (1 : Int32)) rfl ?_
            refine o_goto X0 hx hby d10_172 176 rfl ?_
            exact k
          exact ⟨(1 : Int32), (if_pos hc168_18).symm, go64⟩
        · have go65 : Go p e below A0 (s₁.setTop (mkF m 176 #[.val (.ref a0), .val (.ref a1), .val (.int p2), .val (.int p3), .val (.int p4), .val (.int v3), .val (.int v4), .val (.int w7), .val (.int w8), .val (.int w9), .val (.int w10), .val (.long w11), .second, .val (.int w13), w14] [(.int (0 : Int32))])) := by
            intro t k
            refine go63 t ?_
            refine o_ifY X0 hx hby d10_168 175 rfl (flt hc168_18).2.2.2 ?_
            refine o_iconst X0 hx hby d10_175 176 rfl (v := (0 : Int32)) rfl ?_
            exact k
          exact ⟨(0 : Int32), (if_neg hc168_18).symm, go65⟩
      rw [hv30] at go66
      exact ⟨(if (0 : Int32) < w9 then (1 : Int32) else (0 : Int32)), (if_neg hc163_17).symm, go66⟩
  have go68 : Go p e below A0 (s₁.setTop (mkF m 178 #[.val (.ref a0), .val (.ref a1), .val (.int p2), .val (.int p3), .val (.int p4), .val (.int v3), .val (.int v4), .val (.int v31), .val (.int w8), .val (.int w9), .val (.int w10), .val (.long w11), .second, .val (.int w13), w14] [])) := by
    intro t k
    refine go67 t ?_
    refine o_istore X0 hx hby d10_176 178 rfl (l' := #[.val (.ref a0), .val (.ref a1), .val (.int p2), .val (.int p3), .val (.int p4), .val (.int v3), .val (.int v4), .val (.int v31), .val (.int w8), .val (.int w9), .val (.int w10), .val (.long w11), .second, .val (.int w13), w14]) rfl ?_
    exact k
  have go69 : Go p e below A0 (s₁.setTop (mkF m 180 #[.val (.ref a0), .val (.ref a1), .val (.int p2), .val (.int p3), .val (.int p4), .val (.int v3), .val (.int v4), .val (.int v31), .val (.int w8), .val (.int w9), .val (.int w10), .val (.long w11), .second, .val (.int w13), w14] [(.int v31)])) := by
    intro t k
    refine go68 t ?_
    refine o_iload X0 hx hby d10_178 180 rfl rfl ?_
    exact k
  by_cases hc180_19 : v31 = (0 : Int32)
  · have go70 : Go p e below A0 (s₁.setTop (mkF m 216 #[.val (.ref a0), .val (.ref a1), .val (.int p2), .val (.int p3), .val (.int p4), .val (.int v3), .val (.int v4), .val (.int v31), .val (.int w8), .val (.int w9), .val (.int w10), .val (.long w11), .second, .val (.int w13), w14] [(.int v31)])) := by
      intro t k
      refine go69 t ?_
      refine o_ifY X0 hx hby d10_180 214 rfl (teq hc180_19).1 ?_
      refine o_iload X0 hx hby d10_214 216 rfl rfl ?_
      exact k
    rw [hA0] at go70
    obtain ⟨fs, hr, hrun, hended, hW, hsame⟩ := X0.leave (v := some (.int v31)) (fun h => by rw [Bd.returns] at h; cases h)
    refine ⟨_, _, go70 _ (o_retZ X0 hx Bd.returns (hb hby d10_216) (by rw [hv31]; (repeat' split) <;> first | exact Or.inl rfl | exact Or.inr rfl) hr), hrun, hended, _, _, rfl, ?_, ⟨_, rfl⟩, hW, hsame.mono (by decide) (by decide)⟩
    show Q10 Z a0 a1 p2 p3 p4 ka b0 b1 b2 b3 d0 ez h0 n0 _ s₁.heap _
    rw [e0]
    exact ⟨v31, d0, ez, rfl, N0, (Keep.refl h0 [a0]), r2, r3, pl_10_r0 a0 a1 p2 p3 p4 ka b0 b1 b2 b3 d0 ez pa2 pa3 v3 v4 w7 w8 w9 w10 w11 w13 v31 hv3 hv4 hv31 hrw hc180_19, trivial⟩
  · have go71 : Go p e below A0 (s₁.setTop (mkF m 186 #[.val (.ref a0), .val (.ref a1), .val (.int p2), .val (.int p3), .val (.int p4), .val (.int v3), .val (.int v4), .val (.int v31), .val (.int w8), .val (.int w9), .val (.int w10), .val (.long w11), .second, .val (.int w13), w14] [(.int v3), (.ref a0)])) := by
      intro t k
      refine go69 t ?_
      refine o_ifN X0 hx hby d10_180 183 rfl (feq hc180_19).1 ?_
      refine o_aloadN X0 hx hby d10_183 184 rfl rfl rfl ?_
      refine o_iload X0 hx hby d10_184 186 rfl rfl ?_
      exact k
    obtain ⟨v33, hv33, go77⟩ : ∃ (v33 : Int64), v33 = (if v3 = (0 : Int32) then w11 else (if (own_at b0 b1 b2 b3 p2) = (45 : Int32) then (-w11) else w11)) ∧ Go p e below A0 (s₁.setTop (mkF m 205 #[.val (.ref a0), .val (.ref a1), .val (.int p2), .val (.int p3), .val (.int p4), .val (.int v3), .val (.int v4), .val (.int v31), .val (.int w8), .val (.int w9), .val (.int w10), .val (.long w11), .second, .val (.int w13), w14] [(.long v33), (.ref a0)])) := by
      by_cases hc186_20 : v3 = (0 : Int32)
      · have go72 : Go p e below A0 (s₁.setTop (mkF m 205 #[.val (.ref a0), .val (.ref a1), .val (.int p2), .val (.int p3), .val (.int p4), .val (.int v3), .val (.int v4), .val (.int v31), .val (.int w8), .val (.int w9), .val (.int w10), .val (.long w11), .second, .val (.int w13), w14] [(.long w11), (.ref a0)])) := by
          intro t k
          refine go71 t ?_
          refine o_ifY X0 hx hby d10_186 203 rfl (teq hc186_20).1 ?_
          refine o_lload X0 hx hby d10_203 205 rfl rfl ?_
          exact k
        exact ⟨w11, (if_pos hc186_20).symm, go72⟩
      · obtain ⟨cl21, Ar21, q21, S21, M21, H21, G21⟩ := id r4
        have hin21 : ¬ (p2 < 0 ∨ cl21.slots.size ≤ (p2).toNatClampNeg) := inb_of S21 (own_j1 (pf_from_4 a0 a1 p2 p3 p4 ka b0 b1 b2 b3 d0 ez pa2 pa3 v3 v4 w7 w8 w9 w10 w11 w13 v31 hv3 hv4 hv31 hrw hc180_19 hc186_20) pa3 pa2)
        have hat21 : cl21.slots[(p2).toNatClampNeg]? = some (.int (own_at b0 b1 b2 b3 p2)) := H21.at hin21 (own_get4 (own_j1 (pf_from_4 a0 a1 p2 p3 p4 ka b0 b1 b2 b3 d0 ez pa2 pa3 v3 v4 w7 w8 w9 w10 w11 w13 v31 hv3 hv4 hv31 hrw hc180_19 hc186_20) pa3 pa2))
        have go73 : Go p e below A0 (s₁.setTop (mkF m 194 #[.val (.ref a0), .val (.ref a1), .val (.int p2), .val (.int p3), .val (.int p4), .val (.int v3), .val (.int v4), .val (.int v31), .val (.int w8), .val (.int w9), .val (.int w10), .val (.long w11), .second, .val (.int w13), w14] [(.int (45 : Int32)), (.int (own_at b0 b1 b2 b3 p2)), (.ref a0)])) := by
          intro t k
          refine go71 t ?_
          refine o_ifN X0 hx hby d10_186 189 rfl (feq hc186_20).1 ?_
          refine o_aloadN X0 hx hby d10_189 190 rfl rfl rfl ?_
          refine o_iloadN X0 hx hby d10_190 191 rfl rfl ?_
          refine X0.baloadBytes hx (j := p2) (v := (.int (own_at b0 b1 b2 b3 p2))) (by rw [e0]; exact Ar21.1) (State.isArrayOf_alike hZ.alike Ar21.2.1) Ar21.2.2 hin21 hat21 (g := (mkF m 191 #[.val (.ref a0), .val (.ref a1), .val (.int p2), .val (.int p3), .val (.int p4), .val (.int v3), .val (.int v4), .val (.int v31), .val (.int w8), .val (.int w9), .val (.int w10), .val (.long w11), .second, .val (.int w13), w14] [(.int p2), (.ref a1), (.ref a0)])) rfl rfl (hb hby d10_191) _ ?_
          show Steps p.tables e below (s₁.setTop (mkF m 192 #[.val (.ref a0), .val (.ref a1), .val (.int p2), .val (.int p3), .val (.int p4), .val (.int v3), .val (.int v4), .val (.int v31), .val (.int w8), .val (.int w9), .val (.int w10), .val (.long w11), .second, .val (.int w13), w14] [(.int (own_at b0 b1 b2 b3 p2)), (.ref a0)])) _
          refine o_bipush X0 hx hby d10_192 194 rfl (v := (45 : Int32)) rfl ?_
          exact k
        obtain ⟨v32, hv32, go76⟩ : ∃ (v32 : Int64), v32 = (if (own_at b0 b1 b2 b3 p2) = (45 : Int32) then (-w11) else w11) ∧ Go p e below A0 (s₁.setTop (mkF m 205 #[.val (.ref a0), .val (.ref a1), .val (.int p2), .val (.int p3), .val (.int p4), .val (.int v3), .val (.int v4), .val (.int v31), .val (.int w8), .val (.int w9), .val (.int w10), .val (.long w11), .second, .val (.int w13), w14] [(.long v32), (.ref a0)])) := by
          by_cases hc194_22 : (own_at b0 b1 b2 b3 p2) = (45 : Int32)
          · have go74 : Go p e below A0 (s₁.setTop (mkF m 205 #[.val (.ref a0), .val (.ref a1), .val (.int p2), .val (.int p3), .val (.int p4), .val (.int v3), .val (.int v4), .val (.int v31), .val (.int w8), .val (.int w9), .val (.int w10), .val (.long w11), .second, .val (.int w13), w14] [(.long (-w11)), (.ref a0)])) := by
              intro t k
              refine go73 t ?_
              refine o_icmpN X0 hx hby d10_194 197 rfl (teq hc194_22).2 ?_
              refine o_lload X0 hx hby d10_197 199 rfl rfl ?_
              refine o_lneg X0 hx hby d10_199 200 rfl ?_
              refine o_goto X0 hx hby d10_200 205 rfl ?_
              exact k
            exact ⟨(-w11), (if_pos hc194_22).symm, go74⟩
          · have go75 : Go p e below A0 (s₁.setTop (mkF m 205 #[.val (.ref a0), .val (.ref a1), .val (.int p2), .val (.int p3), .val (.int p4), .val (.int v3), .val (.int v4), .val (.int v31), .val (.int w8), .val (.int w9), .val (.int w10), .val (.long w11), .second, .val (.int w13), w14] [(.long w11), (.ref a0)])) := by
              intro t k
              refine go73 t ?_
              refine o_icmpY X0 hx hby d10_194 203 rfl (feq hc194_22).2 ?_
              refine o_lload X0 hx hby d10_203 205 rfl rfl ?_
              exact k
            exact ⟨w11, (if_neg hc194_22).symm, go75⟩
        rw [hv32] at go76
        exact ⟨(if (own_at b0 b1 b2 b3 p2) = (45 : Int32) then (-w11) else w11), (if_neg hc186_20).symm, go76⟩
    obtain ⟨T23, h23, X23, e23, W23, st23⟩ := putF X0 hx hZ hown (host := "") (Or.inl (hw _ (List.mem_of_getElem? (i := 41) rfl))) Via.refl e0 r2 r0 (Or.inl (hw _ (List.mem_of_getElem? (i := 42) rfl))) (hw _ (List.mem_of_getElem? (i := 27) rfl)) (ty := .long) (by decide) rfl rfl (g := (mkF m 205 #[.val (.ref a0), .val (.ref a1), .val (.int p2), .val (.int p3), .val (.int p4), .val (.int v3), .val (.int v4), .val (.int v31), .val (.int w8), .val (.int w9), .val (.int w10), .val (.long w11), .second, .val (.int w13), w14] [(.long v33), (.ref a0)])) rfl rfl (hb hby d10_205)
    have f1 : Exa Z h23 a0 "com/example/amortine/amortine/cli/Options$Digits" := r0.wr W23
    have f2 : Fld Z h23 a0 "com/example/amortine/amortine/cli/Options$Digits" "decimals" "I" (.int ez) := r3.other W23 (Or.inr (slot_ne (Or.inl (hw _ (List.mem_of_getElem? (i := 44) rfl))) (Or.inl (hw _ (List.mem_of_getElem? (i := 42) rfl))) (by decide) (t := .int) (t' := .long) (by decide) (by decide)))
    have f3 : Arv Z h23 a1 ka .byte (4 : Int32) [(.int b0), (.int b1), (.int b2), (.int b3)] (.int (0 : Int32)) := r4.other W23 (Ne.symm r5)
    have Zp23 : n0 ≤ h23.size := Nat.le_trans Z0 (Keep.of_wr W23).1
    have K23 : Keep h0 h23 [a0] := (Keep.refl h0 [a0]).wr W23 (Or.inl (List.mem_of_getElem? (i := 0) rfl))
    have N23 := Fr.snoc X23 N0 r1
    have f4 : Fld Z h23 a0 "com/example/amortine/amortine/cli/Options$Digits" "digits" "J" (.long v33) := r2.same W23
    have go78 : Go p e below A0 (T23.setTop (mkF m 211 #[.val (.ref a0), .val (.ref a1), .val (.int p2), .val (.int p3), .val (.int p4), .val (.int v3), .val (.int v4), .val (.int v31), .val (.int w8), .val (.int w9), .val (.int w10), .val (.long w11), .second, .val (.int w13), w14] [(.int w10), (.ref a0)])) := by
      intro t k
      refine go77 t ?_
      refine st23 _ ?_
      show Steps p.tables e below (T23.setTop (mkF m 208 #[.val (.ref a0), .val (.ref a1), .val (.int p2), .val (.int p3), .val (.int p4), .val (.int v3), .val (.int v4), .val (.int v31), .val (.int w8), .val (.int w9), .val (.int w10), .val (.long w11), .second, .val (.int w13), w14] [])) _
      refine o_aloadN X23 hx hby d10_208 209 rfl rfl rfl ?_
      refine o_iload X23 hx hby d10_209 211 rfl rfl ?_
      exact k
    obtain ⟨T24, h24, X24, e24, W24, st24⟩ := putF X23 hx hZ hown (host := "") (Or.inl (hw _ (List.mem_of_getElem? (i := 43) rfl))) Via.refl e23 f2 f1 (Or.inl (hw _ (List.mem_of_getElem? (i := 44) rfl))) (hw _ (List.mem_of_getElem? (i := 27) rfl)) (ty := .int) (by decide) rfl rfl (g := (mkF m 211 #[.val (.ref a0), .val (.ref a1), .val (.int p2), .val (.int p3), .val (.int p4), .val (.int v3), .val (.int v4), .val (.int v31), .val (.int w8), .val (.int w9), .val (.int w10), .val (.long w11), .second, .val (.int w13), w14] [(.int w10), (.ref a0)])) rfl rfl (hb hby d10_211)
    have f5 : Exa Z h24 a0 "com/example/amortine/amortine/cli/Options$Digits" := f1.wr W24
    have f6 : Arv Z h24 a1 ka .byte (4 : Int32) [(.int b0), (.int b1), (.int b2), (.int b3)] (.int (0 : Int32)) := f3.other W24 (Ne.symm r5)
    have f7 : Fld Z h24 a0 "com/example/amortine/amortine/cli/Options$Digits" "digits" "J" (.long v33) := f4.other W24 (Or.inr (slot_ne (Or.inl (hw _ (List.mem_of_getElem? (i := 42) rfl))) (Or.inl (hw _ (List.mem_of_getElem? (i := 44) rfl))) (by decide) (t := .long) (t' := .int) (by decide) (by decide)))
    have Zp24 : n0 ≤ h24.size := Nat.le_trans Zp23 (Keep.of_wr W24).1
    have K24 : Keep h0 h24 [a0] := K23.wr W24 (Or.inl (List.mem_of_getElem? (i := 0) rfl))
    have N24 := Fr.snoc X24 N23 r1
    have f8 : Fld Z h24 a0 "com/example/amortine/amortine/cli/Options$Digits" "decimals" "I" (.int w10) := f2.same W24
    have go79 : Go p e below A0 (T24.setTop (mkF m 216 #[.val (.ref a0), .val (.ref a1), .val (.int p2), .val (.int p3), .val (.int p4), .val (.int v3), .val (.int v4), .val (.int v31), .val (.int w8), .val (.int w9), .val (.int w10), .val (.long w11), .second, .val (.int w13), w14] [(.int v31)])) := by
      intro t k
      refine go78 t ?_
      refine st24 _ ?_
      show Steps p.tables e below (T24.setTop (mkF m 214 #[.val (.ref a0), .val (.ref a1), .val (.int p2), .val (.int p3), .val (.int p4), .val (.int v3), .val (.int v4), .val (.int v31), .val (.int w8), .val (.int w9), .val (.int w10), .val (.long w11), .second, .val (.int w13), w14] [])) _
      refine o_iload X24 hx hby d10_214 216 rfl rfl ?_
      exact k
    rw [hA0] at go79
    obtain ⟨fs, hr, hrun, hended, hW, hsame⟩ := X24.leave (v := some (.int v31)) (fun h => by rw [Bd.returns] at h; cases h)
    refine ⟨_, _, go79 _ (o_retZ X24 hx Bd.returns (hb hby d10_216) (by rw [hv31]; (repeat' split) <;> first | exact Or.inl rfl | exact Or.inr rfl) hr), hrun, hended, _, _, rfl, ?_, ⟨_, rfl⟩, hW, hsame.mono (by decide) (by decide)⟩
    show Q10 Z a0 a1 p2 p3 p4 ka b0 b1 b2 b3 d0 ez h0 n0 _ T24.heap _
    rw [e24]
    exact ⟨v31, v33, w10, rfl, N24, K24, f7, f8, pl_10_r1 a0 a1 p2 p3 p4 ka b0 b1 b2 b3 d0 ez pa2 pa3 v3 v4 w7 w8 w9 w10 w11 w13 v31 v33 hv3 hv4 hv31 hv33 hrw hc180_19, trivial⟩
theorem own_rem {a b : Int32} (ha : 0 ≤ a.toInt) : (a % b).toInt = a.toInt % b.toInt := by rw [Int32.toInt_mod, Int.tmod_eq_emod_of_nonneg ha]
theorem own_from {x v : Int32} (h : v = (x &&& (7 : Int32)) % (5 : Int32)) : 0 ≤ v.toInt ∧ v.toInt ≤ 4 := by
  have m : (x &&& (7 : Int32)).toInt = x.toInt % 8 := c_mask _ _ 3 (by decide) (by decide)
  have k : v.toInt = (x &&& (7 : Int32)).toInt % 5 := by rw [h]; exact own_rem (by omega)
  omega
theorem own_to {x v w : Int32} (h9 : 0 ≤ v.toInt ∧ v.toInt ≤ 4) (h : w = v + ((x &&& (7 : Int32)) % ((5 : Int32) - v))) : v.toInt ≤ w.toInt ∧ w.toInt ≤ 4 := by
  have m : (x &&& (7 : Int32)).toInt = x.toInt % 8 := c_mask _ _ 3 (by decide) (by decide)
  have e5 : ((5 : Int32) - v).toInt = 5 - v.toInt := by have k := c_isub 5 v; have r := rng32 (5 - v); simp only [Int32.reduceToInt] at k; omega
  have k : ((x &&& (7 : Int32)) % ((5 : Int32) - v)).toInt = (x &&& (7 : Int32)).toInt % (5 - v.toInt) := by rw [← e5]; exact own_rem (by omega)
  have g1 := Int.emod_nonneg (x &&& (7 : Int32)).toInt (by omega : (5 - v.toInt) ≠ 0)
  have g2 := Int.emod_lt_of_pos (x &&& (7 : Int32)).toInt (by omega : 0 < (5 - v.toInt))
  have a := c_iadd v ((x &&& (7 : Int32)) % ((5 : Int32) - v)); have r := rng32 w
  rw [← h] at a; omega
theorem own_dig9 {x v : Int32} (h : v = (x &&& (15 : Int32)) % (10 : Int32)) : 0 ≤ v.toInt ∧ v.toInt ≤ 9 := by
  have m : (x &&& (15 : Int32)).toInt = x.toInt % 16 := c_mask _ _ 4 (by decide) (by decide)
  have k : v.toInt = (x &&& (15 : Int32)).toInt % 10 := by rw [h]; exact own_rem (by omega)
  omega
theorem own_ld {v w : Int32} (h9 : 0 ≤ v.toInt ∧ v.toInt ≤ 4) (h10 : v.toInt ≤ w.toInt ∧ w.toInt ≤ 4) (h : v < w) : ¬ v < 0 ∧ v < 4 := by
  rw [Int32.lt_iff_toInt_lt] at h; constructor <;> (rw [Int32.lt_iff_toInt_lt]; simp only [Int32.reduceToInt]; omega)
theorem own_five {j : Int32} (h1 : 0 ≤ j.toInt) (h2 : j.toInt ≤ 4) : j = 0 ∨ j = 1 ∨ j = 2 ∨ j = 3 ∨ j = 4 := by
  rcases (by omega : j.toInt = 0 ∨ j.toInt = 1 ∨ j.toInt = 2 ∨ j.toInt = 3 ∨ j.toInt = 4) with q | q | q | q | q
  · exact Or.inl (Int32.toInt_inj.mp q)
  · exact Or.inr (Or.inl (Int32.toInt_inj.mp q))
  · exact Or.inr (Or.inr (Or.inl (Int32.toInt_inj.mp q)))
  · exact Or.inr (Or.inr (Or.inr (Or.inl (Int32.toInt_inj.mp q))))
  · exact Or.inr (Or.inr (Or.inr (Or.inr (Int32.toInt_inj.mp q))))
def own_k (f t i b : Int32) : Fin 4 := if i < f then 0 else if i < t then (if b < 48 then (if b = 46 then 2 else 3) else if 57 < b then (if b = 46 then 2 else 3) else 1) else 0
def own_mk (pt : Int32) (k : Fin 4) (d : Int64) (s : Int32 × Int32 × Int32 × Int32 × Int64) : Int32 × Int32 × Int32 × Int32 × Int64 :=
  if s.1 = 0 then s else if k = 0 then s else if k = 1 then (s.1, s.2.1, s.2.2.1 + 1, (if s.2.1 = 0 then s.2.2.2.1 else s.2.2.2.1 + 1), s.2.2.2.2 * 10 + d)
  else if k = 2 ∧ ¬ pt = 0 ∧ s.2.1 = 0 then (s.1, 1, s.2.2.1, s.2.2.2.1, s.2.2.2.2) else (0, s.2.1, s.2.2.1, s.2.2.2.1, s.2.2.2.2)
def own_j (s : Int32 × Int32 × Int32 × Int32 × Int64) (i : Int32) : Int32 × Int32 × Int32 × Int32 × Int64 × Int32 := (s.1, s.2.1, s.2.2.1, s.2.2.2.1, s.2.2.2.2, i)
def own_c (t : Int32 × Int32 × Int32 × Int32 × Int64 × Int32) : Int32 × Int32 × Int32 × Int32 × Int64 := (t.1, t.2.1, t.2.2.1, t.2.2.2.1, t.2.2.2.2.1)
theorem own_cj (s : Int32 × Int32 × Int32 × Int32 × Int64) (i : Int32) : own_c (own_j s i) = s := rfl
def own_D (b : Int32) : Int64 := (b - 48).toInt64
theorem own_mk0 (pt : Int32) (d : Int64) (s : Int32 × Int32 × Int32 × Int32 × Int64) : own_mk pt 0 d s = s := by
  unfold own_mk; split
  · rfl
  · rfl
theorem own_out {f t i b : Int32} (h : i < f ∨ ¬ i < t) : own_k f t i b = 0 := by
  unfold own_k; by_cases q : i < f
  · rw [if_pos q]
  · rw [if_neg q, if_neg (h.resolve_left q)]
theorem own_stop {b0 b1 b2 b3 to pt : Int32} (n : Nat) (s : Int32 × Int32 × Int32 × Int32 × Int64) {i : Int32} (h : ¬ i < to) : own_c (own_run b0 b1 b2 b3 to pt n (own_j s i)) = s := by
  unfold own_j; rw [own_runN n (Or.inr h)]; rfl
theorem own_go {b0 b1 b2 b3 to pt f i : Int32} (j : Int32) (hj : i + 1 = j) (n : Nat) (s : Int32 × Int32 × Int32 × Int32 × Int64) (hf : ¬ i < f) (ht : i < to) :
    own_c (own_run b0 b1 b2 b3 to pt (n + 1) (own_j s i)) = own_c (own_run b0 b1 b2 b3 to pt n (own_j (own_mk pt (own_k f to i (own_at b0 b1 b2 b3 i)) (own_D (own_at b0 b1 b2 b3 i)) s) j)) := by
  obtain ⟨y7, y8, y9, y10, y11⟩ := s
  by_cases h7 : y7 = 0
  · have e : own_mk pt (own_k f to i (own_at b0 b1 b2 b3 i)) (own_D (own_at b0 b1 b2 b3 i)) (y7, y8, y9, y10, y11) = (y7, y8, y9, y10, y11) := by unfold own_mk; exact if_pos h7
    rw [e]; unfold own_j; rw [own_runN _ (Or.inl h7), own_runN _ (Or.inl h7)]; rfl
  · have e : own_step pt (own_at b0 b1 b2 b3 i) y7 y8 y9 y10 y11 i = own_j (own_mk pt (own_k f to i (own_at b0 b1 b2 b3 i)) (own_D (own_at b0 b1 b2 b3 i)) (y7, y8, y9, y10, y11)) j := by
      rw [← hj]
      unfold own_step own_j own_mk own_k own_D
      generalize own_at b0 b1 b2 b3 i = b
      by_cases c1 : b < 48 <;> by_cases c2 : (57 : Int32) < b <;> by_cases c3 : b = 46 <;> by_cases c4 : pt = 0 <;> by_cases c5 : y8 = 0 <;> simp [c1, c2, c3, c4, c5, h7, hf, ht]
    have g : own_run b0 b1 b2 b3 to pt (n + 1) (own_j (y7, y8, y9, y10, y11) i) = own_run b0 b1 b2 b3 to pt n (own_step pt (own_at b0 b1 b2 b3 i) y7 y8 y9 y10 y11 i) := by
      unfold own_j; rw [own_runS, if_neg h7, if_pos ht]
    rw [g, e]
theorem own_core_0_0 (b0 b1 b2 b3 pt : Int32) (s : Int32 × Int32 × Int32 × Int32 × Int64) : own_c (own_run b0 b1 b2 b3 0 pt 4 (own_j s 0)) = own_mk pt (own_k 0 0 3 (own_at b0 b1 b2 b3 3)) (own_D (own_at b0 b1 b2 b3 3)) (own_mk pt (own_k 0 0 2 (own_at b0 b1 b2 b3 2)) (own_D (own_at b0 b1 b2 b3 2)) (own_mk pt (own_k 0 0 1 (own_at b0 b1 b2 b3 1)) (own_D (own_at b0 b1 b2 b3 1)) (own_mk pt (own_k 0 0 0 (own_at b0 b1 b2 b3 0)) (own_D (own_at b0 b1 b2 b3 0)) s))) := by
  refine (own_stop _ _ (by decide)).trans ?_
  rw [own_out (f := 0) (t := 0) (i := 0) (b := own_at b0 b1 b2 b3 0) (by decide), own_out (f := 0) (t := 0) (i := 1) (b := own_at b0 b1 b2 b3 1) (by decide), own_out (f := 0) (t := 0) (i := 2) (b := own_at b0 b1 b2 b3 2) (by decide), own_out (f := 0) (t := 0) (i := 3) (b := own_at b0 b1 b2 b3 3) (by decide)]
  simp only [own_mk0]
theorem own_core_0_1 (b0 b1 b2 b3 pt : Int32) (s : Int32 × Int32 × Int32 × Int32 × Int64) : own_c (own_run b0 b1 b2 b3 1 pt 4 (own_j s 0)) = own_mk pt (own_k 0 1 3 (own_at b0 b1 b2 b3 3)) (own_D (own_at b0 b1 b2 b3 3)) (own_mk pt (own_k 0 1 2 (own_at b0 b1 b2 b3 2)) (own_D (own_at b0 b1 b2 b3 2)) (own_mk pt (own_k 0 1 1 (own_at b0 b1 b2 b3 1)) (own_D (own_at b0 b1 b2 b3 1)) (own_mk pt (own_k 0 1 0 (own_at b0 b1 b2 b3 0)) (own_D (own_at b0 b1 b2 b3 0)) s))) := by
  refine (own_go (f := 0) (i := 0) 1 (by decide) 3 _ (by decide) (by decide)).trans ?_
  refine (own_stop _ _ (by decide)).trans ?_
  rw [own_out (f := 0) (t := 1) (i := 1) (b := own_at b0 b1 b2 b3 1) (by decide), own_out (f := 0) (t := 1) (i := 2) (b := own_at b0 b1 b2 b3 2) (by decide), own_out (f := 0) (t := 1) (i := 3) (b := own_at b0 b1 b2 b3 3) (by decide)]
  simp only [own_mk0]
theorem own_core_1_1 (b0 b1 b2 b3 pt : Int32) (s : Int32 × Int32 × Int32 × Int32 × Int64) : own_c (own_run b0 b1 b2 b3 1 pt 4 (own_j s 1)) = own_mk pt (own_k 1 1 3 (own_at b0 b1 b2 b3 3)) (own_D (own_at b0 b1 b2 b3 3)) (own_mk pt (own_k 1 1 2 (own_at b0 b1 b2 b3 2)) (own_D (own_at b0 b1 b2 b3 2)) (own_mk pt (own_k 1 1 1 (own_at b0 b1 b2 b3 1)) (own_D (own_at b0 b1 b2 b3 1)) (own_mk pt (own_k 1 1 0 (own_at b0 b1 b2 b3 0)) (own_D (own_at b0 b1 b2 b3 0)) s))) := by
  refine (own_stop _ _ (by decide)).trans ?_
  rw [own_out (f := 1) (t := 1) (i := 0) (b := own_at b0 b1 b2 b3 0) (by decide), own_out (f := 1) (t := 1) (i := 1) (b := own_at b0 b1 b2 b3 1) (by decide), own_out (f := 1) (t := 1) (i := 2) (b := own_at b0 b1 b2 b3 2) (by decide), own_out (f := 1) (t := 1) (i := 3) (b := own_at b0 b1 b2 b3 3) (by decide)]
  simp only [own_mk0]
theorem own_core_0_2 (b0 b1 b2 b3 pt : Int32) (s : Int32 × Int32 × Int32 × Int32 × Int64) : own_c (own_run b0 b1 b2 b3 2 pt 4 (own_j s 0)) = own_mk pt (own_k 0 2 3 (own_at b0 b1 b2 b3 3)) (own_D (own_at b0 b1 b2 b3 3)) (own_mk pt (own_k 0 2 2 (own_at b0 b1 b2 b3 2)) (own_D (own_at b0 b1 b2 b3 2)) (own_mk pt (own_k 0 2 1 (own_at b0 b1 b2 b3 1)) (own_D (own_at b0 b1 b2 b3 1)) (own_mk pt (own_k 0 2 0 (own_at b0 b1 b2 b3 0)) (own_D (own_at b0 b1 b2 b3 0)) s))) := by
  refine (own_go (f := 0) (i := 0) 1 (by decide) 3 _ (by decide) (by decide)).trans ?_
  refine (own_go (f := 0) (i := 1) 2 (by decide) 2 _ (by decide) (by decide)).trans ?_
  refine (own_stop _ _ (by decide)).trans ?_
  rw [own_out (f := 0) (t := 2) (i := 2) (b := own_at b0 b1 b2 b3 2) (by decide), own_out (f := 0) (t := 2) (i := 3) (b := own_at b0 b1 b2 b3 3) (by decide)]
  simp only [own_mk0]
theorem own_core_1_2 (b0 b1 b2 b3 pt : Int32) (s : Int32 × Int32 × Int32 × Int32 × Int64) : own_c (own_run b0 b1 b2 b3 2 pt 4 (own_j s 1)) = own_mk pt (own_k 1 2 3 (own_at b0 b1 b2 b3 3)) (own_D (own_at b0 b1 b2 b3 3)) (own_mk pt (own_k 1 2 2 (own_at b0 b1 b2 b3 2)) (own_D (own_at b0 b1 b2 b3 2)) (own_mk pt (own_k 1 2 1 (own_at b0 b1 b2 b3 1)) (own_D (own_at b0 b1 b2 b3 1)) (own_mk pt (own_k 1 2 0 (own_at b0 b1 b2 b3 0)) (own_D (own_at b0 b1 b2 b3 0)) s))) := by
  refine (own_go (f := 1) (i := 1) 2 (by decide) 3 _ (by decide) (by decide)).trans ?_
  refine (own_stop _ _ (by decide)).trans ?_
  rw [own_out (f := 1) (t := 2) (i := 0) (b := own_at b0 b1 b2 b3 0) (by decide), own_out (f := 1) (t := 2) (i := 2) (b := own_at b0 b1 b2 b3 2) (by decide), own_out (f := 1) (t := 2) (i := 3) (b := own_at b0 b1 b2 b3 3) (by decide)]
  simp only [own_mk0]
theorem own_core_2_2 (b0 b1 b2 b3 pt : Int32) (s : Int32 × Int32 × Int32 × Int32 × Int64) : own_c (own_run b0 b1 b2 b3 2 pt 4 (own_j s 2)) = own_mk pt (own_k 2 2 3 (own_at b0 b1 b2 b3 3)) (own_D (own_at b0 b1 b2 b3 3)) (own_mk pt (own_k 2 2 2 (own_at b0 b1 b2 b3 2)) (own_D (own_at b0 b1 b2 b3 2)) (own_mk pt (own_k 2 2 1 (own_at b0 b1 b2 b3 1)) (own_D (own_at b0 b1 b2 b3 1)) (own_mk pt (own_k 2 2 0 (own_at b0 b1 b2 b3 0)) (own_D (own_at b0 b1 b2 b3 0)) s))) := by
  refine (own_stop _ _ (by decide)).trans ?_
  rw [own_out (f := 2) (t := 2) (i := 0) (b := own_at b0 b1 b2 b3 0) (by decide), own_out (f := 2) (t := 2) (i := 1) (b := own_at b0 b1 b2 b3 1) (by decide), own_out (f := 2) (t := 2) (i := 2) (b := own_at b0 b1 b2 b3 2) (by decide), own_out (f := 2) (t := 2) (i := 3) (b := own_at b0 b1 b2 b3 3) (by decide)]
  simp only [own_mk0]
theorem own_core_0_3 (b0 b1 b2 b3 pt : Int32) (s : Int32 × Int32 × Int32 × Int32 × Int64) : own_c (own_run b0 b1 b2 b3 3 pt 4 (own_j s 0)) = own_mk pt (own_k 0 3 3 (own_at b0 b1 b2 b3 3)) (own_D (own_at b0 b1 b2 b3 3)) (own_mk pt (own_k 0 3 2 (own_at b0 b1 b2 b3 2)) (own_D (own_at b0 b1 b2 b3 2)) (own_mk pt (own_k 0 3 1 (own_at b0 b1 b2 b3 1)) (own_D (own_at b0 b1 b2 b3 1)) (own_mk pt (own_k 0 3 0 (own_at b0 b1 b2 b3 0)) (own_D (own_at b0 b1 b2 b3 0)) s))) := by
  refine (own_go (f := 0) (i := 0) 1 (by decide) 3 _ (by decide) (by decide)).trans ?_
  refine (own_go (f := 0) (i := 1) 2 (by decide) 2 _ (by decide) (by decide)).trans ?_
  refine (own_go (f := 0) (i := 2) 3 (by decide) 1 _ (by decide) (by decide)).trans ?_
  refine (own_stop _ _ (by decide)).trans ?_
  rw [own_out (f := 0) (t := 3) (i := 3) (b := own_at b0 b1 b2 b3 3) (by decide)]
  simp only [own_mk0]
theorem own_core_1_3 (b0 b1 b2 b3 pt : Int32) (s : Int32 × Int32 × Int32 × Int32 × Int64) : own_c (own_run b0 b1 b2 b3 3 pt 4 (own_j s 1)) = own_mk pt (own_k 1 3 3 (own_at b0 b1 b2 b3 3)) (own_D (own_at b0 b1 b2 b3 3)) (own_mk pt (own_k 1 3 2 (own_at b0 b1 b2 b3 2)) (own_D (own_at b0 b1 b2 b3 2)) (own_mk pt (own_k 1 3 1 (own_at b0 b1 b2 b3 1)) (own_D (own_at b0 b1 b2 b3 1)) (own_mk pt (own_k 1 3 0 (own_at b0 b1 b2 b3 0)) (own_D (own_at b0 b1 b2 b3 0)) s))) := by
  refine (own_go (f := 1) (i := 1) 2 (by decide) 3 _ (by decide) (by decide)).trans ?_
  refine (own_go (f := 1) (i := 2) 3 (by decide) 2 _ (by decide) (by decide)).trans ?_
  refine (own_stop _ _ (by decide)).trans ?_
  rw [own_out (f := 1) (t := 3) (i := 0) (b := own_at b0 b1 b2 b3 0) (by decide), own_out (f := 1) (t := 3) (i := 3) (b := own_at b0 b1 b2 b3 3) (by decide)]
  simp only [own_mk0]
theorem own_core_2_3 (b0 b1 b2 b3 pt : Int32) (s : Int32 × Int32 × Int32 × Int32 × Int64) : own_c (own_run b0 b1 b2 b3 3 pt 4 (own_j s 2)) = own_mk pt (own_k 2 3 3 (own_at b0 b1 b2 b3 3)) (own_D (own_at b0 b1 b2 b3 3)) (own_mk pt (own_k 2 3 2 (own_at b0 b1 b2 b3 2)) (own_D (own_at b0 b1 b2 b3 2)) (own_mk pt (own_k 2 3 1 (own_at b0 b1 b2 b3 1)) (own_D (own_at b0 b1 b2 b3 1)) (own_mk pt (own_k 2 3 0 (own_at b0 b1 b2 b3 0)) (own_D (own_at b0 b1 b2 b3 0)) s))) := by
  refine (own_go (f := 2) (i := 2) 3 (by decide) 3 _ (by decide) (by decide)).trans ?_
  refine (own_stop _ _ (by decide)).trans ?_
  rw [own_out (f := 2) (t := 3) (i := 0) (b := own_at b0 b1 b2 b3 0) (by decide), own_out (f := 2) (t := 3) (i := 1) (b := own_at b0 b1 b2 b3 1) (by decide), own_out (f := 2) (t := 3) (i := 3) (b := own_at b0 b1 b2 b3 3) (by decide)]
  simp only [own_mk0]
theorem own_core_3_3 (b0 b1 b2 b3 pt : Int32) (s : Int32 × Int32 × Int32 × Int32 × Int64) : own_c (own_run b0 b1 b2 b3 3 pt 4 (own_j s 3)) = own_mk pt (own_k 3 3 3 (own_at b0 b1 b2 b3 3)) (own_D (own_at b0 b1 b2 b3 3)) (own_mk pt (own_k 3 3 2 (own_at b0 b1 b2 b3 2)) (own_D (own_at b0 b1 b2 b3 2)) (own_mk pt (own_k 3 3 1 (own_at b0 b1 b2 b3 1)) (own_D (own_at b0 b1 b2 b3 1)) (own_mk pt (own_k 3 3 0 (own_at b0 b1 b2 b3 0)) (own_D (own_at b0 b1 b2 b3 0)) s))) := by
  refine (own_stop _ _ (by decide)).trans ?_
  rw [own_out (f := 3) (t := 3) (i := 0) (b := own_at b0 b1 b2 b3 0) (by decide), own_out (f := 3) (t := 3) (i := 1) (b := own_at b0 b1 b2 b3 1) (by decide), own_out (f := 3) (t := 3) (i := 2) (b := own_at b0 b1 b2 b3 2) (by decide), own_out (f := 3) (t := 3) (i := 3) (b := own_at b0 b1 b2 b3 3) (by decide)]
  simp only [own_mk0]
theorem own_core_0_4 (b0 b1 b2 b3 pt : Int32) (s : Int32 × Int32 × Int32 × Int32 × Int64) : own_c (own_run b0 b1 b2 b3 4 pt 4 (own_j s 0)) = own_mk pt (own_k 0 4 3 (own_at b0 b1 b2 b3 3)) (own_D (own_at b0 b1 b2 b3 3)) (own_mk pt (own_k 0 4 2 (own_at b0 b1 b2 b3 2)) (own_D (own_at b0 b1 b2 b3 2)) (own_mk pt (own_k 0 4 1 (own_at b0 b1 b2 b3 1)) (own_D (own_at b0 b1 b2 b3 1)) (own_mk pt (own_k 0 4 0 (own_at b0 b1 b2 b3 0)) (own_D (own_at b0 b1 b2 b3 0)) s))) := by
  refine (own_go (f := 0) (i := 0) 1 (by decide) 3 _ (by decide) (by decide)).trans ?_
  refine (own_go (f := 0) (i := 1) 2 (by decide) 2 _ (by decide) (by decide)).trans ?_
  refine (own_go (f := 0) (i := 2) 3 (by decide) 1 _ (by decide) (by decide)).trans ?_
  refine (own_go (f := 0) (i := 3) 4 (by decide) 0 _ (by decide) (by decide)).trans ?_
  refine (own_stop _ _ (by decide)).trans ?_
  rfl
theorem own_core_1_4 (b0 b1 b2 b3 pt : Int32) (s : Int32 × Int32 × Int32 × Int32 × Int64) : own_c (own_run b0 b1 b2 b3 4 pt 4 (own_j s 1)) = own_mk pt (own_k 1 4 3 (own_at b0 b1 b2 b3 3)) (own_D (own_at b0 b1 b2 b3 3)) (own_mk pt (own_k 1 4 2 (own_at b0 b1 b2 b3 2)) (own_D (own_at b0 b1 b2 b3 2)) (own_mk pt (own_k 1 4 1 (own_at b0 b1 b2 b3 1)) (own_D (own_at b0 b1 b2 b3 1)) (own_mk pt (own_k 1 4 0 (own_at b0 b1 b2 b3 0)) (own_D (own_at b0 b1 b2 b3 0)) s))) := by
  refine (own_go (f := 1) (i := 1) 2 (by decide) 3 _ (by decide) (by decide)).trans ?_
  refine (own_go (f := 1) (i := 2) 3 (by decide) 2 _ (by decide) (by decide)).trans ?_
  refine (own_go (f := 1) (i := 3) 4 (by decide) 1 _ (by decide) (by decide)).trans ?_
  refine (own_stop _ _ (by decide)).trans ?_
  rw [own_out (f := 1) (t := 4) (i := 0) (b := own_at b0 b1 b2 b3 0) (by decide)]
  simp only [own_mk0]
theorem own_core_2_4 (b0 b1 b2 b3 pt : Int32) (s : Int32 × Int32 × Int32 × Int32 × Int64) : own_c (own_run b0 b1 b2 b3 4 pt 4 (own_j s 2)) = own_mk pt (own_k 2 4 3 (own_at b0 b1 b2 b3 3)) (own_D (own_at b0 b1 b2 b3 3)) (own_mk pt (own_k 2 4 2 (own_at b0 b1 b2 b3 2)) (own_D (own_at b0 b1 b2 b3 2)) (own_mk pt (own_k 2 4 1 (own_at b0 b1 b2 b3 1)) (own_D (own_at b0 b1 b2 b3 1)) (own_mk pt (own_k 2 4 0 (own_at b0 b1 b2 b3 0)) (own_D (own_at b0 b1 b2 b3 0)) s))) := by
  refine (own_go (f := 2) (i := 2) 3 (by decide) 3 _ (by decide) (by decide)).trans ?_
  refine (own_go (f := 2) (i := 3) 4 (by decide) 2 _ (by decide) (by decide)).trans ?_
  refine (own_stop _ _ (by decide)).trans ?_
  rw [own_out (f := 2) (t := 4) (i := 0) (b := own_at b0 b1 b2 b3 0) (by decide), own_out (f := 2) (t := 4) (i := 1) (b := own_at b0 b1 b2 b3 1) (by decide)]
  simp only [own_mk0]
theorem own_core_3_4 (b0 b1 b2 b3 pt : Int32) (s : Int32 × Int32 × Int32 × Int32 × Int64) : own_c (own_run b0 b1 b2 b3 4 pt 4 (own_j s 3)) = own_mk pt (own_k 3 4 3 (own_at b0 b1 b2 b3 3)) (own_D (own_at b0 b1 b2 b3 3)) (own_mk pt (own_k 3 4 2 (own_at b0 b1 b2 b3 2)) (own_D (own_at b0 b1 b2 b3 2)) (own_mk pt (own_k 3 4 1 (own_at b0 b1 b2 b3 1)) (own_D (own_at b0 b1 b2 b3 1)) (own_mk pt (own_k 3 4 0 (own_at b0 b1 b2 b3 0)) (own_D (own_at b0 b1 b2 b3 0)) s))) := by
  refine (own_go (f := 3) (i := 3) 4 (by decide) 3 _ (by decide) (by decide)).trans ?_
  refine (own_stop _ _ (by decide)).trans ?_
  rw [own_out (f := 3) (t := 4) (i := 0) (b := own_at b0 b1 b2 b3 0) (by decide), own_out (f := 3) (t := 4) (i := 1) (b := own_at b0 b1 b2 b3 1) (by decide), own_out (f := 3) (t := 4) (i := 2) (b := own_at b0 b1 b2 b3 2) (by decide)]
  simp only [own_mk0]
theorem own_core_4_4 (b0 b1 b2 b3 pt : Int32) (s : Int32 × Int32 × Int32 × Int32 × Int64) : own_c (own_run b0 b1 b2 b3 4 pt 4 (own_j s 4)) = own_mk pt (own_k 4 4 3 (own_at b0 b1 b2 b3 3)) (own_D (own_at b0 b1 b2 b3 3)) (own_mk pt (own_k 4 4 2 (own_at b0 b1 b2 b3 2)) (own_D (own_at b0 b1 b2 b3 2)) (own_mk pt (own_k 4 4 1 (own_at b0 b1 b2 b3 1)) (own_D (own_at b0 b1 b2 b3 1)) (own_mk pt (own_k 4 4 0 (own_at b0 b1 b2 b3 0)) (own_D (own_at b0 b1 b2 b3 0)) s))) := by
  refine (own_stop _ _ (by decide)).trans ?_
  rw [own_out (f := 4) (t := 4) (i := 0) (b := own_at b0 b1 b2 b3 0) (by decide), own_out (f := 4) (t := 4) (i := 1) (b := own_at b0 b1 b2 b3 1) (by decide), own_out (f := 4) (t := 4) (i := 2) (b := own_at b0 b1 b2 b3 2) (by decide), own_out (f := 4) (t := 4) (i := 3) (b := own_at b0 b1 b2 b3 3) (by decide)]
  simp only [own_mk0]
theorem own_core {b0 b1 b2 b3 pt f t : Int32} (s : Int32 × Int32 × Int32 × Int32 × Int64) (hf : 0 ≤ f.toInt ∧ f.toInt ≤ t.toInt) (ht : t.toInt ≤ 4) : own_c (own_run b0 b1 b2 b3 t pt 4 (own_j s f)) = own_mk pt (own_k f t 3 (own_at b0 b1 b2 b3 3)) (own_D (own_at b0 b1 b2 b3 3)) (own_mk pt (own_k f t 2 (own_at b0 b1 b2 b3 2)) (own_D (own_at b0 b1 b2 b3 2)) (own_mk pt (own_k f t 1 (own_at b0 b1 b2 b3 1)) (own_D (own_at b0 b1 b2 b3 1)) (own_mk pt (own_k f t 0 (own_at b0 b1 b2 b3 0)) (own_D (own_at b0 b1 b2 b3 0)) s))) := by
  rcases own_five hf.1 (Int.le_trans hf.2 ht) with rfl | rfl | rfl | rfl | rfl <;> rcases own_five (Int.le_trans hf.1 hf.2) ht with rfl | rfl | rfl | rfl | rfl
  · exact own_core_0_0 b0 b1 b2 b3 pt s
  · exact own_core_0_1 b0 b1 b2 b3 pt s
  · exact own_core_0_2 b0 b1 b2 b3 pt s
  · exact own_core_0_3 b0 b1 b2 b3 pt s
  · exact own_core_0_4 b0 b1 b2 b3 pt s
  · exact absurd hf.2 (by decide)
  · exact own_core_1_1 b0 b1 b2 b3 pt s
  · exact own_core_1_2 b0 b1 b2 b3 pt s
  · exact own_core_1_3 b0 b1 b2 b3 pt s
  · exact own_core_1_4 b0 b1 b2 b3 pt s
  · exact absurd hf.2 (by decide)
  · exact absurd hf.2 (by decide)
  · exact own_core_2_2 b0 b1 b2 b3 pt s
  · exact own_core_2_3 b0 b1 b2 b3 pt s
  · exact own_core_2_4 b0 b1 b2 b3 pt s
  · exact absurd hf.2 (by decide)
  · exact absurd hf.2 (by decide)
  · exact absurd hf.2 (by decide)
  · exact own_core_3_3 b0 b1 b2 b3 pt s
  · exact own_core_3_4 b0 b1 b2 b3 pt s
  · exact absurd hf.2 (by decide)
  · exact absurd hf.2 (by decide)
  · exact absurd hf.2 (by decide)
  · exact absurd hf.2 (by decide)
  · exact own_core_4_4 b0 b1 b2 b3 pt s
def own_d (k : Fin 4) : Int32 := if k = 1 then 1 else 0
def own_o (k : Fin 4) : Int32 := if k = 2 then 1 else 0
def own_x (k : Fin 4) : Int32 := if k = 3 then 1 else 0
theorem own_dig (i f t b0 b1 b2 b3 : Int32) : Fdig i f t b0 b1 b2 b3 = own_d (own_k f t i (own_at b0 b1 b2 b3 i)) := by
  simp only [Fdig, Fin_, Fis, own_k, own_d]; generalize own_at b0 b1 b2 b3 i = b
  by_cases c1 : i < f <;> by_cases c2 : i < t <;> by_cases c3 : b < 48 <;> by_cases c4 : (57 : Int32) < b <;> by_cases c5 : b = 46 <;> simp [c1, c2, c3, c4, c5]
theorem own_dot (i f t b0 b1 b2 b3 : Int32) : Fdot i f t b0 b1 b2 b3 = own_o (own_k f t i (own_at b0 b1 b2 b3 i)) := by
  simp only [Fdot, Fin_, own_k, own_o]; generalize own_at b0 b1 b2 b3 i = b
  by_cases c1 : i < f <;> by_cases c2 : i < t <;> by_cases c3 : b < 48 <;> by_cases c4 : (57 : Int32) < b <;> by_cases c5 : b = 46 <;> simp [c1, c2, c3, c4, c5]
theorem own_oth (i f t b0 b1 b2 b3 : Int32) : Foth i f t b0 b1 b2 b3 = own_x (own_k f t i (own_at b0 b1 b2 b3 i)) := by
  simp only [Foth, Fin_, Fis, own_k, own_x]; generalize own_at b0 b1 b2 b3 i = b
  by_cases c1 : i < f <;> by_cases c2 : i < t <;> by_cases c3 : b < 48 <;> by_cases c4 : (57 : Int32) < b <;> by_cases c5 : b = 46 <;> simp [c1, c2, c3, c4, c5]
def own_h (v : Int64) (k : Fin 4) (d : Int64) : Int64 := if k = 1 then v * 10 + d else v
theorem own_hor (v : Int64) (i f t b0 b1 b2 b3 : Int32) : Fhor v i f t b0 b1 b2 b3 = own_h v (own_k f t i (own_at b0 b1 b2 b3 i)) (own_D (own_at b0 b1 b2 b3 i)) := by
  simp only [Fhor, own_dig, own_h, own_D, own_d]
  by_cases c : own_k f t i (own_at b0 b1 b2 b3 i) = 1 <;> simp [c]
theorem own_db1 (f t b0 b1 b2 b3 : Int32) : Fdb 1 f t b0 b1 b2 b3 = 0 + Fdot 0 f t b0 b1 b2 b3 := by simp [Fdb]
theorem own_db2 (f t b0 b1 b2 b3 : Int32) : Fdb 2 f t b0 b1 b2 b3 = 0 + Fdot 0 f t b0 b1 b2 b3 + Fdot 1 f t b0 b1 b2 b3 := by simp [Fdb]
theorem own_db3 (f t b0 b1 b2 b3 : Int32) : Fdb 3 f t b0 b1 b2 b3 = 0 + Fdot 0 f t b0 b1 b2 b3 + Fdot 1 f t b0 b1 b2 b3 + Fdot 2 f t b0 b1 b2 b3 := by simp [Fdb]
def own_m4 (pt : Int32) (k : Fin 4) (s : Int32 × Int32 × Int32 × Int32) : Int32 × Int32 × Int32 × Int32 :=
  if s.1 = 0 then s else if k = 0 then s else if k = 1 then (s.1, s.2.1, s.2.2.1 + 1, (if s.2.1 = 0 then s.2.2.2 else s.2.2.2 + 1))
  else if k = 2 ∧ ¬ pt = 0 ∧ s.2.1 = 0 then (s.1, 1, s.2.2.1, s.2.2.2) else (0, s.2.1, s.2.2.1, s.2.2.2)
def own_p (s : Int32 × Int32 × Int32 × Int32 × Int64) : Int32 × Int32 × Int32 × Int32 := (s.1, s.2.1, s.2.2.1, s.2.2.2.1)
theorem own_mkA {pt : Int32} {k : Fin 4} {d : Int64} {y7 y8 y9 y10 : Int32} {y11 : Int64} (c1 : y7 = 0) : own_mk pt k d (y7, y8, y9, y10, y11) = (y7, y8, y9, y10, y11) := if_pos c1
theorem own_mkB {pt : Int32} {k : Fin 4} {d : Int64} {y7 y8 y9 y10 : Int32} {y11 : Int64} (c1 : ¬ y7 = 0) (c2 : k = 0) : own_mk pt k d (y7, y8, y9, y10, y11) = (y7, y8, y9, y10, y11) := (if_neg c1).trans (if_pos c2)
theorem own_mkC {pt : Int32} {k : Fin 4} {d : Int64} {y7 y8 y9 y10 : Int32} {y11 : Int64} (c1 : ¬ y7 = 0) (c2 : ¬ k = 0) (c3 : k = 1) : own_mk pt k d (y7, y8, y9, y10, y11) = (y7, y8, y9 + 1, (if y8 = 0 then y10 else y10 + 1), y11 * 10 + d) := (if_neg c1).trans ((if_neg c2).trans (if_pos c3))
theorem own_mkD {pt : Int32} {k : Fin 4} {d : Int64} {y7 y8 y9 y10 : Int32} {y11 : Int64} (c1 : ¬ y7 = 0) (c2 : ¬ k = 0) (c3 : ¬ k = 1) (c4 : k = 2 ∧ ¬ pt = 0 ∧ y8 = 0) : own_mk pt k d (y7, y8, y9, y10, y11) = (y7, 1, y9, y10, y11) := (if_neg c1).trans ((if_neg c2).trans ((if_neg c3).trans (if_pos c4)))
theorem own_mkE {pt : Int32} {k : Fin 4} {d : Int64} {y7 y8 y9 y10 : Int32} {y11 : Int64} (c1 : ¬ y7 = 0) (c2 : ¬ k = 0) (c3 : ¬ k = 1) (c4 : ¬ (k = 2 ∧ ¬ pt = 0 ∧ y8 = 0)) : own_mk pt k d (y7, y8, y9, y10, y11) = (0, y8, y9, y10, y11) := (if_neg c1).trans ((if_neg c2).trans ((if_neg c3).trans (if_neg c4)))
theorem own_m4A {pt : Int32} {k : Fin 4} {y7 y8 y9 y10 : Int32} (c1 : y7 = 0) : own_m4 pt k (y7, y8, y9, y10) = (y7, y8, y9, y10) := if_pos c1
theorem own_m4B {pt : Int32} {k : Fin 4} {y7 y8 y9 y10 : Int32} (c1 : ¬ y7 = 0) (c2 : k = 0) : own_m4 pt k (y7, y8, y9, y10) = (y7, y8, y9, y10) := (if_neg c1).trans (if_pos c2)
theorem own_m4C {pt : Int32} {k : Fin 4} {y7 y8 y9 y10 : Int32} (c1 : ¬ y7 = 0) (c2 : ¬ k = 0) (c3 : k = 1) : own_m4 pt k (y7, y8, y9, y10) = (y7, y8, y9 + 1, (if y8 = 0 then y10 else y10 + 1)) := (if_neg c1).trans ((if_neg c2).trans (if_pos c3))
theorem own_m4D {pt : Int32} {k : Fin 4} {y7 y8 y9 y10 : Int32} (c1 : ¬ y7 = 0) (c2 : ¬ k = 0) (c3 : ¬ k = 1) (c4 : k = 2 ∧ ¬ pt = 0 ∧ y8 = 0) : own_m4 pt k (y7, y8, y9, y10) = (y7, 1, y9, y10) := (if_neg c1).trans ((if_neg c2).trans ((if_neg c3).trans (if_pos c4)))
theorem own_m4E {pt : Int32} {k : Fin 4} {y7 y8 y9 y10 : Int32} (c1 : ¬ y7 = 0) (c2 : ¬ k = 0) (c3 : ¬ k = 1) (c4 : ¬ (k = 2 ∧ ¬ pt = 0 ∧ y8 = 0)) : own_m4 pt k (y7, y8, y9, y10) = (0, y8, y9, y10) := (if_neg c1).trans ((if_neg c2).trans ((if_neg c3).trans (if_neg c4)))
theorem own_pm (pt : Int32) (k : Fin 4) (d : Int64) (s : Int32 × Int32 × Int32 × Int32 × Int64) : own_p (own_mk pt k d s) = own_m4 pt k (own_p s) := by
  obtain ⟨y7, y8, y9, y10, y11⟩ := s
  show own_p (own_mk pt k d (y7, y8, y9, y10, y11)) = own_m4 pt k (y7, y8, y9, y10)
  by_cases c1 : y7 = 0
  · rw [own_mkA c1, own_m4A c1]; rfl
  · by_cases c2 : k = 0
    · rw [own_mkB c1 c2, own_m4B c1 c2]; rfl
    · by_cases c3 : k = 1
      · rw [own_mkC c1 c2 c3, own_m4C c1 c2 c3]; rfl
      · by_cases c4 : k = 2 ∧ ¬ pt = 0 ∧ y8 = 0
        · rw [own_mkD c1 c2 c3 c4, own_m4D c1 c2 c3 c4]; rfl
        · rw [own_mkE c1 c2 c3 c4, own_m4E c1 c2 c3 c4]; rfl
theorem own_wh (pt : Int32) (k : Fin 4) (d : Int64) (s : Int32 × Int32 × Int32 × Int32 × Int64) (h : ¬ (own_mk pt k d s).1 = 0) : ¬ s.1 = 0 ∧ (own_mk pt k d s).2.2.2.2 = own_h s.2.2.2.2 k d := by
  obtain ⟨y7, y8, y9, y10, y11⟩ := s
  revert h
  by_cases c1 : y7 = 0
  · rw [own_mkA c1]; exact fun h => absurd c1 h
  · by_cases c2 : k = 0
    · rw [own_mkB c1 c2]; exact fun h => ⟨c1, (if_neg (by rw [c2]; decide)).symm⟩
    · by_cases c3 : k = 1
      · rw [own_mkC c1 c2 c3]; exact fun h => ⟨c1, (if_pos c3).symm⟩
      · by_cases c4 : k = 2 ∧ ¬ pt = 0 ∧ y8 = 0
        · rw [own_mkD c1 c2 c3 c4]; exact fun h => ⟨c1, (if_neg c3).symm⟩
        · rw [own_mkE c1 c2 c3 c4]; exact fun h => absurd rfl h
set_option maxRecDepth 65536 in
theorem own_dec : ∀ k0 k1 k2 k3 : Fin 4, ∀ pb : Bool,
    (if (own_m4 (if pb then 1 else 0) k3 (own_m4 (if pb then 1 else 0) k2 (own_m4 (if pb then 1 else 0) k1 (own_m4 (if pb then 1 else 0) k0 (1, 0, 0, 0))))).1 = (0 : Int32) then (0 : Int32) else (if (0 : Int32) < (own_m4 (if pb then 1 else 0) k3 (own_m4 (if pb then 1 else 0) k2 (own_m4 (if pb then 1 else 0) k1 (own_m4 (if pb then 1 else 0) k0 (1, 0, 0, 0))))).2.2.1 then (1 : Int32) else (0 : Int32)))
      = (if own_x k0 + own_x k1 + own_x k2 + own_x k3 = (0 : Int32) then (if (0 : Int32) < own_d k0 + own_d k1 + own_d k2 + own_d k3 then (if (if (if pb then (1 : Int32) else 0) = (0 : Int32) then (0 : Int32) else (1 : Int32)) < own_o k0 + own_o k1 + own_o k2 + own_o k3 then (0 : Int32) else (1 : Int32)) else (0 : Int32)) else (0 : Int32))
    ∧ ((own_m4 (if pb then 1 else 0) k3 (own_m4 (if pb then 1 else 0) k2 (own_m4 (if pb then 1 else 0) k1 (own_m4 (if pb then 1 else 0) k0 (1, 0, 0, 0))))).1 = (0 : Int32) ∨ (own_m4 (if pb then 1 else 0) k3 (own_m4 (if pb then 1 else 0) k2 (own_m4 (if pb then 1 else 0) k1 (own_m4 (if pb then 1 else 0) k0 (1, 0, 0, 0))))).2.2.2 = own_d k1 * (0 + own_o k0) + own_d k2 * (0 + own_o k0 + own_o k1) + own_d k3 * (0 + own_o k0 + own_o k1 + own_o k2)) := by decide +kernel
theorem own_law2 {b0 b1 b2 b3 p2 p3 pt : Int32} {d0 : Int64} {e0 r : Int32} {dg : Int64} {dc : Int32} (h : own_read b0 b1 b2 b3 p2 p3 pt d0 e0 r dg dc) (h9 : 0 ≤ p2.toInt ∧ p2.toInt ≤ 4) (h10 : p2.toInt ≤ p3.toInt ∧ p3.toInt ≤ 4) (hpt : pt = 0 ∨ pt = 1)
    {v22 v24 v25 v26 v27 v28 v29 v30 v31 v32 v33 v34 v35 v36 v37 v38 v39 v40 v44 v50 v51 v52 v53 v54 v55 v56 : Int32} {v45 v46 v47 v48 v49 : Int64}
    (hv22 : v22 = (if p2 < p3 then (if (own_at b0 b1 b2 b3 p2) = (43 : Int32) then (1 : Int32) else (if (own_at b0 b1 b2 b3 p2) = (45 : Int32) then (1 : Int32) else (0 : Int32))) else (0 : Int32)))
    (hv24 : v24 = (if v22 = (0 : Int32) then (0 : Int32) else (if (own_at b0 b1 b2 b3 p2) = (45 : Int32) then (1 : Int32) else (0 : Int32)))) (hv25 : v25 = (if v22 = (0 : Int32) then p2 else (p2 + (1 : Int32))))
    (hv26 : v26 = Fdig 0 v25 p3 b0 b1 b2 b3) (hv27 : v27 = Fdig 1 v25 p3 b0 b1 b2 b3) (hv28 : v28 = Fdig 2 v25 p3 b0 b1 b2 b3) (hv29 : v29 = Fdig 3 v25 p3 b0 b1 b2 b3) (hv30 : v30 = (((v26 + v27) + v28) + v29))
    (hv31 : v31 = Fdot 0 v25 p3 b0 b1 b2 b3) (hv32 : v32 = Fdot 1 v25 p3 b0 b1 b2 b3) (hv33 : v33 = Fdot 2 v25 p3 b0 b1 b2 b3) (hv34 : v34 = Fdot 3 v25 p3 b0 b1 b2 b3) (hv35 : v35 = (((v31 + v32) + v33) + v34))
    (hv36 : v36 = Foth 0 v25 p3 b0 b1 b2 b3) (hv37 : v37 = Foth 1 v25 p3 b0 b1 b2 b3) (hv38 : v38 = Foth 2 v25 p3 b0 b1 b2 b3) (hv39 : v39 = Foth 3 v25 p3 b0 b1 b2 b3) (hv40 : v40 = (((v36 + v37) + v38) + v39))
    (hv44 : v44 = (if v40 = (0 : Int32) then (if (0 : Int32) < v30 then (if (if pt = (0 : Int32) then (0 : Int32) else (1 : Int32)) < v35 then (0 : Int32) else (1 : Int32)) else (0 : Int32)) else (0 : Int32)))
    (hv45 : v45 = Fhor 0 0 v25 p3 b0 b1 b2 b3) (hv46 : v46 = Fhor v45 1 v25 p3 b0 b1 b2 b3) (hv47 : v47 = Fhor v46 2 v25 p3 b0 b1 b2 b3) (hv48 : v48 = Fhor v47 3 v25 p3 b0 b1 b2 b3) (hv49 : v49 = (if v24 = (0 : Int32) then v48 else (-v48)))
    (hv50 : v50 = Fdig 1 v25 p3 b0 b1 b2 b3) (hv51 : v51 = Fdb 1 v25 p3 b0 b1 b2 b3) (hv52 : v52 = Fdig 2 v25 p3 b0 b1 b2 b3) (hv53 : v53 = Fdb 2 v25 p3 b0 b1 b2 b3) (hv54 : v54 = Fdig 3 v25 p3 b0 b1 b2 b3) (hv55 : v55 = Fdb 3 v25 p3 b0 b1 b2 b3) (hv56 : v56 = (((v50 * v51) + (v52 * v53)) + (v54 * v55))) :
    r = v44 ∧ (v44 = 0 → dg = d0 ∧ dc = e0) ∧ (¬ v44 = 0 → dg = v49 ∧ dc = v56) := by
  obtain ⟨sg, first, w7, w8, w9, w10, w11, w13, hsg, hfi, hrun, hr, hdg, hdc⟩ := h
  have e1 : sg = v22 := hsg.trans hv22.symm
  subst e1
  have e2 : first = v25 := hfi.trans hv25.symm
  subst e2
  have hf : 0 ≤ first.toInt ∧ first.toInt ≤ p3.toInt := by
    by_cases q : sg = 0
    · rw [hfi, if_pos q]; exact ⟨h9.1, h10.1⟩
    · have lt : p2 < p3 := by
        by_cases z : p2 < p3
        · exact z
        · rw [if_neg z] at hsg; exact absurd hsg q
      have k := own_p1 lt h10.2 (own_ld h9 h10 lt).1 (hfi.trans (if_neg q))
      rw [Int32.lt_iff_toInt_lt] at lt; omega
  have core := own_core (b0 := b0) (b1 := b1) (b2 := b2) (b3 := b3) (pt := pt) (1, 0, 0, 0, 0) hf h10.2
  have hc : own_c (own_run b0 b1 b2 b3 p3 pt 4 (own_j (1, 0, 0, 0, 0) first)) = (w7, w8, w9, w10, w11) := by
    show own_c (own_run b0 b1 b2 b3 p3 pt 4 ((1 : Int32), (0 : Int32), (0 : Int32), (0 : Int32), (0 : Int64), first)) = _
    rw [← hrun]; rfl
  rw [hc] at core
  rw [own_dig] at hv26 hv27 hv28 hv29 hv50 hv52 hv54
  rw [own_db1] at hv51
  rw [own_db2] at hv53
  rw [own_db3] at hv55
  simp only [own_dot] at hv31 hv32 hv33 hv34 hv51 hv53 hv55
  rw [own_oth] at hv36 hv37 hv38 hv39
  rw [own_hor] at hv45 hv46 hv47 hv48
  generalize own_k first p3 0 (own_at b0 b1 b2 b3 0) = k0 at core hv26 hv31 hv36 hv45 hv51 hv53 hv55
  generalize own_k first p3 1 (own_at b0 b1 b2 b3 1) = k1 at core hv27 hv32 hv37 hv46 hv50 hv53 hv55
  generalize own_k first p3 2 (own_at b0 b1 b2 b3 2) = k2 at core hv28 hv33 hv38 hv47 hv52 hv55
  generalize own_k first p3 3 (own_at b0 b1 b2 b3 3) = k3 at core hv29 hv34 hv39 hv48 hv54
  generalize own_D (own_at b0 b1 b2 b3 0) = g0 at core hv45
  generalize own_D (own_at b0 b1 b2 b3 1) = g1 at core hv46
  generalize own_D (own_at b0 b1 b2 b3 2) = g2 at core hv47
  generalize own_D (own_at b0 b1 b2 b3 3) = g3 at core hv48
  obtain ⟨pb, hpb⟩ : ∃ pb : Bool, pt = (if pb then 1 else 0) := by
    rcases hpt with q | q
    · exact ⟨false, q⟩
    · exact ⟨true, q⟩
  obtain ⟨D1, D2⟩ := own_dec k0 k1 k2 k3 pb
  rw [← hpb] at D1 D2
  have P4 := congrArg own_p core
  rw [own_pm, own_pm, own_pm, own_pm] at P4
  have P5 : (w7, w8, w9, w10) = own_m4 pt k3 (own_m4 pt k2 (own_m4 pt k1 (own_m4 pt k0 (1, 0, 0, 0)))) := P4
  rw [← P5] at D1 D2
  have er : r = v44 := by
    rw [hr, hv44, hv40, hv30, hv35, hv36, hv37, hv38, hv39, hv26, hv27, hv28, hv29, hv31, hv32, hv33, hv34]; exact D1
  refine ⟨er, fun z => ?_, fun z => ?_⟩
  · rw [← er] at z; rw [hdg, hdc, if_pos z, if_pos z]; exact ⟨rfl, rfl⟩
  · rw [← er] at z
    have w70 : ¬ w7 = 0 := fun q => z (by rw [hr, if_pos q])
    rw [hdg, hdc, if_neg z, if_neg z]
    have c0 : ¬ (own_mk pt k3 g3 (own_mk pt k2 g2 (own_mk pt k1 g1 (own_mk pt k0 g0 (1, 0, 0, 0, 0))))).1 = 0 := by rw [← core]; exact w70
    obtain ⟨c1, x1⟩ := own_wh _ _ _ _ c0
    obtain ⟨c2, x2⟩ := own_wh _ _ _ _ c1
    obtain ⟨c3, x3⟩ := own_wh _ _ _ _ c2
    obtain ⟨c4, x4⟩ := own_wh _ _ _ _ c3
    have ew : w11 = v48 := by
      rw [hv48, hv47, hv46, hv45]
      rw [x4] at x3; rw [x3] at x2; rw [x2] at x1; rw [← core] at x1; exact x1
    refine ⟨?_, ?_⟩
    · rw [hv49, hv24, ew]
      by_cases q : sg = 0
      · rw [if_pos q, if_pos q, if_pos rfl]
      · rw [if_neg q, if_neg q]
        by_cases u : own_at b0 b1 b2 b3 p2 = 45
        · rw [if_pos u, if_pos u, if_neg (by decide)]
        · rw [if_neg u, if_neg u, if_pos rfl]
    · have E := D2.resolve_left w70
      rw [hv56, hv50, hv51, hv52, hv53, hv54, hv55]; exact E
theorem own_ten {v : Int32} (h : 0 ≤ v.toInt ∧ v.toInt ≤ 9) : v = 0 ∨ v = 1 ∨ v = 2 ∨ v = 3 ∨ v = 4 ∨ v = 5 ∨ v = 6 ∨ v = 7 ∨ v = 8 ∨ v = 9 := by
  have k : ∀ n : Int32, v.toInt = n.toInt → v = n := fun n q => Int32.toInt_inj.mp q
  have k0 := k 0; have k1 := k 1; have k2 := k 2; have k3 := k 3; have k4 := k 4; have k5 := k 5; have k6 := k 6; have k7 := k 7; have k8 := k 8; have k9 := k 9
  simp only [Int32.reduceToInt] at k0 k1 k2 k3 k4 k5 k6 k7 k8 k9
  rcases (by omega : v.toInt = 0 ∨ v.toInt = 1 ∨ v.toInt = 2 ∨ v.toInt = 3 ∨ v.toInt = 4 ∨ v.toInt = 5 ∨ v.toInt = 6 ∨ v.toInt = 7 ∨ v.toInt = 8 ∨ v.toInt = 9) with q | q | q | q | q | q | q | q | q | q
  · simp [k0 q]
  · simp [k1 q]
  · simp [k2 q]
  · simp [k3 q]
  · simp [k4 q]
  · simp [k5 q]
  · simp [k6 q]
  · simp [k7 q]
  · simp [k8 q]
  · simp [k9 q]
theorem own_cls {v w : Int32} (h : 0 ≤ v.toInt ∧ v.toInt ≤ 9) (hw : w = (((48 : Int32) + v).toInt8.toInt32)) : own_k 1 4 1 (nar .byte w) = 1 ∧ own_k 1 4 3 (nar .byte w) = 1 ∧ own_D (nar .byte w) = v.toInt64 := by
  subst hw
  rcases own_ten h with rfl | rfl | rfl | rfl | rfl | rfl | rfl | rfl | rfl | rfl <;> decide
theorem own_prior {r : Int32} {dg : Int64} {dc v12 v13 v14 v15 v16 v17 v18 : Int32} {v19 : Int64} (hv15 : v15 = (if v12 = (0 : Int32) then (43 : Int32) else (45 : Int32))) (hv16 : v16 = (v15.toInt8.toInt32)) (h13 : 0 ≤ v13.toInt ∧ v13.toInt ≤ 9) (h14 : 0 ≤ v14.toInt ∧ v14.toInt ≤ 9)
    (hv17 : v17 = (((48 : Int32) + v13).toInt8.toInt32)) (hv18 : v18 = (((48 : Int32) + v14).toInt8.toInt32)) (hv19 : v19 = (if v12 = (0 : Int32) then (((10 : Int64) * (v13.toInt64)) + (v14.toInt64)) else (-(((10 : Int64) * (v13.toInt64)) + (v14.toInt64)))))
    (h : own_read (nar .byte v16) (nar .byte v17) (nar .byte (46 : Int32)) (nar .byte v18) (0 : Int32) (4 : Int32) (1 : Int32) (0 : Int64) (0 : Int32) r dg dc) : r = 1 ∧ dg = v19 ∧ dc = 1 := by
  obtain ⟨sg, first, w7, w8, w9, w10, w11, w13, hsg, hfi, hrun, hr, hdg, hdc⟩ := h
  have a0 : own_at (nar .byte v16) (nar .byte v17) (nar .byte (46 : Int32)) (nar .byte v18) 0 = nar .byte v16 := rfl
  have a1 : own_at (nar .byte v16) (nar .byte v17) (nar .byte (46 : Int32)) (nar .byte v18) 1 = nar .byte v17 := rfl
  have a2 : own_at (nar .byte v16) (nar .byte v17) (nar .byte (46 : Int32)) (nar .byte v18) 2 = nar .byte (46 : Int32) := rfl
  have a3 : own_at (nar .byte v16) (nar .byte v17) (nar .byte (46 : Int32)) (nar .byte v18) 3 = nar .byte v18 := rfl
  have s1 : nar .byte v16 = (if v12 = (0 : Int32) then (43 : Int32) else (45 : Int32)) := by
    rw [hv16, hv15]; by_cases q : v12 = 0
    · rw [if_pos q]; decide
    · rw [if_neg q]; decide
  have esg : sg = 1 := by
    rw [hsg, if_pos (by decide), a0, s1]; by_cases q : v12 = 0
    · rw [if_pos q]; decide
    · rw [if_neg q]; decide
  have ef : first = 1 := by rw [hfi, esg]; decide
  have core := own_core (b0 := nar .byte v16) (b1 := nar .byte v17) (b2 := nar .byte (46 : Int32)) (b3 := nar .byte v18) (pt := 1) (f := 1) (t := 4) (1, 0, 0, 0, 0) (by decide) (by decide)
  have hc : own_c (own_run (nar .byte v16) (nar .byte v17) (nar .byte (46 : Int32)) (nar .byte v18) 4 1 4 (own_j (1, 0, 0, 0, 0) 1)) = (w7, w8, w9, w10, w11) := by
    rw [ef] at hrun
    show own_c (own_run (nar .byte v16) (nar .byte v17) (nar .byte (46 : Int32)) (nar .byte v18) 4 1 4 ((1 : Int32), (0 : Int32), (0 : Int32), (0 : Int32), (0 : Int64), 1)) = _
    rw [← hrun]; rfl
  obtain ⟨x1, -, y1⟩ := own_cls h13 hv17
  obtain ⟨-, x3, y3⟩ := own_cls h14 hv18
  rw [hc, a0, a1, a2, a3, own_out (i := 0) (Or.inl (by decide)), own_mk0, x1, x3, y1, y3, show own_k 1 4 2 (nar .byte (46 : Int32)) = 2 from by decide] at core
  generalize v13.toInt64 = g1 at core hv19
  generalize v14.toInt64 = g3 at core hv19
  have ev : own_mk 1 1 g3 (own_mk 1 2 (own_D (nar .byte (46 : Int32))) (own_mk 1 1 g1 (1, 0, 0, 0, 0))) = (1, 1, 2, 1, ((0 : Int64) * 10 + g1) * 10 + g3) := rfl
  rw [ev] at core
  have q7 : w7 = 1 := congrArg (·.1) core
  have q9 : w9 = 2 := congrArg (·.2.2.1) core
  have q10 : w10 = 1 := congrArg (·.2.2.2.1) core
  have q11 : w11 = ((0 : Int64) * 10 + g1) * 10 + g3 := congrArg (·.2.2.2.2) core
  have er : r = 1 := by rw [hr, q7, q9]; decide
  have e11 : w11 = (10 : Int64) * g1 + g3 := by rw [q11, Int64.zero_mul, Int64.zero_add, Int64.mul_comm]
  refine ⟨er, ?_, ?_⟩
  · rw [hdg, er, if_neg (by decide), esg, if_neg (by decide), a0, s1, e11, hv19]
    by_cases q : v12 = 0
    · rw [if_pos q, if_pos q, if_neg (by decide)]
    · rw [if_neg q, if_neg q, if_pos rfl]
  · rw [hdc, er, if_neg (by decide), q10]
theorem pd_5 : parseMethodDescriptor "(I)B" = some ⟨[.int], some .byte⟩ := by decide +kernel
theorem pd_6 : parseMethodDescriptor "(J[BIII)J" = some ⟨[.long, (.array .byte), .int, .int, .int], some .long⟩ := by decide +kernel
theorem pd_7 : parseMethodDescriptor "()V" = some ⟨[], none⟩ := by decide +kernel
theorem pd_8 : parseMethodDescriptor "([BIIZ)Z" = some ⟨[(.array .byte), .int, .int, .boolean], some .boolean⟩ := by decide +kernel
theorem pd_9 : parseMethodDescriptor "()J" = some ⟨[], some .long⟩ := by decide +kernel
theorem pd_10 : parseMethodDescriptor "()I" = some ⟨[], some .int⟩ := by decide +kernel
theorem ef_0 (m : MethodId) (x0 : Int64) (x1 : Int32) (x2 : Int32) (x3 : Int32) : entryFrame m #[(.long x0), (.int x1), (.int x2), (.int x3)] maxLocals = mkF m 0 #[.val (.long x0), .second, .val (.int x1), .val (.int x2), .val (.int x3), .unset, .unset, .unset, .unset, .unset, .unset, .unset, .unset, .unset, .unset, .unset, .unset, .unset, .unset, .unset, .unset, .unset, .unset, .unset, .unset, .unset, .unset, .unset, .unset, .unset, .unset, .unset, .unset, .unset] [] := by first | (simp [entryFrame, mkF, argsToLocals, Value.category, maxLocals]; done) | rfl
set_option maxRecDepth 65536 in
set_option maxHeartbeats 4000000 in
theorem pf0_nz82_0 (q0 : Int64) (p1 : Int32) (p2 : Int32) (p3 : Int32) (v1 : Int32) (v2 : Int32) (v3 : Int32) (v4 : Int32) (v5 : Int32) (v6 : Int32) (v7 : Int32) (v8 : Int32) (v9 : Int32) (hv1 : v1 = ((q0 &&& (65535 : Int64)).toInt32)) (hv2 : v2 = (Fpick v1)) (hv3 : v3 = ((((q0.toUInt64 >>> ((16 : Int32) &&& 0x3f).toInt64.toUInt64).toInt64) &&& (65535 : Int64)).toInt32)) (hv4 : v4 = (Fpick v3)) (hv5 : v5 = ((((q0.toUInt64 >>> ((32 : Int32) &&& 0x3f).toInt64.toUInt64).toInt64) &&& (65535 : Int64)).toInt32)) (hv6 : v6 = (Fpick v5)) (hv7 : v7 = ((((q0.toUInt64 >>> ((48 : Int32) &&& 0x3f).toInt64.toUInt64).toInt64) &&& (65535 : Int64)).toInt32)) (hv8 : v8 = (Fpick v7)) (hv9 : v9 = ((p1 &&& (7 : Int32)) % (5 : Int32))) : ¬ (((5 : Int32) - v9) = (0 : Int32)) := by
  have h9 := own_from hv9
  intro q; have k := c_isub 5 v9; rw [q] at k; simp only [Int32.reduceToInt] at k; omega
set_option maxRecDepth 65536 in
set_option maxHeartbeats 4000000 in
theorem pf_ld_1 (q0 : Int64) (p1 : Int32) (p2 : Int32) (p3 : Int32) (v1 : Int32) (v2 : Int32) (v3 : Int32) (v4 : Int32) (v5 : Int32) (v6 : Int32) (v7 : Int32) (v8 : Int32) (v9 : Int32) (v10 : Int32) (v11 : Int32) (v12 : Int32) (v13 : Int32) (v14 : Int32) (v15 : Int32) (v16 : Int32) (v17 : Int32) (v18 : Int32) (v19 : Int64) (hv1 : v1 = ((q0 &&& (65535 : Int64)).toInt32)) (hv2 : v2 = (Fpick v1)) (hv3 : v3 = ((((q0.toUInt64 >>> ((16 : Int32) &&& 0x3f).toInt64.toUInt64).toInt64) &&& (65535 : Int64)).toInt32)) (hv4 : v4 = (Fpick v3)) (hv5 : v5 = ((((q0.toUInt64 >>> ((32 : Int32) &&& 0x3f).toInt64.toUInt64).toInt64) &&& (65535 : Int64)).toInt32)) (hv6 : v6 = (Fpick v5)) (hv7 : v7 = ((((q0.toUInt64 >>> ((48 : Int32) &&& 0x3f).toInt64.toUInt64).toInt64) &&& (65535 : Int64)).toInt32)) (hv8 : v8 = (Fpick v7)) (hv9 : v9 = ((p1 &&& (7 : Int32)) % (5 : Int32))) (hv10 : v10 = (v9 + ((((p1.toUInt32 >>> ((3 : Int32) &&& 31).toUInt32).toInt32) &&& (7 : Int32)) % ((5 : Int32) - v9)))) (hv11 : v11 = (if (p2 &&& (1 : Int32)) = (0 : Int32) then (0 : Int32) else (1 : Int32))) (hv12 : v12 = (if (p3 &&& (1 : Int32)) = (0 : Int32) then (0 : Int32) else (1 : Int32))) (hv13 : v13 = ((((p3.toUInt32 >>> ((1 : Int32) &&& 31).toUInt32).toInt32) &&& (15 : Int32)) % (10 : Int32))) (hv14 : v14 = ((((p3.toUInt32 >>> ((5 : Int32) &&& 31).toUInt32).toInt32) &&& (15 : Int32)) % (10 : Int32))) (hv15 : v15 = (if v12 = (0 : Int32) then (43 : Int32) else (45 : Int32))) (hv16 : v16 = (v15.toInt8.toInt32)) (hv17 : v17 = (((48 : Int32) + v13).toInt8.toInt32)) (hv18 : v18 = (((48 : Int32) + v14).toInt8.toInt32)) (hv19 : v19 = (if v12 = (0 : Int32) then (((10 : Int64) * (v13.toInt64)) + (v14.toInt64)) else (-(((10 : Int64) * (v13.toInt64)) + (v14.toInt64))))) (hc218_19 : v9 < v10) : ¬ v9 < 0 ∧ v9 < 4 := by
  have h9 := own_from hv9
  have h10 := own_to h9 hv10
  exact own_ld h9 h10 hc218_19
set_option maxRecDepth 65536 in
set_option maxHeartbeats 4000000 in
theorem pf_ld_2 (q0 : Int64) (p1 : Int32) (p2 : Int32) (p3 : Int32) (v1 : Int32) (v2 : Int32) (v3 : Int32) (v4 : Int32) (v5 : Int32) (v6 : Int32) (v7 : Int32) (v8 : Int32) (v9 : Int32) (v10 : Int32) (v11 : Int32) (v12 : Int32) (v13 : Int32) (v14 : Int32) (v15 : Int32) (v16 : Int32) (v17 : Int32) (v18 : Int32) (v19 : Int64) (hv1 : v1 = ((q0 &&& (65535 : Int64)).toInt32)) (hv2 : v2 = (Fpick v1)) (hv3 : v3 = ((((q0.toUInt64 >>> ((16 : Int32) &&& 0x3f).toInt64.toUInt64).toInt64) &&& (65535 : Int64)).toInt32)) (hv4 : v4 = (Fpick v3)) (hv5 : v5 = ((((q0.toUInt64 >>> ((32 : Int32) &&& 0x3f).toInt64.toUInt64).toInt64) &&& (65535 : Int64)).toInt32)) (hv6 : v6 = (Fpick v5)) (hv7 : v7 = ((((q0.toUInt64 >>> ((48 : Int32) &&& 0x3f).toInt64.toUInt64).toInt64) &&& (65535 : Int64)).toInt32)) (hv8 : v8 = (Fpick v7)) (hv9 : v9 = ((p1 &&& (7 : Int32)) % (5 : Int32))) (hv10 : v10 = (v9 + ((((p1.toUInt32 >>> ((3 : Int32) &&& 31).toUInt32).toInt32) &&& (7 : Int32)) % ((5 : Int32) - v9)))) (hv11 : v11 = (if (p2 &&& (1 : Int32)) = (0 : Int32) then (0 : Int32) else (1 : Int32))) (hv12 : v12 = (if (p3 &&& (1 : Int32)) = (0 : Int32) then (0 : Int32) else (1 : Int32))) (hv13 : v13 = ((((p3.toUInt32 >>> ((1 : Int32) &&& 31).toUInt32).toInt32) &&& (15 : Int32)) % (10 : Int32))) (hv14 : v14 = ((((p3.toUInt32 >>> ((5 : Int32) &&& 31).toUInt32).toInt32) &&& (15 : Int32)) % (10 : Int32))) (hv15 : v15 = (if v12 = (0 : Int32) then (43 : Int32) else (45 : Int32))) (hv16 : v16 = (v15.toInt8.toInt32)) (hv17 : v17 = (((48 : Int32) + v13).toInt8.toInt32)) (hv18 : v18 = (((48 : Int32) + v14).toInt8.toInt32)) (hv19 : v19 = (if v12 = (0 : Int32) then (((10 : Int64) * (v13.toInt64)) + (v14.toInt64)) else (-(((10 : Int64) * (v13.toInt64)) + (v14.toInt64))))) (hc218_19 : v9 < v10) (hc228_21 : ¬ ((own_at (nar .byte v2) (nar .byte v4) (nar .byte v6) (nar .byte v8) v9) = (43 : Int32))) : ¬ v9 < 0 ∧ v9 < 4 := by
  have h9 := own_from hv9
  have h10 := own_to h9 hv10
  exact own_ld h9 h10 hc218_19
set_option maxRecDepth 65536 in
set_option maxHeartbeats 4000000 in
theorem pf_ld_3 (q0 : Int64) (p1 : Int32) (p2 : Int32) (p3 : Int32) (v1 : Int32) (v2 : Int32) (v3 : Int32) (v4 : Int32) (v5 : Int32) (v6 : Int32) (v7 : Int32) (v8 : Int32) (v9 : Int32) (v10 : Int32) (v11 : Int32) (v12 : Int32) (v13 : Int32) (v14 : Int32) (v15 : Int32) (v16 : Int32) (v17 : Int32) (v18 : Int32) (v19 : Int64) (v22 : Int32) (hv1 : v1 = ((q0 &&& (65535 : Int64)).toInt32)) (hv2 : v2 = (Fpick v1)) (hv3 : v3 = ((((q0.toUInt64 >>> ((16 : Int32) &&& 0x3f).toInt64.toUInt64).toInt64) &&& (65535 : Int64)).toInt32)) (hv4 : v4 = (Fpick v3)) (hv5 : v5 = ((((q0.toUInt64 >>> ((32 : Int32) &&& 0x3f).toInt64.toUInt64).toInt64) &&& (65535 : Int64)).toInt32)) (hv6 : v6 = (Fpick v5)) (hv7 : v7 = ((((q0.toUInt64 >>> ((48 : Int32) &&& 0x3f).toInt64.toUInt64).toInt64) &&& (65535 : Int64)).toInt32)) (hv8 : v8 = (Fpick v7)) (hv9 : v9 = ((p1 &&& (7 : Int32)) % (5 : Int32))) (hv10 : v10 = (v9 + ((((p1.toUInt32 >>> ((3 : Int32) &&& 31).toUInt32).toInt32) &&& (7 : Int32)) % ((5 : Int32) - v9)))) (hv11 : v11 = (if (p2 &&& (1 : Int32)) = (0 : Int32) then (0 : Int32) else (1 : Int32))) (hv12 : v12 = (if (p3 &&& (1 : Int32)) = (0 : Int32) then (0 : Int32) else (1 : Int32))) (hv13 : v13 = ((((p3.toUInt32 >>> ((1 : Int32) &&& 31).toUInt32).toInt32) &&& (15 : Int32)) % (10 : Int32))) (hv14 : v14 = ((((p3.toUInt32 >>> ((5 : Int32) &&& 31).toUInt32).toInt32) &&& (15 : Int32)) % (10 : Int32))) (hv15 : v15 = (if v12 = (0 : Int32) then (43 : Int32) else (45 : Int32))) (hv16 : v16 = (v15.toInt8.toInt32)) (hv17 : v17 = (((48 : Int32) + v13).toInt8.toInt32)) (hv18 : v18 = (((48 : Int32) + v14).toInt8.toInt32)) (hv19 : v19 = (if v12 = (0 : Int32) then (((10 : Int64) * (v13.toInt64)) + (v14.toInt64)) else (-(((10 : Int64) * (v13.toInt64)) + (v14.toInt64))))) (hv22 : v22 = (if v9 < v10 then (if (own_at (nar .byte v2) (nar .byte v4) (nar .byte v6) (nar .byte v8) v9) = (43 : Int32) then (1 : Int32) else (if (own_at (nar .byte v2) (nar .byte v4) (nar .byte v6) (nar .byte v8) v9) = (45 : Int32) then (1 : Int32) else (0 : Int32))) else (0 : Int32))) (hc250_24 : ¬ (v22 = (0 : Int32))) : ¬ v9 < 0 ∧ v9 < 4 := by
  have h9 := own_from hv9
  have h10 := own_to h9 hv10
  have lt : v9 < v10 := by
    by_cases z : v9 < v10
    · exact z
    · exact absurd (by rw [hv22, if_neg z]) hc250_24
  exact own_ld h9 h10 lt
set_option maxRecDepth 65536 in
set_option maxHeartbeats 4000000 in
theorem pf0_fr0_4 (q0 : Int64) (p1 : Int32) (p2 : Int32) (p3 : Int32) (v1 : Int32) (v2 : Int32) (v3 : Int32) (v4 : Int32) (v5 : Int32) (v6 : Int32) (v7 : Int32) (v8 : Int32) (v9 : Int32) (v10 : Int32) (v11 : Int32) (v12 : Int32) (v13 : Int32) (v14 : Int32) (v15 : Int32) (v16 : Int32) (v17 : Int32) (v18 : Int32) (v19 : Int64) (v22 : Int32) (v24 : Int32) (v25 : Int32) (v26 : Int32) (v27 : Int32) (v28 : Int32) (v29 : Int32) (v30 : Int32) (v31 : Int32) (v32 : Int32) (v33 : Int32) (v34 : Int32) (v35 : Int32) (v36 : Int32) (v37 : Int32) (v38 : Int32) (v39 : Int32) (v40 : Int32) (v44 : Int32) (v45 : Int64) (v46 : Int64) (v47 : Int64) (v48 : Int64) (v49 : Int64) (v50 : Int32) (v51 : Int32) (v52 : Int32) (v53 : Int32) (v54 : Int32) (v55 : Int32) (v56 : Int32) (r57_r : Int32) (r57_dg : Int64) (r57_dc : Int32) (v59 : Int32) (hv1 : v1 = ((q0 &&& (65535 : Int64)).toInt32)) (hv2 : v2 = (Fpick v1)) (hv3 : v3 = ((((q0.toUInt64 >>> ((16 : Int32) &&& 0x3f).toInt64.toUInt64).toInt64) &&& (65535 : Int64)).toInt32)) (hv4 : v4 = (Fpick v3)) (hv5 : v5 = ((((q0.toUInt64 >>> ((32 : Int32) &&& 0x3f).toInt64.toUInt64).toInt64) &&& (65535 : Int64)).toInt32)) (hv6 : v6 = (Fpick v5)) (hv7 : v7 = ((((q0.toUInt64 >>> ((48 : Int32) &&& 0x3f).toInt64.toUInt64).toInt64) &&& (65535 : Int64)).toInt32)) (hv8 : v8 = (Fpick v7)) (hv9 : v9 = ((p1 &&& (7 : Int32)) % (5 : Int32))) (hv10 : v10 = (v9 + ((((p1.toUInt32 >>> ((3 : Int32) &&& 31).toUInt32).toInt32) &&& (7 : Int32)) % ((5 : Int32) - v9)))) (hv11 : v11 = (if (p2 &&& (1 : Int32)) = (0 : Int32) then (0 : Int32) else (1 : Int32))) (hv12 : v12 = (if (p3 &&& (1 : Int32)) = (0 : Int32) then (0 : Int32) else (1 : Int32))) (hv13 : v13 = ((((p3.toUInt32 >>> ((1 : Int32) &&& 31).toUInt32).toInt32) &&& (15 : Int32)) % (10 : Int32))) (hv14 : v14 = ((((p3.toUInt32 >>> ((5 : Int32) &&& 31).toUInt32).toInt32) &&& (15 : Int32)) % (10 : Int32))) (hv15 : v15 = (if v12 = (0 : Int32) then (43 : Int32) else (45 : Int32))) (hv16 : v16 = (v15.toInt8.toInt32)) (hv17 : v17 = (((48 : Int32) + v13).toInt8.toInt32)) (hv18 : v18 = (((48 : Int32) + v14).toInt8.toInt32)) (hv19 : v19 = (if v12 = (0 : Int32) then (((10 : Int64) * (v13.toInt64)) + (v14.toInt64)) else (-(((10 : Int64) * (v13.toInt64)) + (v14.toInt64))))) (hv22 : v22 = (if v9 < v10 then (if (own_at (nar .byte v2) (nar .byte v4) (nar .byte v6) (nar .byte v8) v9) = (43 : Int32) then (1 : Int32) else (if (own_at (nar .byte v2) (nar .byte v4) (nar .byte v6) (nar .byte v8) v9) = (45 : Int32) then (1 : Int32) else (0 : Int32))) else (0 : Int32))) (hv24 : v24 = (if v22 = (0 : Int32) then (0 : Int32) else (if (own_at (nar .byte v2) (nar .byte v4) (nar .byte v6) (nar .byte v8) v9) = (45 : Int32) then (1 : Int32) else (0 : Int32)))) (hv25 : v25 = (if v22 = (0 : Int32) then v9 else (v9 + (1 : Int32)))) (hv26 : v26 = (Fdig (0 : Int32) v25 v10 (nar .byte v2) (nar .byte v4) (nar .byte v6) (nar .byte v8))) (hv27 : v27 = (Fdig (1 : Int32) v25 v10 (nar .byte v2) (nar .byte v4) (nar .byte v6) (nar .byte v8))) (hv28 : v28 = (Fdig (2 : Int32) v25 v10 (nar .byte v2) (nar .byte v4) (nar .byte v6) (nar .byte v8))) (hv29 : v29 = (Fdig (3 : Int32) v25 v10 (nar .byte v2) (nar .byte v4) (nar .byte v6) (nar .byte v8))) (hv30 : v30 = (((v26 + v27) + v28) + v29)) (hv31 : v31 = (Fdot (0 : Int32) v25 v10 (nar .byte v2) (nar .byte v4) (nar .byte v6) (nar .byte v8))) (hv32 : v32 = (Fdot (1 : Int32) v25 v10 (nar .byte v2) (nar .byte v4) (nar .byte v6) (nar .byte v8))) (hv33 : v33 = (Fdot (2 : Int32) v25 v10 (nar .byte v2) (nar .byte v4) (nar .byte v6) (nar .byte v8))) (hv34 : v34 = (Fdot (3 : Int32) v25 v10 (nar .byte v2) (nar .byte v4) (nar .byte v6) (nar .byte v8))) (hv35 : v35 = (((v31 + v32) + v33) + v34)) (hv36 : v36 = (Foth (0 : Int32) v25 v10 (nar .byte v2) (nar .byte v4) (nar .byte v6) (nar .byte v8))) (hv37 : v37 = (Foth (1 : Int32) v25 v10 (nar .byte v2) (nar .byte v4) (nar .byte v6) (nar .byte v8))) (hv38 : v38 = (Foth (2 : Int32) v25 v10 (nar .byte v2) (nar .byte v4) (nar .byte v6) (nar .byte v8))) (hv39 : v39 = (Foth (3 : Int32) v25 v10 (nar .byte v2) (nar .byte v4) (nar .byte v6) (nar .byte v8))) (hv40 : v40 = (((v36 + v37) + v38) + v39)) (hv44 : v44 = (if v40 = (0 : Int32) then (if (0 : Int32) < v30 then (if (if v11 = (0 : Int32) then (0 : Int32) else (1 : Int32)) < v35 then (0 : Int32) else (1 : Int32)) else (0 : Int32)) else (0 : Int32))) (hv45 : v45 = (Fhor (0 : Int64) (0 : Int32) v25 v10 (nar .byte v2) (nar .byte v4) (nar .byte v6) (nar .byte v8))) (hv46 : v46 = (Fhor v45 (1 : Int32) v25 v10 (nar .byte v2) (nar .byte v4) (nar .byte v6) (nar .byte v8))) (hv47 : v47 = (Fhor v46 (2 : Int32) v25 v10 (nar .byte v2) (nar .byte v4) (nar .byte v6) (nar .byte v8))) (hv48 : v48 = (Fhor v47 (3 : Int32) v25 v10 (nar .byte v2) (nar .byte v4) (nar .byte v6) (nar .byte v8))) (hv49 : v49 = (if v24 = (0 : Int32) then v48 else (-v48))) (hv50 : v50 = (Fdig (1 : Int32) v25 v10 (nar .byte v2) (nar .byte v4) (nar .byte v6) (nar .byte v8))) (hv51 : v51 = (Fdb (1 : Int32) v25 v10 (nar .byte v2) (nar .byte v4) (nar .byte v6) (nar .byte v8))) (hv52 : v52 = (Fdig (2 : Int32) v25 v10 (nar .byte v2) (nar .byte v4) (nar .byte v6) (nar .byte v8))) (hv53 : v53 = (Fdb (2 : Int32) v25 v10 (nar .byte v2) (nar .byte v4) (nar .byte v6) (nar .byte v8))) (hv54 : v54 = (Fdig (3 : Int32) v25 v10 (nar .byte v2) (nar .byte v4) (nar .byte v6) (nar .byte v8))) (hv55 : v55 = (Fdb (3 : Int32) v25 v10 (nar .byte v2) (nar .byte v4) (nar .byte v6) (nar .byte v8))) (hv56 : v56 = (((v50 * v51) + (v52 * v53)) + (v54 * v55))) (hv59 : v59 = (if r57_r = (0 : Int32) then (0 : Int32) else (if r57_dg = v19 then (if r57_dc = (1 : Int32) then (1 : Int32) else (0 : Int32)) else (0 : Int32)))) (qf57_2 : own_read (nar .byte v16) (nar .byte v17) (nar .byte (46 : Int32)) (nar .byte v18) (0 : Int32) (4 : Int32) (1 : Int32) (0 : Int64) (0 : Int32) r57_r r57_dg r57_dc) : ¬ v9 < 0 := by
  have h9 := own_from hv9
  rw [Int32.lt_iff_toInt_lt]; simp only [Int32.reduceToInt]; omega
set_option maxRecDepth 65536 in
set_option maxHeartbeats 4000000 in
theorem pf0_to4_5 (q0 : Int64) (p1 : Int32) (p2 : Int32) (p3 : Int32) (v1 : Int32) (v2 : Int32) (v3 : Int32) (v4 : Int32) (v5 : Int32) (v6 : Int32) (v7 : Int32) (v8 : Int32) (v9 : Int32) (v10 : Int32) (v11 : Int32) (v12 : Int32) (v13 : Int32) (v14 : Int32) (v15 : Int32) (v16 : Int32) (v17 : Int32) (v18 : Int32) (v19 : Int64) (v22 : Int32) (v24 : Int32) (v25 : Int32) (v26 : Int32) (v27 : Int32) (v28 : Int32) (v29 : Int32) (v30 : Int32) (v31 : Int32) (v32 : Int32) (v33 : Int32) (v34 : Int32) (v35 : Int32) (v36 : Int32) (v37 : Int32) (v38 : Int32) (v39 : Int32) (v40 : Int32) (v44 : Int32) (v45 : Int64) (v46 : Int64) (v47 : Int64) (v48 : Int64) (v49 : Int64) (v50 : Int32) (v51 : Int32) (v52 : Int32) (v53 : Int32) (v54 : Int32) (v55 : Int32) (v56 : Int32) (r57_r : Int32) (r57_dg : Int64) (r57_dc : Int32) (v59 : Int32) (hv1 : v1 = ((q0 &&& (65535 : Int64)).toInt32)) (hv2 : v2 = (Fpick v1)) (hv3 : v3 = ((((q0.toUInt64 >>> ((16 : Int32) &&& 0x3f).toInt64.toUInt64).toInt64) &&& (65535 : Int64)).toInt32)) (hv4 : v4 = (Fpick v3)) (hv5 : v5 = ((((q0.toUInt64 >>> ((32 : Int32) &&& 0x3f).toInt64.toUInt64).toInt64) &&& (65535 : Int64)).toInt32)) (hv6 : v6 = (Fpick v5)) (hv7 : v7 = ((((q0.toUInt64 >>> ((48 : Int32) &&& 0x3f).toInt64.toUInt64).toInt64) &&& (65535 : Int64)).toInt32)) (hv8 : v8 = (Fpick v7)) (hv9 : v9 = ((p1 &&& (7 : Int32)) % (5 : Int32))) (hv10 : v10 = (v9 + ((((p1.toUInt32 >>> ((3 : Int32) &&& 31).toUInt32).toInt32) &&& (7 : Int32)) % ((5 : Int32) - v9)))) (hv11 : v11 = (if (p2 &&& (1 : Int32)) = (0 : Int32) then (0 : Int32) else (1 : Int32))) (hv12 : v12 = (if (p3 &&& (1 : Int32)) = (0 : Int32) then (0 : Int32) else (1 : Int32))) (hv13 : v13 = ((((p3.toUInt32 >>> ((1 : Int32) &&& 31).toUInt32).toInt32) &&& (15 : Int32)) % (10 : Int32))) (hv14 : v14 = ((((p3.toUInt32 >>> ((5 : Int32) &&& 31).toUInt32).toInt32) &&& (15 : Int32)) % (10 : Int32))) (hv15 : v15 = (if v12 = (0 : Int32) then (43 : Int32) else (45 : Int32))) (hv16 : v16 = (v15.toInt8.toInt32)) (hv17 : v17 = (((48 : Int32) + v13).toInt8.toInt32)) (hv18 : v18 = (((48 : Int32) + v14).toInt8.toInt32)) (hv19 : v19 = (if v12 = (0 : Int32) then (((10 : Int64) * (v13.toInt64)) + (v14.toInt64)) else (-(((10 : Int64) * (v13.toInt64)) + (v14.toInt64))))) (hv22 : v22 = (if v9 < v10 then (if (own_at (nar .byte v2) (nar .byte v4) (nar .byte v6) (nar .byte v8) v9) = (43 : Int32) then (1 : Int32) else (if (own_at (nar .byte v2) (nar .byte v4) (nar .byte v6) (nar .byte v8) v9) = (45 : Int32) then (1 : Int32) else (0 : Int32))) else (0 : Int32))) (hv24 : v24 = (if v22 = (0 : Int32) then (0 : Int32) else (if (own_at (nar .byte v2) (nar .byte v4) (nar .byte v6) (nar .byte v8) v9) = (45 : Int32) then (1 : Int32) else (0 : Int32)))) (hv25 : v25 = (if v22 = (0 : Int32) then v9 else (v9 + (1 : Int32)))) (hv26 : v26 = (Fdig (0 : Int32) v25 v10 (nar .byte v2) (nar .byte v4) (nar .byte v6) (nar .byte v8))) (hv27 : v27 = (Fdig (1 : Int32) v25 v10 (nar .byte v2) (nar .byte v4) (nar .byte v6) (nar .byte v8))) (hv28 : v28 = (Fdig (2 : Int32) v25 v10 (nar .byte v2) (nar .byte v4) (nar .byte v6) (nar .byte v8))) (hv29 : v29 = (Fdig (3 : Int32) v25 v10 (nar .byte v2) (nar .byte v4) (nar .byte v6) (nar .byte v8))) (hv30 : v30 = (((v26 + v27) + v28) + v29)) (hv31 : v31 = (Fdot (0 : Int32) v25 v10 (nar .byte v2) (nar .byte v4) (nar .byte v6) (nar .byte v8))) (hv32 : v32 = (Fdot (1 : Int32) v25 v10 (nar .byte v2) (nar .byte v4) (nar .byte v6) (nar .byte v8))) (hv33 : v33 = (Fdot (2 : Int32) v25 v10 (nar .byte v2) (nar .byte v4) (nar .byte v6) (nar .byte v8))) (hv34 : v34 = (Fdot (3 : Int32) v25 v10 (nar .byte v2) (nar .byte v4) (nar .byte v6) (nar .byte v8))) (hv35 : v35 = (((v31 + v32) + v33) + v34)) (hv36 : v36 = (Foth (0 : Int32) v25 v10 (nar .byte v2) (nar .byte v4) (nar .byte v6) (nar .byte v8))) (hv37 : v37 = (Foth (1 : Int32) v25 v10 (nar .byte v2) (nar .byte v4) (nar .byte v6) (nar .byte v8))) (hv38 : v38 = (Foth (2 : Int32) v25 v10 (nar .byte v2) (nar .byte v4) (nar .byte v6) (nar .byte v8))) (hv39 : v39 = (Foth (3 : Int32) v25 v10 (nar .byte v2) (nar .byte v4) (nar .byte v6) (nar .byte v8))) (hv40 : v40 = (((v36 + v37) + v38) + v39)) (hv44 : v44 = (if v40 = (0 : Int32) then (if (0 : Int32) < v30 then (if (if v11 = (0 : Int32) then (0 : Int32) else (1 : Int32)) < v35 then (0 : Int32) else (1 : Int32)) else (0 : Int32)) else (0 : Int32))) (hv45 : v45 = (Fhor (0 : Int64) (0 : Int32) v25 v10 (nar .byte v2) (nar .byte v4) (nar .byte v6) (nar .byte v8))) (hv46 : v46 = (Fhor v45 (1 : Int32) v25 v10 (nar .byte v2) (nar .byte v4) (nar .byte v6) (nar .byte v8))) (hv47 : v47 = (Fhor v46 (2 : Int32) v25 v10 (nar .byte v2) (nar .byte v4) (nar .byte v6) (nar .byte v8))) (hv48 : v48 = (Fhor v47 (3 : Int32) v25 v10 (nar .byte v2) (nar .byte v4) (nar .byte v6) (nar .byte v8))) (hv49 : v49 = (if v24 = (0 : Int32) then v48 else (-v48))) (hv50 : v50 = (Fdig (1 : Int32) v25 v10 (nar .byte v2) (nar .byte v4) (nar .byte v6) (nar .byte v8))) (hv51 : v51 = (Fdb (1 : Int32) v25 v10 (nar .byte v2) (nar .byte v4) (nar .byte v6) (nar .byte v8))) (hv52 : v52 = (Fdig (2 : Int32) v25 v10 (nar .byte v2) (nar .byte v4) (nar .byte v6) (nar .byte v8))) (hv53 : v53 = (Fdb (2 : Int32) v25 v10 (nar .byte v2) (nar .byte v4) (nar .byte v6) (nar .byte v8))) (hv54 : v54 = (Fdig (3 : Int32) v25 v10 (nar .byte v2) (nar .byte v4) (nar .byte v6) (nar .byte v8))) (hv55 : v55 = (Fdb (3 : Int32) v25 v10 (nar .byte v2) (nar .byte v4) (nar .byte v6) (nar .byte v8))) (hv56 : v56 = (((v50 * v51) + (v52 * v53)) + (v54 * v55))) (hv59 : v59 = (if r57_r = (0 : Int32) then (0 : Int32) else (if r57_dg = v19 then (if r57_dc = (1 : Int32) then (1 : Int32) else (0 : Int32)) else (0 : Int32)))) (qf57_2 : own_read (nar .byte v16) (nar .byte v17) (nar .byte (46 : Int32)) (nar .byte v18) (0 : Int32) (4 : Int32) (1 : Int32) (0 : Int64) (0 : Int32) r57_r r57_dg r57_dc) : v10.toInt ≤ 4 := by
  have h9 := own_from hv9
  have h10 := own_to h9 hv10
  exact h10.2
set_option maxRecDepth 65536 in
set_option maxHeartbeats 4000000 in
theorem pl_0_0 (q0 : Int64) (p1 : Int32) (p2 : Int32) (p3 : Int32) (v1 : Int32) (v2 : Int32) (v3 : Int32) (v4 : Int32) (v5 : Int32) (v6 : Int32) (v7 : Int32) (v8 : Int32) (v9 : Int32) (v10 : Int32) (v11 : Int32) (v12 : Int32) (v13 : Int32) (v14 : Int32) (v15 : Int32) (v16 : Int32) (v17 : Int32) (v18 : Int32) (v19 : Int64) (v22 : Int32) (v24 : Int32) (v25 : Int32) (v26 : Int32) (v27 : Int32) (v28 : Int32) (v29 : Int32) (v30 : Int32) (v31 : Int32) (v32 : Int32) (v33 : Int32) (v34 : Int32) (v35 : Int32) (v36 : Int32) (v37 : Int32) (v38 : Int32) (v39 : Int32) (v40 : Int32) (v44 : Int32) (v45 : Int64) (v46 : Int64) (v47 : Int64) (v48 : Int64) (v49 : Int64) (v50 : Int32) (v51 : Int32) (v52 : Int32) (v53 : Int32) (v54 : Int32) (v55 : Int32) (v56 : Int32) (r57_r : Int32) (r57_dg : Int64) (r57_dc : Int32) (v59 : Int32) (r65_r : Int32) (r65_dg : Int64) (r65_dc : Int32) (v66 : Int32) (hv1 : v1 = ((q0 &&& (65535 : Int64)).toInt32)) (hv2 : v2 = (Fpick v1)) (hv3 : v3 = ((((q0.toUInt64 >>> ((16 : Int32) &&& 0x3f).toInt64.toUInt64).toInt64) &&& (65535 : Int64)).toInt32)) (hv4 : v4 = (Fpick v3)) (hv5 : v5 = ((((q0.toUInt64 >>> ((32 : Int32) &&& 0x3f).toInt64.toUInt64).toInt64) &&& (65535 : Int64)).toInt32)) (hv6 : v6 = (Fpick v5)) (hv7 : v7 = ((((q0.toUInt64 >>> ((48 : Int32) &&& 0x3f).toInt64.toUInt64).toInt64) &&& (65535 : Int64)).toInt32)) (hv8 : v8 = (Fpick v7)) (hv9 : v9 = ((p1 &&& (7 : Int32)) % (5 : Int32))) (hv10 : v10 = (v9 + ((((p1.toUInt32 >>> ((3 : Int32) &&& 31).toUInt32).toInt32) &&& (7 : Int32)) % ((5 : Int32) - v9)))) (hv11 : v11 = (if (p2 &&& (1 : Int32)) = (0 : Int32) then (0 : Int32) else (1 : Int32))) (hv12 : v12 = (if (p3 &&& (1 : Int32)) = (0 : Int32) then (0 : Int32) else (1 : Int32))) (hv13 : v13 = ((((p3.toUInt32 >>> ((1 : Int32) &&& 31).toUInt32).toInt32) &&& (15 : Int32)) % (10 : Int32))) (hv14 : v14 = ((((p3.toUInt32 >>> ((5 : Int32) &&& 31).toUInt32).toInt32) &&& (15 : Int32)) % (10 : Int32))) (hv15 : v15 = (if v12 = (0 : Int32) then (43 : Int32) else (45 : Int32))) (hv16 : v16 = (v15.toInt8.toInt32)) (hv17 : v17 = (((48 : Int32) + v13).toInt8.toInt32)) (hv18 : v18 = (((48 : Int32) + v14).toInt8.toInt32)) (hv19 : v19 = (if v12 = (0 : Int32) then (((10 : Int64) * (v13.toInt64)) + (v14.toInt64)) else (-(((10 : Int64) * (v13.toInt64)) + (v14.toInt64))))) (hv22 : v22 = (if v9 < v10 then (if (own_at (nar .byte v2) (nar .byte v4) (nar .byte v6) (nar .byte v8) v9) = (43 : Int32) then (1 : Int32) else (if (own_at (nar .byte v2) (nar .byte v4) (nar .byte v6) (nar .byte v8) v9) = (45 : Int32) then (1 : Int32) else (0 : Int32))) else (0 : Int32))) (hv24 : v24 = (if v22 = (0 : Int32) then (0 : Int32) else (if (own_at (nar .byte v2) (nar .byte v4) (nar .byte v6) (nar .byte v8) v9) = (45 : Int32) then (1 : Int32) else (0 : Int32)))) (hv25 : v25 = (if v22 = (0 : Int32) then v9 else (v9 + (1 : Int32)))) (hv26 : v26 = (Fdig (0 : Int32) v25 v10 (nar .byte v2) (nar .byte v4) (nar .byte v6) (nar .byte v8))) (hv27 : v27 = (Fdig (1 : Int32) v25 v10 (nar .byte v2) (nar .byte v4) (nar .byte v6) (nar .byte v8))) (hv28 : v28 = (Fdig (2 : Int32) v25 v10 (nar .byte v2) (nar .byte v4) (nar .byte v6) (nar .byte v8))) (hv29 : v29 = (Fdig (3 : Int32) v25 v10 (nar .byte v2) (nar .byte v4) (nar .byte v6) (nar .byte v8))) (hv30 : v30 = (((v26 + v27) + v28) + v29)) (hv31 : v31 = (Fdot (0 : Int32) v25 v10 (nar .byte v2) (nar .byte v4) (nar .byte v6) (nar .byte v8))) (hv32 : v32 = (Fdot (1 : Int32) v25 v10 (nar .byte v2) (nar .byte v4) (nar .byte v6) (nar .byte v8))) (hv33 : v33 = (Fdot (2 : Int32) v25 v10 (nar .byte v2) (nar .byte v4) (nar .byte v6) (nar .byte v8))) (hv34 : v34 = (Fdot (3 : Int32) v25 v10 (nar .byte v2) (nar .byte v4) (nar .byte v6) (nar .byte v8))) (hv35 : v35 = (((v31 + v32) + v33) + v34)) (hv36 : v36 = (Foth (0 : Int32) v25 v10 (nar .byte v2) (nar .byte v4) (nar .byte v6) (nar .byte v8))) (hv37 : v37 = (Foth (1 : Int32) v25 v10 (nar .byte v2) (nar .byte v4) (nar .byte v6) (nar .byte v8))) (hv38 : v38 = (Foth (2 : Int32) v25 v10 (nar .byte v2) (nar .byte v4) (nar .byte v6) (nar .byte v8))) (hv39 : v39 = (Foth (3 : Int32) v25 v10 (nar .byte v2) (nar .byte v4) (nar .byte v6) (nar .byte v8))) (hv40 : v40 = (((v36 + v37) + v38) + v39)) (hv44 : v44 = (if v40 = (0 : Int32) then (if (0 : Int32) < v30 then (if (if v11 = (0 : Int32) then (0 : Int32) else (1 : Int32)) < v35 then (0 : Int32) else (1 : Int32)) else (0 : Int32)) else (0 : Int32))) (hv45 : v45 = (Fhor (0 : Int64) (0 : Int32) v25 v10 (nar .byte v2) (nar .byte v4) (nar .byte v6) (nar .byte v8))) (hv46 : v46 = (Fhor v45 (1 : Int32) v25 v10 (nar .byte v2) (nar .byte v4) (nar .byte v6) (nar .byte v8))) (hv47 : v47 = (Fhor v46 (2 : Int32) v25 v10 (nar .byte v2) (nar .byte v4) (nar .byte v6) (nar .byte v8))) (hv48 : v48 = (Fhor v47 (3 : Int32) v25 v10 (nar .byte v2) (nar .byte v4) (nar .byte v6) (nar .byte v8))) (hv49 : v49 = (if v24 = (0 : Int32) then v48 else (-v48))) (hv50 : v50 = (Fdig (1 : Int32) v25 v10 (nar .byte v2) (nar .byte v4) (nar .byte v6) (nar .byte v8))) (hv51 : v51 = (Fdb (1 : Int32) v25 v10 (nar .byte v2) (nar .byte v4) (nar .byte v6) (nar .byte v8))) (hv52 : v52 = (Fdig (2 : Int32) v25 v10 (nar .byte v2) (nar .byte v4) (nar .byte v6) (nar .byte v8))) (hv53 : v53 = (Fdb (2 : Int32) v25 v10 (nar .byte v2) (nar .byte v4) (nar .byte v6) (nar .byte v8))) (hv54 : v54 = (Fdig (3 : Int32) v25 v10 (nar .byte v2) (nar .byte v4) (nar .byte v6) (nar .byte v8))) (hv55 : v55 = (Fdb (3 : Int32) v25 v10 (nar .byte v2) (nar .byte v4) (nar .byte v6) (nar .byte v8))) (hv56 : v56 = (((v50 * v51) + (v52 * v53)) + (v54 * v55))) (hv59 : v59 = (if r57_r = (0 : Int32) then (0 : Int32) else (if r57_dg = v19 then (if r57_dc = (1 : Int32) then (1 : Int32) else (0 : Int32)) else (0 : Int32)))) (hv66 : v66 = (if v59 = (0 : Int32) then (0 : Int32) else (if r65_r = v44 then (if v44 = (0 : Int32) then (if r65_dg = v19 then (if r65_dc = (1 : Int32) then (1 : Int32) else (0 : Int32)) else (0 : Int32)) else (if r65_dg = v49 then (if r65_dc = v56 then (1 : Int32) else (0 : Int32)) else (0 : Int32))) else (0 : Int32)))) (qf57_2 : own_read (nar .byte v16) (nar .byte v17) (nar .byte (46 : Int32)) (nar .byte v18) (0 : Int32) (4 : Int32) (1 : Int32) (0 : Int64) (0 : Int32) r57_r r57_dg r57_dc) (qf65_2 : own_read (nar .byte v2) (nar .byte v4) (nar .byte v6) (nar .byte v8) v9 v10 v11 r57_dg r57_dc r65_r r65_dg r65_dc) : v66 = (1 : Int32) := by
  have h9 := own_from hv9
  have h10 := own_to h9 hv10
  obtain ⟨r1, r2, r3⟩ := own_prior hv15 hv16 (own_dig9 hv13) (own_dig9 hv14) hv17 hv18 hv19 qf57_2
  have e59 : v59 = 1 := by rw [hv59, if_neg (by rw [r1]; decide), if_pos r2, if_pos r3]
  have hpt : v11 = 0 ∨ v11 = 1 := by
    rw [hv11]; by_cases q : (p2 &&& (1 : Int32)) = (0 : Int32)
    · rw [if_pos q]; exact Or.inl rfl
    · rw [if_neg q]; exact Or.inr rfl
  obtain ⟨a, b, d⟩ := own_law2 qf65_2 h9 h10 hpt hv22 hv24 hv25 hv26 hv27 hv28 hv29 hv30 hv31 hv32 hv33 hv34 hv35 hv36 hv37 hv38 hv39 hv40 hv44 hv45 hv46 hv47 hv48 hv49 hv50 hv51 hv52 hv53 hv54 hv55 hv56
  rw [hv66, if_neg (by rw [e59]; decide), if_pos a]
  by_cases z : v44 = 0
  · obtain ⟨x, y⟩ := b z
    rw [if_pos z, if_pos (x.trans r2), if_pos (y.trans r3)]
  · obtain ⟨x, y⟩ := d z
    rw [if_neg z, if_pos x, if_pos y]
def Q0 (Z : State) (q0 : Int64) (p1 : Int32) (p2 : Int32) (p3 : Int32) (h0 : Heap) (n0 : Nat) (v : Option Value) (h : Heap) (L : List Loc) : Prop := v = some (.int 1) ∧ Fr n0 L
set_option maxRecDepth 65536 in
set_option maxHeartbeats 40000000 in
theorem rm0 (l : Launch) (Z : State) (aw : Array Value) (hw : ∀ d ∈ tables_1, d.before aw Z = true) (ws : List Jvm.Cond) (q0 : Int64) (p1 : Int32) (p2 : Int32) (p3 : Int32) (h0 : Heap) (n0 : Nat) (Z0 : n0 ≤ h0.size) :
    MetFree l x (head1 (Jvm.Cond.code x code maxLocals ret :: ws) room_1) (fun a U => a = #[(.long q0), (.int p1), (.int p2), (.int p3)] ∧ Z.Warmed39 U.vm ∧ U.heap = h0) (fun _ _ _ _ _ => True) (fun _ U o U' => ∃ v L, o = .returned v ∧ Q0 Z q0 p1 p2 p3 h0 n0 v U'.heap L ∧ FrameEnd U o U' L room_1.cells room_1.slots) := by
  refine MetFree.of_bodySF (plainFor_of_name pn_1) hisR ?_
  intro p e s m args below meth c s₁ Bd hml0 hP hK
  obtain ⟨rfl, hZ, hh⟩ := hP
  have hx := Bd.exec
  have hby := Bd.bytes
  have hml : c.maxLocals = 34 := hml0
  have hown : s.vm.findClass "com/example/amortine/amortine/cli/DigitsReadPinLaw" = some m.cls := findClass_of_methodNamed Bd.named
  have hnm := (name_of_methodNamed Bd.named Bd.method).1
  have X0 : Stand p l e room_1 s m #[(.long q0), (.int p1), (.int p2), (.int p3)] below meth c s₁ [] 0 0 := Stand.of_body Bd
  have e0 : s₁.heap = h0 := by rw [← hh, Bd.state]; rfl
  have N0 := Fr.nil n0
  obtain ⟨A0, hA0⟩ : ∃ A0, A0 = s₁.setTop (entryFrame m #[(.long q0), (.int p1), (.int p2), (.int p3)] maxLocals) := ⟨_, rfl⟩
  have go0 : Go p e below A0 (s₁.setTop (mkF m 0 #[.val (.long q0), .second, .val (.int p1), .val (.int p2), .val (.int p3), .unset, .unset, .unset, .unset, .unset, .unset, .unset, .unset, .unset, .unset, .unset, .unset, .unset, .unset, .unset, .unset, .unset, .unset, .unset, .unset, .unset, .unset, .unset, .unset, .unset, .unset, .unset, .unset, .unset] [])) := fun t k => by rw [hA0]; exact castTop (ef_0 m q0 p1 p2 p3) k
  obtain ⟨T1, h1, k1, X1, e1, E1, A1, st1⟩ := newP X0 hx hZ (hw _ (List.mem_of_getElem? (i := 0) rfl)) e0 (g := (mkF m 1 #[.val (.long q0), .second, .val (.int p1), .val (.int p2), .val (.int p3), .unset, .unset, .unset, .unset, .unset, .unset, .unset, .unset, .unset, .unset, .unset, .unset, .unset, .unset, .unset, .unset, .unset, .unset, .unset, .unset, .unset, .unset, .unset, .unset, .unset, .unset, .unset, .unset, .unset] [(.int (4 : Int32))])) rfl (hb hby at_1) rfl (by decide) (cap := 4) (by decide) (by decide) (by decide) (by decide)
  obtain ⟨b1, g1⟩ : ∃ z, z = h0.size := ⟨_, rfl⟩
  rw [← g1] at A1 st1
  have g_b1 : n0 ≤ b1 := Nat.le_trans Z0 (Nat.le_of_eq g1.symm)
  have Zp1 : n0 ≤ h1.size := Nat.le_trans Z0 E1.1
  have f1 : Arv Z h1 b1 k1 .byte (4 : Int32) [(.int (0 : Int32)), (.int (0 : Int32)), (.int (0 : Int32)), (.int (0 : Int32))] (.int (0 : Int32)) := (Arv.new A1 (by decide)).pad (pad_rep [] (.int (0 : Int32)) 4)
  have go1 : Go p e below A0 (T1.setTop (mkF m 11 #[.val (.long q0), .second, .val (.int p1), .val (.int p2), .val (.int p3), .unset, .unset, .unset, .unset, .unset, .unset, .unset, .unset, .unset, .unset, .unset, .unset, .unset, .unset, .unset, .unset, .unset, .unset, .unset, .unset, .unset, .unset, .unset, .unset, .unset, .unset, .unset, .unset, .unset] [(.int ((q0 &&& (65535 : Int64)).toInt32)), (.int (0 : Int32)), (.ref b1), (.ref b1)])) := by
    intro t k
    refine go0 t ?_
    refine o_iconst X0 hx hby at_0 1 rfl (v := (4 : Int32)) rfl ?_
    refine st1 _ ?_
    show Steps p.tables e below (T1.setTop (mkF m 3 #[.val (.long q0), .second, .val (.int p1), .val (.int p2), .val (.int p3), .unset, .unset, .unset, .unset, .unset, .unset, .unset, .unset, .unset, .unset, .unset, .unset, .unset, .unset, .unset, .unset, .unset, .unset, .unset, .unset, .unset, .unset, .unset, .unset, .unset, .unset, .unset, .unset, .unset] [(.ref b1)])) _
    refine o_dup X1 hx hby at_3 4 rfl rfl ?_
    refine o_iconst X1 hx hby at_4 5 rfl (v := (0 : Int32)) rfl ?_
    refine o_lloadN X1 hx hby at_5 6 rfl rfl ?_
    refine o_ldc2Long X1 hx hby hown (mvT hZ (hw _ (List.mem_of_getElem? (i := 1) rfl))) at_6 9 rfl ?_
    refine o_land X1 hx hby at_9 10 rfl ?_
    refine o_l2i X1 hx hby at_10 11 rfl ?_
    exact k
  obtain ⟨v1, hv1, go2⟩ : ∃ v1 : Int32, v1 = ((q0 &&& (65535 : Int64)).toInt32) ∧ Go p e below A0 (T1.setTop (mkF m 11 #[.val (.long q0), .second, .val (.int p1), .val (.int p2), .val (.int p3), .unset, .unset, .unset, .unset, .unset, .unset, .unset, .unset, .unset, .unset, .unset, .unset, .unset, .unset, .unset, .unset, .unset, .unset, .unset, .unset, .unset, .unset, .unset, .unset, .unset, .unset, .unset, .unset, .unset] [(.int v1), (.int (0 : Int32)), (.ref b1), (.ref b1)])) := ⟨_, rfl, go1⟩
  obtain ⟨_, _, ⟨T2, L2, k2, n2⟩, -, X2, ⟨Lc2, hQ2, l2, y2, z2⟩, st2⟩ := Jvm.LawKit.callS X1 hx (y := (⟨"com/example/amortine/amortine/cli/DigitsReadPinLaw", "pick", "(I)B"⟩ : MethodName)) hown (mvT hZ (hw _ (List.mem_of_getElem? (i := 2) rfl))) (mvT hZ (hw _ (List.mem_of_getElem? (i := 3) rfl))) (mvT hZ (hw _ (List.mem_of_getElem? (i := 4) rfl))) (mvT hZ (hw _ (List.mem_of_getElem? (i := 5) rfl))) (by decide) (backOf (W := 3) (rm1 l Z aw hw [] v1 h1 n0 Zp1) hZ (hw _ (List.mem_of_getElem? (i := 5) rfl)) (hw _ (List.mem_of_getElem? (i := 4) rfl)) (by decide) (by decide)) (g := (mkF m 11 #[.val (.long q0), .second, .val (.int p1), .val (.int p2), .val (.int p3), .unset, .unset, .unset, .unset, .unset, .unset, .unset, .unset, .unset, .unset, .unset, .unset, .unset, .unset, .unset, .unset, .unset, .unset, .unset, .unset, .unset, .unset, .unset, .unset, .unset, .unset, .unset, .unset, .unset] [(.int v1), (.int (0 : Int32)), (.ref b1), (.ref b1)])) rfl (by rw [hml]; rfl) (argsL := [(.int v1)]) (rest := [(.int (0 : Int32)), (.ref b1), (.ref b1)]) (lenOf pd_5 rfl) rfl (by show 2 * 0 + _ ≤ _; exact Nat.le_of_eq rfl) (hb hby at_11) (fun _ _ => ⟨rfl, e1, (by decide : 1 + 0 ≤ _), (by decide : 4 + 0 ≤ _)⟩)
  dsimp only [Pt.U, Pt.locs, Pt.cells, Pt.slots] at X2 l2 y2 z2 st2 hQ2
  obtain rfl : k2 = 1 := y2
  obtain rfl : n2 = 4 := z2
  obtain ⟨rfl, N2q, e2⟩ := hQ2
  have N2 : Fr n0 L2 := by rw [l2]; exact Fr.app N0 N2q
  have go3 : Go p e below A0 (T2.setTop (mkF m 14 #[.val (.long q0), .second, .val (.int p1), .val (.int p2), .val (.int p3), .unset, .unset, .unset, .unset, .unset, .unset, .unset, .unset, .unset, .unset, .unset, .unset, .unset, .unset, .unset, .unset, .unset, .unset, .unset, .unset, .unset, .unset, .unset, .unset, .unset, .unset, .unset, .unset, .unset] [(.int (Fpick v1)), (.int (0 : Int32)), (.ref b1), (.ref b1)])) := by
    intro t k
    refine go2 t ?_
    refine st2 _ ?_
    show Steps p.tables e below (T2.setTop (mkF m 14 #[.val (.long q0), .second, .val (.int p1), .val (.int p2), .val (.int p3), .unset, .unset, .unset, .unset, .unset, .unset, .unset, .unset, .unset, .unset, .unset, .unset, .unset, .unset, .unset, .unset, .unset, .unset, .unset, .unset, .unset, .unset, .unset, .unset, .unset, .unset, .unset, .unset, .unset] [(.int (Fpick v1)), (.int (0 : Int32)), (.ref b1), (.ref b1)])) _
    exact k
  obtain ⟨v2, hv2, go4⟩ : ∃ v2 : Int32, v2 = (Fpick v1) ∧ Go p e below A0 (T2.setTop (mkF m 14 #[.val (.long q0), .second, .val (.int p1), .val (.int p2), .val (.int p3), .unset, .unset, .unset, .unset, .unset, .unset, .unset, .unset, .unset, .unset, .unset, .unset, .unset, .unset, .unset, .unset, .unset, .unset, .unset, .unset, .unset, .unset, .unset, .unset, .unset, .unset, .unset, .unset, .unset] [(.int v2), (.int (0 : Int32)), (.ref b1), (.ref b1)])) := ⟨_, rfl, go3⟩
  obtain ⟨cl3, Ar3, q3, S3, M3, H3, G3⟩ := id f1
  have hin3 : ¬ ((0 : Int32) < 0 ∨ cl3.slots.size ≤ ((0 : Int32)).toNatClampNeg) := inb_of S3 ⟨by decide, by decide⟩
  obtain ⟨T3, h3, X3, e3, W3, st3⟩ := stB X2 hx hZ e2 Ar3 (j := (0 : Int32)) hin3 (g := (mkF m 14 #[.val (.long q0), .second, .val (.int p1), .val (.int p2), .val (.int p3), .unset, .unset, .unset, .unset, .unset, .unset, .unset, .unset, .unset, .unset, .unset, .unset, .unset, .unset, .unset, .unset, .unset, .unset, .unset, .unset, .unset, .unset, .unset, .unset, .unset, .unset, .unset, .unset, .unset] [(.int v2), (.int (0 : Int32)), (.ref b1), (.ref b1)])) rfl rfl (hb hby at_14)
  have Zp3 : n0 ≤ h3.size := Nat.le_trans Zp1 (Keep.of_wr W3).1
  have N3 := Fr.snoc X3 N2 g_b1
  have f2 : Arv Z h3 b1 k1 .byte (4 : Int32) [(.int (nar .byte v2)), (.int (0 : Int32)), (.int (0 : Int32)), (.int (0 : Int32))] (.int (0 : Int32)) := Arv.set Ar3 q3 S3 M3 H3 G3 (fits_nar_byte _) W3 0 rfl (Nat.le_of_ble_eq_true rfl)
  have go5 : Go p e below A0 (T3.setTop (mkF m 26 #[.val (.long q0), .second, .val (.int p1), .val (.int p2), .val (.int p3), .unset, .unset, .unset, .unset, .unset, .unset, .unset, .unset, .unset, .unset, .unset, .unset, .unset, .unset, .unset, .unset, .unset, .unset, .unset, .unset, .unset, .unset, .unset, .unset, .unset, .unset, .unset, .unset, .unset] [(.int ((((q0.toUInt64 >>> ((16 : Int32) &&& 0x3f).toInt64.toUInt64).toInt64) &&& (65535 : Int64)).toInt32)), (.int (1 : Int32)), (.ref b1), (.ref b1)])) := by
    intro t k
    refine go4 t ?_
    refine st3 _ ?_
    show Steps p.tables e below (T3.setTop (mkF m 15 #[.val (.long q0), .second, .val (.int p1), .val (.int p2), .val (.int p3), .unset, .unset, .unset, .unset, .unset, .unset, .unset, .unset, .unset, .unset, .unset, .unset, .unset, .unset, .unset, .unset, .unset, .unset, .unset, .unset, .unset, .unset, .unset, .unset, .unset, .unset, .unset, .unset, .unset] [(.ref b1)])) _
    refine o_dup X3 hx hby at_15 16 rfl rfl ?_
    refine o_iconst X3 hx hby at_16 17 rfl (v := (1 : Int32)) rfl ?_
    refine o_lloadN X3 hx hby at_17 18 rfl rfl ?_
    refine o_bipush X3 hx hby at_18 20 rfl (v := (16 : Int32)) rfl ?_
    refine o_lushr X3 hx hby at_20 21 rfl ?_
    refine o_ldc2Long X3 hx hby hown (mvT hZ (hw _ (List.mem_of_getElem? (i := 1) rfl))) at_21 24 rfl ?_
    refine o_land X3 hx hby at_24 25 rfl ?_
    refine o_l2i X3 hx hby at_25 26 rfl ?_
    exact k
  obtain ⟨v3, hv3, go6⟩ : ∃ v3 : Int32, v3 = ((((q0.toUInt64 >>> ((16 : Int32) &&& 0x3f).toInt64.toUInt64).toInt64) &&& (65535 : Int64)).toInt32) ∧ Go p e below A0 (T3.setTop (mkF m 26 #[.val (.long q0), .second, .val (.int p1), .val (.int p2), .val (.int p3), .unset, .unset, .unset, .unset, .unset, .unset, .unset, .unset, .unset, .unset, .unset, .unset, .unset, .unset, .unset, .unset, .unset, .unset, .unset, .unset, .unset, .unset, .unset, .unset, .unset, .unset, .unset, .unset, .unset] [(.int v3), (.int (1 : Int32)), (.ref b1), (.ref b1)])) := ⟨_, rfl, go5⟩
  obtain ⟨_, _, ⟨T4, L4, k4, n4⟩, -, X4, ⟨Lc4, hQ4, l4, y4, z4⟩, st4⟩ := Jvm.LawKit.callS X3 hx (y := (⟨"com/example/amortine/amortine/cli/DigitsReadPinLaw", "pick", "(I)B"⟩ : MethodName)) hown (mvT hZ (hw _ (List.mem_of_getElem? (i := 2) rfl))) (mvT hZ (hw _ (List.mem_of_getElem? (i := 3) rfl))) (mvT hZ (hw _ (List.mem_of_getElem? (i := 4) rfl))) (mvT hZ (hw _ (List.mem_of_getElem? (i := 5) rfl))) (by decide) (backOf (W := 3) (rm1 l Z aw hw [] v3 h3 n0 Zp3) hZ (hw _ (List.mem_of_getElem? (i := 5) rfl)) (hw _ (List.mem_of_getElem? (i := 4) rfl)) (by decide) (by decide)) (g := (mkF m 26 #[.val (.long q0), .second, .val (.int p1), .val (.int p2), .val (.int p3), .unset, .unset, .unset, .unset, .unset, .unset, .unset, .unset, .unset, .unset, .unset, .unset, .unset, .unset, .unset, .unset, .unset, .unset, .unset, .unset, .unset, .unset, .unset, .unset, .unset, .unset, .unset, .unset, .unset] [(.int v3), (.int (1 : Int32)), (.ref b1), (.ref b1)])) rfl (by rw [hml]; rfl) (argsL := [(.int v3)]) (rest := [(.int (1 : Int32)), (.ref b1), (.ref b1)]) (lenOf pd_5 rfl) rfl (by show 2 * 0 + _ ≤ _; exact Nat.le_of_eq rfl) (hb hby at_26) (fun _ _ => ⟨rfl, e3, (by decide : 1 + 0 ≤ _), (by decide : 4 + 0 ≤ _)⟩)
  dsimp only [Pt.U, Pt.locs, Pt.cells, Pt.slots] at X4 l4 y4 z4 st4 hQ4
  obtain rfl : k4 = 1 := y4
  obtain rfl : n4 = 4 := z4
  obtain ⟨rfl, N4q, e4⟩ := hQ4
  have N4 : Fr n0 L4 := by rw [l4]; exact Fr.app N3 N4q
  have go7 : Go p e below A0 (T4.setTop (mkF m 29 #[.val (.long q0), .second, .val (.int p1), .val (.int p2), .val (.int p3), .unset, .unset, .unset, .unset, .unset, .unset, .unset, .unset, .unset, .unset, .unset, .unset, .unset, .unset, .unset, .unset, .unset, .unset, .unset, .unset, .unset, .unset, .unset, .unset, .unset, .unset, .unset, .unset, .unset] [(.int (Fpick v3)), (.int (1 : Int32)), (.ref b1), (.ref b1)])) := by
    intro t k
    refine go6 t ?_
    refine st4 _ ?_
    show Steps p.tables e below (T4.setTop (mkF m 29 #[.val (.long q0), .second, .val (.int p1), .val (.int p2), .val (.int p3), .unset, .unset, .unset, .unset, .unset, .unset, .unset, .unset, .unset, .unset, .unset, .unset, .unset, .unset, .unset, .unset, .unset, .unset, .unset, .unset, .unset, .unset, .unset, .unset, .unset, .unset, .unset, .unset, .unset] [(.int (Fpick v3)), (.int (1 : Int32)), (.ref b1), (.ref b1)])) _
    exact k
  obtain ⟨v4, hv4, go8⟩ : ∃ v4 : Int32, v4 = (Fpick v3) ∧ Go p e below A0 (T4.setTop (mkF m 29 #[.val (.long q0), .second, .val (.int p1), .val (.int p2), .val (.int p3), .unset, .unset, .unset, .unset, .unset, .unset, .unset, .unset, .unset, .unset, .unset, .unset, .unset, .unset, .unset, .unset, .unset, .unset, .unset, .unset, .unset, .unset, .unset, .unset, .unset, .unset, .unset, .unset, .unset] [(.int v4), (.int (1 : Int32)), (.ref b1), (.ref b1)])) := ⟨_, rfl, go7⟩
  obtain ⟨cl5, Ar5, q5, S5, M5, H5, G5⟩ := id f2
  have hin5 : ¬ ((1 : Int32) < 0 ∨ cl5.slots.size ≤ ((1 : Int32)).toNatClampNeg) := inb_of S5 ⟨by decide, by decide⟩
  obtain ⟨T5, h5, X5, e5, W5, st5⟩ := stB X4 hx hZ e4 Ar5 (j := (1 : Int32)) hin5 (g := (mkF m 29 #[.val (.long q0), .second, .val (.int p1), .val (.int p2), .val (.int p3), .unset, .unset, .unset, .unset, .unset, .unset, .unset, .unset, .unset, .unset, .unset, .unset, .unset, .unset, .unset, .unset, .unset, .unset, .unset, .unset, .unset, .unset, .unset, .unset, .unset, .unset, .unset, .unset, .unset] [(.int v4), (.int (1 : Int32)), (.ref b1), (.ref b1)])) rfl rfl (hb hby at_29)
  have Zp5 : n0 ≤ h5.size := Nat.le_trans Zp3 (Keep.of_wr W5).1
  have N5 := Fr.snoc X5 N4 g_b1
  have f3 : Arv Z h5 b1 k1 .byte (4 : Int32) [(.int (nar .byte v2)), (.int (nar .byte v4)), (.int (0 : Int32)), (.int (0 : Int32))] (.int (0 : Int32)) := Arv.set Ar5 q5 S5 M5 H5 G5 (fits_nar_byte _) W5 1 rfl (Nat.le_of_ble_eq_true rfl)
  have go9 : Go p e below A0 (T5.setTop (mkF m 41 #[.val (.long q0), .second, .val (.int p1), .val (.int p2), .val (.int p3), .unset, .unset, .unset, .unset, .unset, .unset, .unset, .unset, .unset, .unset, .unset, .unset, .unset, .unset, .unset, .unset, .unset, .unset, .unset, .unset, .unset, .unset, .unset, .unset, .unset, .unset, .unset, .unset, .unset] [(.int ((((q0.toUInt64 >>> ((32 : Int32) &&& 0x3f).toInt64.toUInt64).toInt64) &&& (65535 : Int64)).toInt32)), (.int (2 : Int32)), (.ref b1), (.ref b1)])) := by
    intro t k
    refine go8 t ?_
    refine st5 _ ?_
    show Steps p.tables e below (T5.setTop (mkF m 30 #[.val (.long q0), .second, .val (.int p1), .val (.int p2), .val (.int p3), .unset, .unset, .unset, .unset, .unset, .unset, .unset, .unset, .unset, .unset, .unset, .unset, .unset, .unset, .unset, .unset, .unset, .unset, .unset, .unset, .unset, .unset, .unset, .unset, .unset, .unset, .unset, .unset, .unset] [(.ref b1)])) _
    refine o_dup X5 hx hby at_30 31 rfl rfl ?_
    refine o_iconst X5 hx hby at_31 32 rfl (v := (2 : Int32)) rfl ?_
    refine o_lloadN X5 hx hby at_32 33 rfl rfl ?_
    refine o_bipush X5 hx hby at_33 35 rfl (v := (32 : Int32)) rfl ?_
    refine o_lushr X5 hx hby at_35 36 rfl ?_
    refine o_ldc2Long X5 hx hby hown (mvT hZ (hw _ (List.mem_of_getElem? (i := 1) rfl))) at_36 39 rfl ?_
    refine o_land X5 hx hby at_39 40 rfl ?_
    refine o_l2i X5 hx hby at_40 41 rfl ?_
    exact k
  obtain ⟨v5, hv5, go10⟩ : ∃ v5 : Int32, v5 = ((((q0.toUInt64 >>> ((32 : Int32) &&& 0x3f).toInt64.toUInt64).toInt64) &&& (65535 : Int64)).toInt32) ∧ Go p e below A0 (T5.setTop (mkF m 41 #[.val (.long q0), .second, .val (.int p1), .val (.int p2), .val (.int p3), .unset, .unset, .unset, .unset, .unset, .unset, .unset, .unset, .unset, .unset, .unset, .unset, .unset, .unset, .unset, .unset, .unset, .unset, .unset, .unset, .unset, .unset, .unset, .unset, .unset, .unset, .unset, .unset, .unset] [(.int v5), (.int (2 : Int32)), (.ref b1), (.ref b1)])) := ⟨_, rfl, go9⟩
  obtain ⟨_, _, ⟨T6, L6, k6, n6⟩, -, X6, ⟨Lc6, hQ6, l6, y6, z6⟩, st6⟩ := Jvm.LawKit.callS X5 hx (y := (⟨"com/example/amortine/amortine/cli/DigitsReadPinLaw", "pick", "(I)B"⟩ : MethodName)) hown (mvT hZ (hw _ (List.mem_of_getElem? (i := 2) rfl))) (mvT hZ (hw _ (List.mem_of_getElem? (i := 3) rfl))) (mvT hZ (hw _ (List.mem_of_getElem? (i := 4) rfl))) (mvT hZ (hw _ (List.mem_of_getElem? (i := 5) rfl))) (by decide) (backOf (W := 3) (rm1 l Z aw hw [] v5 h5 n0 Zp5) hZ (hw _ (List.mem_of_getElem? (i := 5) rfl)) (hw _ (List.mem_of_getElem? (i := 4) rfl)) (by decide) (by decide)) (g := (mkF m 41 #[.val (.long q0), .second, .val (.int p1), .val (.int p2), .val (.int p3), .unset, .unset, .unset, .unset, .unset, .unset, .unset, .unset, .unset, .unset, .unset, .unset, .unset, .unset, .unset, .unset, .unset, .unset, .unset, .unset, .unset, .unset, .unset, .unset, .unset, .unset, .unset, .unset, .unset] [(.int v5), (.int (2 : Int32)), (.ref b1), (.ref b1)])) rfl (by rw [hml]; rfl) (argsL := [(.int v5)]) (rest := [(.int (2 : Int32)), (.ref b1), (.ref b1)]) (lenOf pd_5 rfl) rfl (by show 2 * 0 + _ ≤ _; exact Nat.le_of_eq rfl) (hb hby at_41) (fun _ _ => ⟨rfl, e5, (by decide : 1 + 0 ≤ _), (by decide : 4 + 0 ≤ _)⟩)
  dsimp only [Pt.U, Pt.locs, Pt.cells, Pt.slots] at X6 l6 y6 z6 st6 hQ6
  obtain rfl : k6 = 1 := y6
  obtain rfl : n6 = 4 := z6
  obtain ⟨rfl, N6q, e6⟩ := hQ6
  have N6 : Fr n0 L6 := by rw [l6]; exact Fr.app N5 N6q
  have go11 : Go p e below A0 (T6.setTop (mkF m 44 #[.val (.long q0), .second, .val (.int p1), .val (.int p2), .val (.int p3), .unset, .unset, .unset, .unset, .unset, .unset, .unset, .unset, .unset, .unset, .unset, .unset, .unset, .unset, .unset, .unset, .unset, .unset, .unset, .unset, .unset, .unset, .unset, .unset, .unset, .unset, .unset, .unset, .unset] [(.int (Fpick v5)), (.int (2 : Int32)), (.ref b1), (.ref b1)])) := by
    intro t k
    refine go10 t ?_
    refine st6 _ ?_
    show Steps p.tables e below (T6.setTop (mkF m 44 #[.val (.long q0), .second, .val (.int p1), .val (.int p2), .val (.int p3), .unset, .unset, .unset, .unset, .unset, .unset, .unset, .unset, .unset, .unset, .unset, .unset, .unset, .unset, .unset, .unset, .unset, .unset, .unset, .unset, .unset, .unset, .unset, .unset, .unset, .unset, .unset, .unset, .unset] [(.int (Fpick v5)), (.int (2 : Int32)), (.ref b1), (.ref b1)])) _
    exact k
  obtain ⟨v6, hv6, go12⟩ : ∃ v6 : Int32, v6 = (Fpick v5) ∧ Go p e below A0 (T6.setTop (mkF m 44 #[.val (.long q0), .second, .val (.int p1), .val (.int p2), .val (.int p3), .unset, .unset, .unset, .unset, .unset, .unset, .unset, .unset, .unset, .unset, .unset, .unset, .unset, .unset, .unset, .unset, .unset, .unset, .unset, .unset, .unset, .unset, .unset, .unset, .unset, .unset, .unset, .unset, .unset] [(.int v6), (.int (2 : Int32)), (.ref b1), (.ref b1)])) := ⟨_, rfl, go11⟩
  obtain ⟨cl7, Ar7, q7, S7, M7, H7, G7⟩ := id f3
  have hin7 : ¬ ((2 : Int32) < 0 ∨ cl7.slots.size ≤ ((2 : Int32)).toNatClampNeg) := inb_of S7 ⟨by decide, by decide⟩
  obtain ⟨T7, h7, X7, e7, W7, st7⟩ := stB X6 hx hZ e6 Ar7 (j := (2 : Int32)) hin7 (g := (mkF m 44 #[.val (.long q0), .second, .val (.int p1), .val (.int p2), .val (.int p3), .unset, .unset, .unset, .unset, .unset, .unset, .unset, .unset, .unset, .unset, .unset, .unset, .unset, .unset, .unset, .unset, .unset, .unset, .unset, .unset, .unset, .unset, .unset, .unset, .unset, .unset, .unset, .unset, .unset] [(.int v6), (.int (2 : Int32)), (.ref b1), (.ref b1)])) rfl rfl (hb hby at_44)
  have Zp7 : n0 ≤ h7.size := Nat.le_trans Zp5 (Keep.of_wr W7).1
  have N7 := Fr.snoc X7 N6 g_b1
  have f4 : Arv Z h7 b1 k1 .byte (4 : Int32) [(.int (nar .byte v2)), (.int (nar .byte v4)), (.int (nar .byte v6)), (.int (0 : Int32))] (.int (0 : Int32)) := Arv.set Ar7 q7 S7 M7 H7 G7 (fits_nar_byte _) W7 2 rfl (Nat.le_of_ble_eq_true rfl)
  have go13 : Go p e below A0 (T7.setTop (mkF m 56 #[.val (.long q0), .second, .val (.int p1), .val (.int p2), .val (.int p3), .unset, .unset, .unset, .unset, .unset, .unset, .unset, .unset, .unset, .unset, .unset, .unset, .unset, .unset, .unset, .unset, .unset, .unset, .unset, .unset, .unset, .unset, .unset, .unset, .unset, .unset, .unset, .unset, .unset] [(.int ((((q0.toUInt64 >>> ((48 : Int32) &&& 0x3f).toInt64.toUInt64).toInt64) &&& (65535 : Int64)).toInt32)), (.int (3 : Int32)), (.ref b1), (.ref b1)])) := by
    intro t k
    refine go12 t ?_
    refine st7 _ ?_
    show Steps p.tables e below (T7.setTop (mkF m 45 #[.val (.long q0), .second, .val (.int p1), .val (.int p2), .val (.int p3), .unset, .unset, .unset, .unset, .unset, .unset, .unset, .unset, .unset, .unset, .unset, .unset, .unset, .unset, .unset, .unset, .unset, .unset, .unset, .unset, .unset, .unset, .unset, .unset, .unset, .unset, .unset, .unset, .unset] [(.ref b1)])) _
    refine o_dup X7 hx hby at_45 46 rfl rfl ?_
    refine o_iconst X7 hx hby at_46 47 rfl (v := (3 : Int32)) rfl ?_
    refine o_lloadN X7 hx hby at_47 48 rfl rfl ?_
    refine o_bipush X7 hx hby at_48 50 rfl (v := (48 : Int32)) rfl ?_
    refine o_lushr X7 hx hby at_50 51 rfl ?_
    refine o_ldc2Long X7 hx hby hown (mvT hZ (hw _ (List.mem_of_getElem? (i := 1) rfl))) at_51 54 rfl ?_
    refine o_land X7 hx hby at_54 55 rfl ?_
    refine o_l2i X7 hx hby at_55 56 rfl ?_
    exact k
  obtain ⟨v7, hv7, go14⟩ : ∃ v7 : Int32, v7 = ((((q0.toUInt64 >>> ((48 : Int32) &&& 0x3f).toInt64.toUInt64).toInt64) &&& (65535 : Int64)).toInt32) ∧ Go p e below A0 (T7.setTop (mkF m 56 #[.val (.long q0), .second, .val (.int p1), .val (.int p2), .val (.int p3), .unset, .unset, .unset, .unset, .unset, .unset, .unset, .unset, .unset, .unset, .unset, .unset, .unset, .unset, .unset, .unset, .unset, .unset, .unset, .unset, .unset, .unset, .unset, .unset, .unset, .unset, .unset, .unset, .unset] [(.int v7), (.int (3 : Int32)), (.ref b1), (.ref b1)])) := ⟨_, rfl, go13⟩
  obtain ⟨_, _, ⟨T8, L8, k8, n8⟩, -, X8, ⟨Lc8, hQ8, l8, y8, z8⟩, st8⟩ := Jvm.LawKit.callS X7 hx (y := (⟨"com/example/amortine/amortine/cli/DigitsReadPinLaw", "pick", "(I)B"⟩ : MethodName)) hown (mvT hZ (hw _ (List.mem_of_getElem? (i := 2) rfl))) (mvT hZ (hw _ (List.mem_of_getElem? (i := 3) rfl))) (mvT hZ (hw _ (List.mem_of_getElem? (i := 4) rfl))) (mvT hZ (hw _ (List.mem_of_getElem? (i := 5) rfl))) (by decide) (backOf (W := 3) (rm1 l Z aw hw [] v7 h7 n0 Zp7) hZ (hw _ (List.mem_of_getElem? (i := 5) rfl)) (hw _ (List.mem_of_getElem? (i := 4) rfl)) (by decide) (by decide)) (g := (mkF m 56 #[.val (.long q0), .second, .val (.int p1), .val (.int p2), .val (.int p3), .unset, .unset, .unset, .unset, .unset, .unset, .unset, .unset, .unset, .unset, .unset, .unset, .unset, .unset, .unset, .unset, .unset, .unset, .unset, .unset, .unset, .unset, .unset, .unset, .unset, .unset, .unset, .unset, .unset] [(.int v7), (.int (3 : Int32)), (.ref b1), (.ref b1)])) rfl (by rw [hml]; rfl) (argsL := [(.int v7)]) (rest := [(.int (3 : Int32)), (.ref b1), (.ref b1)]) (lenOf pd_5 rfl) rfl (by show 2 * 0 + _ ≤ _; exact Nat.le_of_eq rfl) (hb hby at_56) (fun _ _ => ⟨rfl, e7, (by decide : 1 + 0 ≤ _), (by decide : 4 + 0 ≤ _)⟩)
  dsimp only [Pt.U, Pt.locs, Pt.cells, Pt.slots] at X8 l8 y8 z8 st8 hQ8
  obtain rfl : k8 = 1 := y8
  obtain rfl : n8 = 4 := z8
  obtain ⟨rfl, N8q, e8⟩ := hQ8
  have N8 : Fr n0 L8 := by rw [l8]; exact Fr.app N7 N8q
  have go15 : Go p e below A0 (T8.setTop (mkF m 59 #[.val (.long q0), .second, .val (.int p1), .val (.int p2), .val (.int p3), .unset, .unset, .unset, .unset, .unset, .unset, .unset, .unset, .unset, .unset, .unset, .unset, .unset, .unset, .unset, .unset, .unset, .unset, .unset, .unset, .unset, .unset, .unset, .unset, .unset, .unset, .unset, .unset, .unset] [(.int (Fpick v7)), (.int (3 : Int32)), (.ref b1), (.ref b1)])) := by
    intro t k
    refine go14 t ?_
    refine st8 _ ?_
    show Steps p.tables e below (T8.setTop (mkF m 59 #[.val (.long q0), .second, .val (.int p1), .val (.int p2), .val (.int p3), .unset, .unset, .unset, .unset, .unset, .unset, .unset, .unset, .unset, .unset, .unset, .unset, .unset, .unset, .unset, .unset, .unset, .unset, .unset, .unset, .unset, .unset, .unset, .unset, .unset, .unset, .unset, .unset, .unset] [(.int (Fpick v7)), (.int (3 : Int32)), (.ref b1), (.ref b1)])) _
    exact k
  obtain ⟨v8, hv8, go16⟩ : ∃ v8 : Int32, v8 = (Fpick v7) ∧ Go p e below A0 (T8.setTop (mkF m 59 #[.val (.long q0), .second, .val (.int p1), .val (.int p2), .val (.int p3), .unset, .unset, .unset, .unset, .unset, .unset, .unset, .unset, .unset, .unset, .unset, .unset, .unset, .unset, .unset, .unset, .unset, .unset, .unset, .unset, .unset, .unset, .unset, .unset, .unset, .unset, .unset, .unset, .unset] [(.int v8), (.int (3 : Int32)), (.ref b1), (.ref b1)])) := ⟨_, rfl, go15⟩
  obtain ⟨cl9, Ar9, q9, S9, M9, H9, G9⟩ := id f4
  have hin9 : ¬ ((3 : Int32) < 0 ∨ cl9.slots.size ≤ ((3 : Int32)).toNatClampNeg) := inb_of S9 ⟨by decide, by decide⟩
  obtain ⟨T9, h9, X9, e9, W9, st9⟩ := stB X8 hx hZ e8 Ar9 (j := (3 : Int32)) hin9 (g := (mkF m 59 #[.val (.long q0), .second, .val (.int p1), .val (.int p2), .val (.int p3), .unset, .unset, .unset, .unset, .unset, .unset, .unset, .unset, .unset, .unset, .unset, .unset, .unset, .unset, .unset, .unset, .unset, .unset, .unset, .unset, .unset, .unset, .unset, .unset, .unset, .unset, .unset, .unset, .unset] [(.int v8), (.int (3 : Int32)), (.ref b1), (.ref b1)])) rfl rfl (hb hby at_59)
  have Zp9 : n0 ≤ h9.size := Nat.le_trans Zp7 (Keep.of_wr W9).1
  have N9 := Fr.snoc X9 N8 g_b1
  have f5 : Arv Z h9 b1 k1 .byte (4 : Int32) [(.int (nar .byte v2)), (.int (nar .byte v4)), (.int (nar .byte v6)), (.int (nar .byte v8))] (.int (0 : Int32)) := Arv.set Ar9 q9 S9 M9 H9 G9 (fits_nar_byte _) W9 3 rfl (Nat.le_of_ble_eq_true rfl)
  have go17 : Go p e below A0 (T9.setTop (mkF m 70 #[.val (.long q0), .second, .val (.int p1), .val (.int p2), .val (.int p3), .val (.ref b1), .val (.int ((p1 &&& (7 : Int32)) % (5 : Int32))), .unset, .unset, .unset, .unset, .unset, .unset, .unset, .unset, .unset, .unset, .unset, .unset, .unset, .unset, .unset, .unset, .unset, .unset, .unset, .unset, .unset, .unset, .unset, .unset, .unset, .unset, .unset] [])) := by
    intro t k
    refine go16 t ?_
    refine st9 _ ?_
    show Steps p.tables e below (T9.setTop (mkF m 60 #[.val (.long q0), .second, .val (.int p1), .val (.int p2), .val (.int p3), .unset, .unset, .unset, .unset, .unset, .unset, .unset, .unset, .unset, .unset, .unset, .unset, .unset, .unset, .unset, .unset, .unset, .unset, .unset, .unset, .unset, .unset, .unset, .unset, .unset, .unset, .unset, .unset, .unset] [(.ref b1)])) _
    refine o_astore X9 hx hby at_60 62 rfl rfl (l' := #[.val (.long q0), .second, .val (.int p1), .val (.int p2), .val (.int p3), .val (.ref b1), .unset, .unset, .unset, .unset, .unset, .unset, .unset, .unset, .unset, .unset, .unset, .unset, .unset, .unset, .unset, .unset, .unset, .unset, .unset, .unset, .unset, .unset, .unset, .unset, .unset, .unset, .unset, .unset]) rfl ?_
    refine o_iloadN X9 hx hby at_62 63 rfl rfl ?_
    refine o_bipush X9 hx hby at_63 65 rfl (v := (7 : Int32)) rfl ?_
    refine o_iand X9 hx hby at_65 66 rfl ?_
    refine o_iconst X9 hx hby at_66 67 rfl (v := (5 : Int32)) rfl ?_
    refine o_irem X9 hx hby at_67 68 rfl (by decide) ?_
    refine o_istore X9 hx hby at_68 70 rfl (l' := #[.val (.long q0), .second, .val (.int p1), .val (.int p2), .val (.int p3), .val (.ref b1), .val (.int ((p1 &&& (7 : Int32)) % (5 : Int32))), .unset, .unset, .unset, .unset, .unset, .unset, .unset, .unset, .unset, .unset, .unset, .unset, .unset, .unset, .unset, .unset, .unset, .unset, .unset, .unset, .unset, .unset, .unset, .unset, .unset, .unset, .unset]) rfl ?_
    exact k
  obtain ⟨v9, hv9, go18⟩ : ∃ v9 : Int32, v9 = ((p1 &&& (7 : Int32)) % (5 : Int32)) ∧ Go p e below A0 (T9.setTop (mkF m 70 #[.val (.long q0), .second, .val (.int p1), .val (.int p2), .val (.int p3), .val (.ref b1), .val (.int v9), .unset, .unset, .unset, .unset, .unset, .unset, .unset, .unset, .unset, .unset, .unset, .unset, .unset, .unset, .unset, .unset, .unset, .unset, .unset, .unset, .unset, .unset, .unset, .unset, .unset, .unset, .unset] [])) := ⟨_, rfl, go17⟩
  have go19 : Go p e below A0 (T9.setTop (mkF m 82 #[.val (.long q0), .second, .val (.int p1), .val (.int p2), .val (.int p3), .val (.ref b1), .val (.int v9), .unset, .unset, .unset, .unset, .unset, .unset, .unset, .unset, .unset, .unset, .unset, .unset, .unset, .unset, .unset, .unset, .unset, .unset, .unset, .unset, .unset, .unset, .unset, .unset, .unset, .unset, .unset] [(.int ((5 : Int32) - v9)), (.int (((p1.toUInt32 >>> ((3 : Int32) &&& 31).toUInt32).toInt32) &&& (7 : Int32))), (.int v9)])) := by
    intro t k
    refine go18 t ?_
    refine o_iload X9 hx hby at_70 72 rfl rfl ?_
    refine o_iloadN X9 hx hby at_72 73 rfl rfl ?_
    refine o_iconst X9 hx hby at_73 74 rfl (v := (3 : Int32)) rfl ?_
    refine o_iushr X9 hx hby at_74 75 rfl ?_
    refine o_bipush X9 hx hby at_75 77 rfl (v := (7 : Int32)) rfl ?_
    refine o_iand X9 hx hby at_77 78 rfl ?_
    refine o_iconst X9 hx hby at_78 79 rfl (v := (5 : Int32)) rfl ?_
    refine o_iload X9 hx hby at_79 81 rfl rfl ?_
    refine o_isub X9 hx hby at_81 82 rfl ?_
    exact k
  have f_nz82_1 : ¬ (((5 : Int32) - v9) = (0 : Int32)) := pf0_nz82_0 q0 p1 p2 p3 v1 v2 v3 v4 v5 v6 v7 v8 v9 hv1 hv2 hv3 hv4 hv5 hv6 hv7 hv8 hv9
  have go20 : Go p e below A0 (T9.setTop (mkF m 86 #[.val (.long q0), .second, .val (.int p1), .val (.int p2), .val (.int p3), .val (.ref b1), .val (.int v9), .val (.int (v9 + ((((p1.toUInt32 >>> ((3 : Int32) &&& 31).toUInt32).toInt32) &&& (7 : Int32)) % ((5 : Int32) - v9)))), .unset, .unset, .unset, .unset, .unset, .unset, .unset, .unset, .unset, .unset, .unset, .unset, .unset, .unset, .unset, .unset, .unset, .unset, .unset, .unset, .unset, .unset, .unset, .unset, .unset, .unset] [])) := by
    intro t k
    refine go19 t ?_
    refine o_irem X9 hx hby at_82 83 rfl f_nz82_1 ?_
    refine o_iadd X9 hx hby at_83 84 rfl ?_
    refine o_istore X9 hx hby at_84 86 rfl (l' := #[.val (.long q0), .second, .val (.int p1), .val (.int p2), .val (.int p3), .val (.ref b1), .val (.int v9), .val (.int (v9 + ((((p1.toUInt32 >>> ((3 : Int32) &&& 31).toUInt32).toInt32) &&& (7 : Int32)) % ((5 : Int32) - v9)))), .unset, .unset, .unset, .unset, .unset, .unset, .unset, .unset, .unset, .unset, .unset, .unset, .unset, .unset, .unset, .unset, .unset, .unset, .unset, .unset, .unset, .unset, .unset, .unset, .unset, .unset]) rfl ?_
    exact k
  obtain ⟨v10, hv10, go21⟩ : ∃ v10 : Int32, v10 = (v9 + ((((p1.toUInt32 >>> ((3 : Int32) &&& 31).toUInt32).toInt32) &&& (7 : Int32)) % ((5 : Int32) - v9))) ∧ Go p e below A0 (T9.setTop (mkF m 86 #[.val (.long q0), .second, .val (.int p1), .val (.int p2), .val (.int p3), .val (.ref b1), .val (.int v9), .val (.int v10), .unset, .unset, .unset, .unset, .unset, .unset, .unset, .unset, .unset, .unset, .unset, .unset, .unset, .unset, .unset, .unset, .unset, .unset, .unset, .unset, .unset, .unset, .unset, .unset, .unset, .unset] [])) := ⟨_, rfl, go20⟩
  have go22 : Go p e below A0 (T9.setTop (mkF m 89 #[.val (.long q0), .second, .val (.int p1), .val (.int p2), .val (.int p3), .val (.ref b1), .val (.int v9), .val (.int v10), .unset, .unset, .unset, .unset, .unset, .unset, .unset, .unset, .unset, .unset, .unset, .unset, .unset, .unset, .unset, .unset, .unset, .unset, .unset, .unset, .unset, .unset, .unset, .unset, .unset, .unset] [(.int (p2 &&& (1 : Int32)))])) := by
    intro t k
    refine go21 t ?_
    refine o_iloadN X9 hx hby at_86 87 rfl rfl ?_
    refine o_iconst X9 hx hby at_87 88 rfl (v := (1 : Int32)) rfl ?_
    refine o_iand X9 hx hby at_88 89 rfl ?_
    exact k
  obtain ⟨v11, hv11, go25⟩ : ∃ (v11 : Int32), v11 = (if (p2 &&& (1 : Int32)) = (0 : Int32) then (0 : Int32) else (1 : Int32)) ∧ Go p e below A0 (T9.setTop (mkF m 97 #[.val (.long q0), .second, .val (.int p1), .val (.int p2), .val (.int p3), .val (.ref b1), .val (.int v9), .val (.int v10), .unset, .unset, .unset, .unset, .unset, .unset, .unset, .unset, .unset, .unset, .unset, .unset, .unset, .unset, .unset, .unset, .unset, .unset, .unset, .unset, .unset, .unset, .unset, .unset, .unset, .unset] [(.int v11)])) := by
    by_cases hc89_10 : (p2 &&& (1 : Int32)) = (0 : Int32)
    · have go23 : Go p e below A0 (T9.setTop (mkF m 97 #[.val (.long q0), .second, .val (.int p1), .val (.int p2), .val (.int p3), .val (.ref b1), .val (.int v9), .val (.int v10), .unset, .unset, .unset, .unset, .unset, .unset, .unset, .unset, .unset, .unset, .unset, .unset, .unset, .unset, .unset, .unset, .unset, .unset, .unset, .unset, .unset, .unset, .unset, .unset, .unset, .unset] [(.int (0 : Int32))])) := by
        intro t k
        refine go22 t ?_
        refine o_ifY X9 hx hby at_89 96 rfl (teq hc89_10).1 ?_
        refine o_iconst X9 hx hby at_96 97 rfl (v := (0 : Int32)) rfl ?_
        exact k
      exact ⟨(0 : Int32), (if_pos hc89_10).symm, go23⟩
    · have go24 : Go p e below A0 (T9.setTop (mkF m 97 #[.val (.long q0), .second, .val (.int p1), .val (.int p2), .val (.int p3), .val (.ref b1), .val (.int v9), .val (.int v10), .unset, .unset, .unset, .unset, .unset, .unset, .unset, .unset, .unset, .unset, .unset, .unset, .unset, .unset, .unset, .unset, .unset, .unset, .unset, .unset, .unset, .unset, .unset, .unset, .unset, .unset] [(.int (1 : Int32))])) := by
        intro t k
        refine go22 t ?_
        refine o_ifN X9 hx hby at_89 92 rfl (feq hc89_10).1 ?_
        refine o_iconst X9 hx hby at_92 93 rfl (v := (1 : Int32)) rfl ?_
        refine o_goto X9 hx hby at_93 97 rfl ?_
        exact k
      exact ⟨(1 : Int32), (if_neg hc89_10).symm, go24⟩
  have go26 : Go p e below A0 (T9.setTop (mkF m 99 #[.val (.long q0), .second, .val (.int p1), .val (.int p2), .val (.int p3), .val (.ref b1), .val (.int v9), .val (.int v10), .val (.int v11), .unset, .unset, .unset, .unset, .unset, .unset, .unset, .unset, .unset, .unset, .unset, .unset, .unset, .unset, .unset, .unset, .unset, .unset, .unset, .unset, .unset, .unset, .unset, .unset, .unset] [])) := by
    intro t k
    refine go25 t ?_
    refine o_istore X9 hx hby at_97 99 rfl (l' := #[.val (.long q0), .second, .val (.int p1), .val (.int p2), .val (.int p3), .val (.ref b1), .val (.int v9), .val (.int v10), .val (.int v11), .unset, .unset, .unset, .unset, .unset, .unset, .unset, .unset, .unset, .unset, .unset, .unset, .unset, .unset, .unset, .unset, .unset, .unset, .unset, .unset, .unset, .unset, .unset, .unset, .unset]) rfl ?_
    exact k
  have go27 : Go p e below A0 (T9.setTop (mkF m 103 #[.val (.long q0), .second, .val (.int p1), .val (.int p2), .val (.int p3), .val (.ref b1), .val (.int v9), .val (.int v10), .val (.int v11), .unset, .unset, .unset, .unset, .unset, .unset, .unset, .unset, .unset, .unset, .unset, .unset, .unset, .unset, .unset, .unset, .unset, .unset, .unset, .unset, .unset, .unset, .unset, .unset, .unset] [(.int (p3 &&& (1 : Int32)))])) := by
    intro t k
    refine go26 t ?_
    refine o_iload X9 hx hby at_99 101 rfl rfl ?_
    refine o_iconst X9 hx hby at_101 102 rfl (v := (1 : Int32)) rfl ?_
    refine o_iand X9 hx hby at_102 103 rfl ?_
    exact k
  obtain ⟨v12, hv12, go30⟩ : ∃ (v12 : Int32), v12 = (if (p3 &&& (1 : Int32)) = (0 : Int32) then (0 : Int32) else (1 : Int32)) ∧ Go p e below A0 (T9.setTop (mkF m 111 #[.val (.long q0), .second, .val (.int p1), .val (.int p2), .val (.int p3), .val (.ref b1), .val (.int v9), .val (.int v10), .val (.int v11), .unset, .unset, .unset, .unset, .unset, .unset, .unset, .unset, .unset, .unset, .unset, .unset, .unset, .unset, .unset, .unset, .unset, .unset, .unset, .unset, .unset, .unset, .unset, .unset, .unset] [(.int v12)])) := by
    by_cases hc103_11 : (p3 &&& (1 : Int32)) = (0 : Int32)
    · have go28 : Go p e below A0 (T9.setTop (mkF m 111 #[.val (.long q0), .second, .val (.int p1), .val (.int p2), .val (.int p3), .val (.ref b1), .val (.int v9), .val (.int v10), .val (.int v11), .unset, .unset, .unset, .unset, .unset, .unset, .unset, .unset, .unset, .unset, .unset, .unset, .unset, .unset, .unset, .unset, .unset, .unset, .unset, .unset, .unset, .unset, .unset, .unset, .unset] [(.int (0 : Int32))])) := by
        intro t k
        refine go27 t ?_
        refine o_ifY X9 hx hby at_103 110 rfl (teq hc103_11).1 ?_
        refine o_iconst X9 hx hby at_110 111 rfl (v := (0 : Int32)) rfl ?_
        exact k
      exact ⟨(0 : Int32), (if_pos hc103_11).symm, go28⟩
    · have go29 : Go p e below A0 (T9.setTop (mkF m 111 #[.val (.long q0), .second, .val (.int p1), .val (.int p2), .val (.int p3), .val (.ref b1), .val (.int v9), .val (.int v10), .val (.int v11), .unset, .unset, .unset, .unset, .unset, .unset, .unset, .unset, .unset, .unset, .unset, .unset, .unset, .unset, .unset, .unset, .unset, .unset, .unset, .unset, .unset, .unset, .unset, .unset, .unset] [(.int (1 : Int32))])) := by
        intro t k
        refine go27 t ?_
        refine o_ifN X9 hx hby at_103 106 rfl (feq hc103_11).1 ?_
        refine o_iconst X9 hx hby at_106 107 rfl (v := (1 : Int32)) rfl ?_
        refine o_goto X9 hx hby at_107 111 rfl ?_
        exact k
      exact ⟨(1 : Int32), (if_neg hc103_11).symm, go29⟩
  have go31 : Go p e below A0 (T9.setTop (mkF m 113 #[.val (.long q0), .second, .val (.int p1), .val (.int p2), .val (.int p3), .val (.ref b1), .val (.int v9), .val (.int v10), .val (.int v11), .val (.int v12), .unset, .unset, .unset, .unset, .unset, .unset, .unset, .unset, .unset, .unset, .unset, .unset, .unset, .unset, .unset, .unset, .unset, .unset, .unset, .unset, .unset, .unset, .unset, .unset] [])) := by
    intro t k
    refine go30 t ?_
    refine o_istore X9 hx hby at_111 113 rfl (l' := #[.val (.long q0), .second, .val (.int p1), .val (.int p2), .val (.int p3), .val (.ref b1), .val (.int v9), .val (.int v10), .val (.int v11), .val (.int v12), .unset, .unset, .unset, .unset, .unset, .unset, .unset, .unset, .unset, .unset, .unset, .unset, .unset, .unset, .unset, .unset, .unset, .unset, .unset, .unset, .unset, .unset, .unset, .unset]) rfl ?_
    exact k
  have go32 : Go p e below A0 (T9.setTop (mkF m 125 #[.val (.long q0), .second, .val (.int p1), .val (.int p2), .val (.int p3), .val (.ref b1), .val (.int v9), .val (.int v10), .val (.int v11), .val (.int v12), .val (.int ((((p3.toUInt32 >>> ((1 : Int32) &&& 31).toUInt32).toInt32) &&& (15 : Int32)) % (10 : Int32))), .unset, .unset, .unset, .unset, .unset, .unset, .unset, .unset, .unset, .unset, .unset, .unset, .unset, .unset, .unset, .unset, .unset, .unset, .unset, .unset, .unset, .unset, .unset] [])) := by
    intro t k
    refine go31 t ?_
    refine o_iload X9 hx hby at_113 115 rfl rfl ?_
    refine o_iconst X9 hx hby at_115 116 rfl (v := (1 : Int32)) rfl ?_
    refine o_iushr X9 hx hby at_116 117 rfl ?_
    refine o_bipush X9 hx hby at_117 119 rfl (v := (15 : Int32)) rfl ?_
    refine o_iand X9 hx hby at_119 120 rfl ?_
    refine o_bipush X9 hx hby at_120 122 rfl (v := (10 : Int32)) rfl ?_
    refine o_irem X9 hx hby at_122 123 rfl (by decide) ?_
    refine o_istore X9 hx hby at_123 125 rfl (l' := #[.val (.long q0), .second, .val (.int p1), .val (.int p2), .val (.int p3), .val (.ref b1), .val (.int v9), .val (.int v10), .val (.int v11), .val (.int v12), .val (.int ((((p3.toUInt32 >>> ((1 : Int32) &&& 31).toUInt32).toInt32) &&& (15 : Int32)) % (10 : Int32))), .unset, .unset, .unset, .unset, .unset, .unset, .unset, .unset, .unset, .unset, .unset, .unset, .unset, .unset, .unset, .unset, .unset, .unset, .unset, .unset, .unset, .unset, .unset]) rfl ?_
    exact k
  obtain ⟨v13, hv13, go33⟩ : ∃ v13 : Int32, v13 = ((((p3.toUInt32 >>> ((1 : Int32) &&& 31).toUInt32).toInt32) &&& (15 : Int32)) % (10 : Int32)) ∧ Go p e below A0 (T9.setTop (mkF m 125 #[.val (.long q0), .second, .val (.int p1), .val (.int p2), .val (.int p3), .val (.ref b1), .val (.int v9), .val (.int v10), .val (.int v11), .val (.int v12), .val (.int v13), .unset, .unset, .unset, .unset, .unset, .unset, .unset, .unset, .unset, .unset, .unset, .unset, .unset, .unset, .unset, .unset, .unset, .unset, .unset, .unset, .unset, .unset, .unset] [])) := ⟨_, rfl, go32⟩
  have go34 : Go p e below A0 (T9.setTop (mkF m 137 #[.val (.long q0), .second, .val (.int p1), .val (.int p2), .val (.int p3), .val (.ref b1), .val (.int v9), .val (.int v10), .val (.int v11), .val (.int v12), .val (.int v13), .val (.int ((((p3.toUInt32 >>> ((5 : Int32) &&& 31).toUInt32).toInt32) &&& (15 : Int32)) % (10 : Int32))), .unset, .unset, .unset, .unset, .unset, .unset, .unset, .unset, .unset, .unset, .unset, .unset, .unset, .unset, .unset, .unset, .unset, .unset, .unset, .unset, .unset, .unset] [])) := by
    intro t k
    refine go33 t ?_
    refine o_iload X9 hx hby at_125 127 rfl rfl ?_
    refine o_iconst X9 hx hby at_127 128 rfl (v := (5 : Int32)) rfl ?_
    refine o_iushr X9 hx hby at_128 129 rfl ?_
    refine o_bipush X9 hx hby at_129 131 rfl (v := (15 : Int32)) rfl ?_
    refine o_iand X9 hx hby at_131 132 rfl ?_
    refine o_bipush X9 hx hby at_132 134 rfl (v := (10 : Int32)) rfl ?_
    refine o_irem X9 hx hby at_134 135 rfl (by decide) ?_
    refine o_istore X9 hx hby at_135 137 rfl (l' := #[.val (.long q0), .second, .val (.int p1), .val (.int p2), .val (.int p3), .val (.ref b1), .val (.int v9), .val (.int v10), .val (.int v11), .val (.int v12), .val (.int v13), .val (.int ((((p3.toUInt32 >>> ((5 : Int32) &&& 31).toUInt32).toInt32) &&& (15 : Int32)) % (10 : Int32))), .unset, .unset, .unset, .unset, .unset, .unset, .unset, .unset, .unset, .unset, .unset, .unset, .unset, .unset, .unset, .unset, .unset, .unset, .unset, .unset, .unset, .unset]) rfl ?_
    exact k
  obtain ⟨v14, hv14, go35⟩ : ∃ v14 : Int32, v14 = ((((p3.toUInt32 >>> ((5 : Int32) &&& 31).toUInt32).toInt32) &&& (15 : Int32)) % (10 : Int32)) ∧ Go p e below A0 (T9.setTop (mkF m 137 #[.val (.long q0), .second, .val (.int p1), .val (.int p2), .val (.int p3), .val (.ref b1), .val (.int v9), .val (.int v10), .val (.int v11), .val (.int v12), .val (.int v13), .val (.int v14), .unset, .unset, .unset, .unset, .unset, .unset, .unset, .unset, .unset, .unset, .unset, .unset, .unset, .unset, .unset, .unset, .unset, .unset, .unset, .unset, .unset, .unset] [])) := ⟨_, rfl, go34⟩
  obtain ⟨T12, h12, k12, X12, e12, E12, A12, st12⟩ := newP X9 hx hZ (hw _ (List.mem_of_getElem? (i := 0) rfl)) e9 (g := (mkF m 138 #[.val (.long q0), .second, .val (.int p1), .val (.int p2), .val (.int p3), .val (.ref b1), .val (.int v9), .val (.int v10), .val (.int v11), .val (.int v12), .val (.int v13), .val (.int v14), .unset, .unset, .unset, .unset, .unset, .unset, .unset, .unset, .unset, .unset, .unset, .unset, .unset, .unset, .unset, .unset, .unset, .unset, .unset, .unset, .unset, .unset] [(.int (4 : Int32))])) rfl (hb hby at_138) rfl (by decide) (cap := 4) (by decide) (by decide) (by decide) (by decide)
  obtain ⟨b12, g12⟩ : ∃ z, z = h9.size := ⟨_, rfl⟩
  rw [← g12] at A12 st12
  have ne_b1_b12 : b1 ≠ b12 := Nat.ne_of_lt (Nat.lt_of_lt_of_le f5.lt (Nat.le_of_eq g12.symm))
  have g_b12 : n0 ≤ b12 := Nat.le_trans Zp9 (Nat.le_of_eq g12.symm)
  have f6 : Arv Z h12 b1 k1 .byte (4 : Int32) [(.int (nar .byte v2)), (.int (nar .byte v4)), (.int (nar .byte v6)), (.int (nar .byte v8))] (.int (0 : Int32)) := f5.ext E12
  have Zp12 : n0 ≤ h12.size := Nat.le_trans Zp9 E12.1
  have f7 : Arv Z h12 b12 k12 .byte (4 : Int32) [(.int (0 : Int32)), (.int (0 : Int32)), (.int (0 : Int32)), (.int (0 : Int32))] (.int (0 : Int32)) := (Arv.new A12 (by decide)).pad (pad_rep [] (.int (0 : Int32)) 4)
  have go36 : Go p e below A0 (T12.setTop (mkF m 144 #[.val (.long q0), .second, .val (.int p1), .val (.int p2), .val (.int p3), .val (.ref b1), .val (.int v9), .val (.int v10), .val (.int v11), .val (.int v12), .val (.int v13), .val (.int v14), .unset, .unset, .unset, .unset, .unset, .unset, .unset, .unset, .unset, .unset, .unset, .unset, .unset, .unset, .unset, .unset, .unset, .unset, .unset, .unset, .unset, .unset] [(.int v12), (.int (0 : Int32)), (.ref b12), (.ref b12)])) := by
    intro t k
    refine go35 t ?_
    refine o_iconst X9 hx hby at_137 138 rfl (v := (4 : Int32)) rfl ?_
    refine st12 _ ?_
    show Steps p.tables e below (T12.setTop (mkF m 140 #[.val (.long q0), .second, .val (.int p1), .val (.int p2), .val (.int p3), .val (.ref b1), .val (.int v9), .val (.int v10), .val (.int v11), .val (.int v12), .val (.int v13), .val (.int v14), .unset, .unset, .unset, .unset, .unset, .unset, .unset, .unset, .unset, .unset, .unset, .unset, .unset, .unset, .unset, .unset, .unset, .unset, .unset, .unset, .unset, .unset] [(.ref b12)])) _
    refine o_dup X12 hx hby at_140 141 rfl rfl ?_
    refine o_iconst X12 hx hby at_141 142 rfl (v := (0 : Int32)) rfl ?_
    refine o_iload X12 hx hby at_142 144 rfl rfl ?_
    exact k
  obtain ⟨v15, hv15, go39⟩ : ∃ (v15 : Int32), v15 = (if v12 = (0 : Int32) then (43 : Int32) else (45 : Int32)) ∧ Go p e below A0 (T12.setTop (mkF m 154 #[.val (.long q0), .second, .val (.int p1), .val (.int p2), .val (.int p3), .val (.ref b1), .val (.int v9), .val (.int v10), .val (.int v11), .val (.int v12), .val (.int v13), .val (.int v14), .unset, .unset, .unset, .unset, .unset, .unset, .unset, .unset, .unset, .unset, .unset, .unset, .unset, .unset, .unset, .unset, .unset, .unset, .unset, .unset, .unset, .unset] [(.int v15), (.int (0 : Int32)), (.ref b12), (.ref b12)])) := by
    by_cases hc144_13 : v12 = (0 : Int32)
    · have go37 : Go p e below A0 (T12.setTop (mkF m 154 #[.val (.long q0), .second, .val (.int p1), .val (.int p2), .val (.int p3), .val (.ref b1), .val (.int v9), .val (.int v10), .val (.int v11), .val (.int v12), .val (.int v13), .val (.int v14), .unset, .unset, .unset, .unset, .unset, .unset, .unset, .unset, .unset, .unset, .unset, .unset, .unset, .unset, .unset, .unset, .unset, .unset, .unset, .unset, .unset, .unset] [(.int (43 : Int32)), (.int (0 : Int32)), (.ref b12), (.ref b12)])) := by
        intro t k
        refine go36 t ?_
        refine o_ifY X12 hx hby at_144 152 rfl (teq hc144_13).1 ?_
        refine o_bipush X12 hx hby at_152 154 rfl (v := (43 : Int32)) rfl ?_
        exact k
      exact ⟨(43 : Int32), (if_pos hc144_13).symm, go37⟩
    · have go38 : Go p e below A0 (T12.setTop (mkF m 154 #[.val (.long q0), .second, .val (.int p1), .val (.int p2), .val (.int p3), .val (.ref b1), .val (.int v9), .val (.int v10), .val (.int v11), .val (.int v12), .val (.int v13), .val (.int v14), .unset, .unset, .unset, .unset, .unset, .unset, .unset, .unset, .unset, .unset, .unset, .unset, .unset, .unset, .unset, .unset, .unset, .unset, .unset, .unset, .unset, .unset] [(.int (45 : Int32)), (.int (0 : Int32)), (.ref b12), (.ref b12)])) := by
        intro t k
        refine go36 t ?_
        refine o_ifN X12 hx hby at_144 147 rfl (feq hc144_13).1 ?_
        refine o_bipush X12 hx hby at_147 149 rfl (v := (45 : Int32)) rfl ?_
        refine o_goto X12 hx hby at_149 154 rfl ?_
        exact k
      exact ⟨(45 : Int32), (if_neg hc144_13).symm, go38⟩
  have go40 : Go p e below A0 (T12.setTop (mkF m 155 #[.val (.long q0), .second, .val (.int p1), .val (.int p2), .val (.int p3), .val (.ref b1), .val (.int v9), .val (.int v10), .val (.int v11), .val (.int v12), .val (.int v13), .val (.int v14), .unset, .unset, .unset, .unset, .unset, .unset, .unset, .unset, .unset, .unset, .unset, .unset, .unset, .unset, .unset, .unset, .unset, .unset, .unset, .unset, .unset, .unset] [(.int (v15.toInt8.toInt32)), (.int (0 : Int32)), (.ref b12), (.ref b12)])) := by
    intro t k
    refine go39 t ?_
    refine o_i2b X12 hx hby at_154 155 rfl ?_
    exact k
  obtain ⟨v16, hv16, go41⟩ : ∃ v16 : Int32, v16 = (v15.toInt8.toInt32) ∧ Go p e below A0 (T12.setTop (mkF m 155 #[.val (.long q0), .second, .val (.int p1), .val (.int p2), .val (.int p3), .val (.ref b1), .val (.int v9), .val (.int v10), .val (.int v11), .val (.int v12), .val (.int v13), .val (.int v14), .unset, .unset, .unset, .unset, .unset, .unset, .unset, .unset, .unset, .unset, .unset, .unset, .unset, .unset, .unset, .unset, .unset, .unset, .unset, .unset, .unset, .unset] [(.int v16), (.int (0 : Int32)), (.ref b12), (.ref b12)])) := ⟨_, rfl, go40⟩
  obtain ⟨cl14, Ar14, q14, S14, M14, H14, G14⟩ := id f7
  have hin14 : ¬ ((0 : Int32) < 0 ∨ cl14.slots.size ≤ ((0 : Int32)).toNatClampNeg) := inb_of S14 ⟨by decide, by decide⟩
  obtain ⟨T14, h14, X14, e14, W14, st14⟩ := stB X12 hx hZ e12 Ar14 (j := (0 : Int32)) hin14 (g := (mkF m 155 #[.val (.long q0), .second, .val (.int p1), .val (.int p2), .val (.int p3), .val (.ref b1), .val (.int v9), .val (.int v10), .val (.int v11), .val (.int v12), .val (.int v13), .val (.int v14), .unset, .unset, .unset, .unset, .unset, .unset, .unset, .unset, .unset, .unset, .unset, .unset, .unset, .unset, .unset, .unset, .unset, .unset, .unset, .unset, .unset, .unset] [(.int v16), (.int (0 : Int32)), (.ref b12), (.ref b12)])) rfl rfl (hb hby at_155)
  have f8 : Arv Z h14 b1 k1 .byte (4 : Int32) [(.int (nar .byte v2)), (.int (nar .byte v4)), (.int (nar .byte v6)), (.int (nar .byte v8))] (.int (0 : Int32)) := f6.other W14 ne_b1_b12
  have Zp14 : n0 ≤ h14.size := Nat.le_trans Zp12 (Keep.of_wr W14).1
  have N14 := Fr.snoc X14 N9 g_b12
  have f9 : Arv Z h14 b12 k12 .byte (4 : Int32) [(.int (nar .byte v16)), (.int (0 : Int32)), (.int (0 : Int32)), (.int (0 : Int32))] (.int (0 : Int32)) := Arv.set Ar14 q14 S14 M14 H14 G14 (fits_nar_byte _) W14 0 rfl (Nat.le_of_ble_eq_true rfl)
  have go42 : Go p e below A0 (T14.setTop (mkF m 164 #[.val (.long q0), .second, .val (.int p1), .val (.int p2), .val (.int p3), .val (.ref b1), .val (.int v9), .val (.int v10), .val (.int v11), .val (.int v12), .val (.int v13), .val (.int v14), .unset, .unset, .unset, .unset, .unset, .unset, .unset, .unset, .unset, .unset, .unset, .unset, .unset, .unset, .unset, .unset, .unset, .unset, .unset, .unset, .unset, .unset] [(.int (((48 : Int32) + v13).toInt8.toInt32)), (.int (1 : Int32)), (.ref b12), (.ref b12)])) := by
    intro t k
    refine go41 t ?_
    refine st14 _ ?_
    show Steps p.tables e below (T14.setTop (mkF m 156 #[.val (.long q0), .second, .val (.int p1), .val (.int p2), .val (.int p3), .val (.ref b1), .val (.int v9), .val (.int v10), .val (.int v11), .val (.int v12), .val (.int v13), .val (.int v14), .unset, .unset, .unset, .unset, .unset, .unset, .unset, .unset, .unset, .unset, .unset, .unset, .unset, .unset, .unset, .unset, .unset, .unset, .unset, .unset, .unset, .unset] [(.ref b12)])) _
    refine o_dup X14 hx hby at_156 157 rfl rfl ?_
    refine o_iconst X14 hx hby at_157 158 rfl (v := (1 : Int32)) rfl ?_
    refine o_bipush X14 hx hby at_158 160 rfl (v := (48 : Int32)) rfl ?_
    refine o_iload X14 hx hby at_160 162 rfl rfl ?_
    refine o_iadd X14 hx hby at_162 163 rfl ?_
    refine o_i2b X14 hx hby at_163 164 rfl ?_
    exact k
  obtain ⟨v17, hv17, go43⟩ : ∃ v17 : Int32, v17 = (((48 : Int32) + v13).toInt8.toInt32) ∧ Go p e below A0 (T14.setTop (mkF m 164 #[.val (.long q0), .second, .val (.int p1), .val (.int p2), .val (.int p3), .val (.ref b1), .val (.int v9), .val (.int v10), .val (.int v11), .val (.int v12), .val (.int v13), .val (.int v14), .unset, .unset, .unset, .unset, .unset, .unset, .unset, .unset, .unset, .unset, .unset, .unset, .unset, .unset, .unset, .unset, .unset, .unset, .unset, .unset, .unset, .unset] [(.int v17), (.int (1 : Int32)), (.ref b12), (.ref b12)])) := ⟨_, rfl, go42⟩
  obtain ⟨cl15, Ar15, q15, S15, M15, H15, G15⟩ := id f9
  have hin15 : ¬ ((1 : Int32) < 0 ∨ cl15.slots.size ≤ ((1 : Int32)).toNatClampNeg) := inb_of S15 ⟨by decide, by decide⟩
  obtain ⟨T15, h15, X15, e15, W15, st15⟩ := stB X14 hx hZ e14 Ar15 (j := (1 : Int32)) hin15 (g := (mkF m 164 #[.val (.long q0), .second, .val (.int p1), .val (.int p2), .val (.int p3), .val (.ref b1), .val (.int v9), .val (.int v10), .val (.int v11), .val (.int v12), .val (.int v13), .val (.int v14), .unset, .unset, .unset, .unset, .unset, .unset, .unset, .unset, .unset, .unset, .unset, .unset, .unset, .unset, .unset, .unset, .unset, .unset, .unset, .unset, .unset, .unset] [(.int v17), (.int (1 : Int32)), (.ref b12), (.ref b12)])) rfl rfl (hb hby at_164)
  have f10 : Arv Z h15 b1 k1 .byte (4 : Int32) [(.int (nar .byte v2)), (.int (nar .byte v4)), (.int (nar .byte v6)), (.int (nar .byte v8))] (.int (0 : Int32)) := f8.other W15 ne_b1_b12
  have Zp15 : n0 ≤ h15.size := Nat.le_trans Zp14 (Keep.of_wr W15).1
  have N15 := Fr.snoc X15 N14 g_b12
  have f11 : Arv Z h15 b12 k12 .byte (4 : Int32) [(.int (nar .byte v16)), (.int (nar .byte v17)), (.int (0 : Int32)), (.int (0 : Int32))] (.int (0 : Int32)) := Arv.set Ar15 q15 S15 M15 H15 G15 (fits_nar_byte _) W15 1 rfl (Nat.le_of_ble_eq_true rfl)
  have go44 : Go p e below A0 (T15.setTop (mkF m 169 #[.val (.long q0), .second, .val (.int p1), .val (.int p2), .val (.int p3), .val (.ref b1), .val (.int v9), .val (.int v10), .val (.int v11), .val (.int v12), .val (.int v13), .val (.int v14), .unset, .unset, .unset, .unset, .unset, .unset, .unset, .unset, .unset, .unset, .unset, .unset, .unset, .unset, .unset, .unset, .unset, .unset, .unset, .unset, .unset, .unset] [(.int (46 : Int32)), (.int (2 : Int32)), (.ref b12), (.ref b12)])) := by
    intro t k
    refine go43 t ?_
    refine st15 _ ?_
    show Steps p.tables e below (T15.setTop (mkF m 165 #[.val (.long q0), .second, .val (.int p1), .val (.int p2), .val (.int p3), .val (.ref b1), .val (.int v9), .val (.int v10), .val (.int v11), .val (.int v12), .val (.int v13), .val (.int v14), .unset, .unset, .unset, .unset, .unset, .unset, .unset, .unset, .unset, .unset, .unset, .unset, .unset, .unset, .unset, .unset, .unset, .unset, .unset, .unset, .unset, .unset] [(.ref b12)])) _
    refine o_dup X15 hx hby at_165 166 rfl rfl ?_
    refine o_iconst X15 hx hby at_166 167 rfl (v := (2 : Int32)) rfl ?_
    refine o_bipush X15 hx hby at_167 169 rfl (v := (46 : Int32)) rfl ?_
    exact k
  obtain ⟨cl16, Ar16, q16, S16, M16, H16, G16⟩ := id f11
  have hin16 : ¬ ((2 : Int32) < 0 ∨ cl16.slots.size ≤ ((2 : Int32)).toNatClampNeg) := inb_of S16 ⟨by decide, by decide⟩
  obtain ⟨T16, h16, X16, e16, W16, st16⟩ := stB X15 hx hZ e15 Ar16 (j := (2 : Int32)) hin16 (g := (mkF m 169 #[.val (.long q0), .second, .val (.int p1), .val (.int p2), .val (.int p3), .val (.ref b1), .val (.int v9), .val (.int v10), .val (.int v11), .val (.int v12), .val (.int v13), .val (.int v14), .unset, .unset, .unset, .unset, .unset, .unset, .unset, .unset, .unset, .unset, .unset, .unset, .unset, .unset, .unset, .unset, .unset, .unset, .unset, .unset, .unset, .unset] [(.int (46 : Int32)), (.int (2 : Int32)), (.ref b12), (.ref b12)])) rfl rfl (hb hby at_169)
  have f12 : Arv Z h16 b1 k1 .byte (4 : Int32) [(.int (nar .byte v2)), (.int (nar .byte v4)), (.int (nar .byte v6)), (.int (nar .byte v8))] (.int (0 : Int32)) := f10.other W16 ne_b1_b12
  have Zp16 : n0 ≤ h16.size := Nat.le_trans Zp15 (Keep.of_wr W16).1
  have N16 := Fr.snoc X16 N15 g_b12
  have f13 : Arv Z h16 b12 k12 .byte (4 : Int32) [(.int (nar .byte v16)), (.int (nar .byte v17)), (.int (nar .byte (46 : Int32))), (.int (0 : Int32))] (.int (0 : Int32)) := Arv.set Ar16 q16 S16 M16 H16 G16 (fits_nar_byte _) W16 2 rfl (Nat.le_of_ble_eq_true rfl)
  have go45 : Go p e below A0 (T16.setTop (mkF m 178 #[.val (.long q0), .second, .val (.int p1), .val (.int p2), .val (.int p3), .val (.ref b1), .val (.int v9), .val (.int v10), .val (.int v11), .val (.int v12), .val (.int v13), .val (.int v14), .unset, .unset, .unset, .unset, .unset, .unset, .unset, .unset, .unset, .unset, .unset, .unset, .unset, .unset, .unset, .unset, .unset, .unset, .unset, .unset, .unset, .unset] [(.int (((48 : Int32) + v14).toInt8.toInt32)), (.int (3 : Int32)), (.ref b12), (.ref b12)])) := by
    intro t k
    refine go44 t ?_
    refine st16 _ ?_
    show Steps p.tables e below (T16.setTop (mkF m 170 #[.val (.long q0), .second, .val (.int p1), .val (.int p2), .val (.int p3), .val (.ref b1), .val (.int v9), .val (.int v10), .val (.int v11), .val (.int v12), .val (.int v13), .val (.int v14), .unset, .unset, .unset, .unset, .unset, .unset, .unset, .unset, .unset, .unset, .unset, .unset, .unset, .unset, .unset, .unset, .unset, .unset, .unset, .unset, .unset, .unset] [(.ref b12)])) _
    refine o_dup X16 hx hby at_170 171 rfl rfl ?_
    refine o_iconst X16 hx hby at_171 172 rfl (v := (3 : Int32)) rfl ?_
    refine o_bipush X16 hx hby at_172 174 rfl (v := (48 : Int32)) rfl ?_
    refine o_iload X16 hx hby at_174 176 rfl rfl ?_
    refine o_iadd X16 hx hby at_176 177 rfl ?_
    refine o_i2b X16 hx hby at_177 178 rfl ?_
    exact k
  obtain ⟨v18, hv18, go46⟩ : ∃ v18 : Int32, v18 = (((48 : Int32) + v14).toInt8.toInt32) ∧ Go p e below A0 (T16.setTop (mkF m 178 #[.val (.long q0), .second, .val (.int p1), .val (.int p2), .val (.int p3), .val (.ref b1), .val (.int v9), .val (.int v10), .val (.int v11), .val (.int v12), .val (.int v13), .val (.int v14), .unset, .unset, .unset, .unset, .unset, .unset, .unset, .unset, .unset, .unset, .unset, .unset, .unset, .unset, .unset, .unset, .unset, .unset, .unset, .unset, .unset, .unset] [(.int v18), (.int (3 : Int32)), (.ref b12), (.ref b12)])) := ⟨_, rfl, go45⟩
  obtain ⟨cl17, Ar17, q17, S17, M17, H17, G17⟩ := id f13
  have hin17 : ¬ ((3 : Int32) < 0 ∨ cl17.slots.size ≤ ((3 : Int32)).toNatClampNeg) := inb_of S17 ⟨by decide, by decide⟩
  obtain ⟨T17, h17, X17, e17, W17, st17⟩ := stB X16 hx hZ e16 Ar17 (j := (3 : Int32)) hin17 (g := (mkF m 178 #[.val (.long q0), .second, .val (.int p1), .val (.int p2), .val (.int p3), .val (.ref b1), .val (.int v9), .val (.int v10), .val (.int v11), .val (.int v12), .val (.int v13), .val (.int v14), .unset, .unset, .unset, .unset, .unset, .unset, .unset, .unset, .unset, .unset, .unset, .unset, .unset, .unset, .unset, .unset, .unset, .unset, .unset, .unset, .unset, .unset] [(.int v18), (.int (3 : Int32)), (.ref b12), (.ref b12)])) rfl rfl (hb hby at_178)
  have f14 : Arv Z h17 b1 k1 .byte (4 : Int32) [(.int (nar .byte v2)), (.int (nar .byte v4)), (.int (nar .byte v6)), (.int (nar .byte v8))] (.int (0 : Int32)) := f12.other W17 ne_b1_b12
  have Zp17 : n0 ≤ h17.size := Nat.le_trans Zp16 (Keep.of_wr W17).1
  have N17 := Fr.snoc X17 N16 g_b12
  have f15 : Arv Z h17 b12 k12 .byte (4 : Int32) [(.int (nar .byte v16)), (.int (nar .byte v17)), (.int (nar .byte (46 : Int32))), (.int (nar .byte v18))] (.int (0 : Int32)) := Arv.set Ar17 q17 S17 M17 H17 G17 (fits_nar_byte _) W17 3 rfl (Nat.le_of_ble_eq_true rfl)
  have go47 : Go p e below A0 (T17.setTop (mkF m 183 #[.val (.long q0), .second, .val (.int p1), .val (.int p2), .val (.int p3), .val (.ref b1), .val (.int v9), .val (.int v10), .val (.int v11), .val (.int v12), .val (.int v13), .val (.int v14), .val (.ref b12), .unset, .unset, .unset, .unset, .unset, .unset, .unset, .unset, .unset, .unset, .unset, .unset, .unset, .unset, .unset, .unset, .unset, .unset, .unset, .unset, .unset] [(.int v12)])) := by
    intro t k
    refine go46 t ?_
    refine st17 _ ?_
    show Steps p.tables e below (T17.setTop (mkF m 179 #[.val (.long q0), .second, .val (.int p1), .val (.int p2), .val (.int p3), .val (.ref b1), .val (.int v9), .val (.int v10), .val (.int v11), .val (.int v12), .val (.int v13), .val (.int v14), .unset, .unset, .unset, .unset, .unset, .unset, .unset, .unset, .unset, .unset, .unset, .unset, .unset, .unset, .unset, .unset, .unset, .unset, .unset, .unset, .unset, .unset] [(.ref b12)])) _
    refine o_astore X17 hx hby at_179 181 rfl rfl (l' := #[.val (.long q0), .second, .val (.int p1), .val (.int p2), .val (.int p3), .val (.ref b1), .val (.int v9), .val (.int v10), .val (.int v11), .val (.int v12), .val (.int v13), .val (.int v14), .val (.ref b12), .unset, .unset, .unset, .unset, .unset, .unset, .unset, .unset, .unset, .unset, .unset, .unset, .unset, .unset, .unset, .unset, .unset, .unset, .unset, .unset, .unset]) rfl ?_
    refine o_iload X17 hx hby at_181 183 rfl rfl ?_
    exact k
  obtain ⟨v19, hv19, go50⟩ : ∃ (v19 : Int64), v19 = (if v12 = (0 : Int32) then (((10 : Int64) * (v13.toInt64)) + (v14.toInt64)) else (-(((10 : Int64) * (v13.toInt64)) + (v14.toInt64)))) ∧ Go p e below A0 (T17.setTop (mkF m 212 #[.val (.long q0), .second, .val (.int p1), .val (.int p2), .val (.int p3), .val (.ref b1), .val (.int v9), .val (.int v10), .val (.int v11), .val (.int v12), .val (.int v13), .val (.int v14), .val (.ref b12), .unset, .unset, .unset, .unset, .unset, .unset, .unset, .unset, .unset, .unset, .unset, .unset, .unset, .unset, .unset, .unset, .unset, .unset, .unset, .unset, .unset] [(.long v19)])) := by
    by_cases hc183_18 : v12 = (0 : Int32)
    · have go48 : Go p e below A0 (T17.setTop (mkF m 212 #[.val (.long q0), .second, .val (.int p1), .val (.int p2), .val (.int p3), .val (.ref b1), .val (.int v9), .val (.int v10), .val (.int v11), .val (.int v12), .val (.int v13), .val (.int v14), .val (.ref b12), .unset, .unset, .unset, .unset, .unset, .unset, .unset, .unset, .unset, .unset, .unset, .unset, .unset, .unset, .unset, .unset, .unset, .unset, .unset, .unset, .unset] [(.long (((10 : Int64) * (v13.toInt64)) + (v14.toInt64)))])) := by
        intro t k
        refine go47 t ?_
        refine o_ifY X17 hx hby at_183 201 rfl (teq hc183_18).1 ?_
        refine o_ldc2Long X17 hx hby hown (mvT hZ (hw _ (List.mem_of_getElem? (i := 7) rfl))) at_201 204 rfl ?_
        refine o_iload X17 hx hby at_204 206 rfl rfl ?_
        refine o_i2l X17 hx hby at_206 207 rfl ?_
        refine o_lmul X17 hx hby at_207 208 rfl ?_
        refine o_iload X17 hx hby at_208 210 rfl rfl ?_
        refine o_i2l X17 hx hby at_210 211 rfl ?_
        refine o_ladd X17 hx hby at_211 212 rfl ?_
        exact k
      exact ⟨(((10 : Int64) * (v13.toInt64)) + (v14.toInt64)), (if_pos hc183_18).symm, go48⟩
    · have go49 : Go p e below A0 (T17.setTop (mkF m 212 #[.val (.long q0), .second, .val (.int p1), .val (.int p2), .val (.int p3), .val (.ref b1), .val (.int v9), .val (.int v10), .val (.int v11), .val (.int v12), .val (.int v13), .val (.int v14), .val (.ref b12), .unset, .unset, .unset, .unset, .unset, .unset, .unset, .unset, .unset, .unset, .unset, .unset, .unset, .unset, .unset, .unset, .unset, .unset, .unset, .unset, .unset] [(.long (-(((10 : Int64) * (v13.toInt64)) + (v14.toInt64))))])) := by
        intro t k
        refine go47 t ?_
        refine o_ifN X17 hx hby at_183 186 rfl (feq hc183_18).1 ?_
        refine o_ldc2Long X17 hx hby hown (mvT hZ (hw _ (List.mem_of_getElem? (i := 7) rfl))) at_186 189 rfl ?_
        refine o_iload X17 hx hby at_189 191 rfl rfl ?_
        refine o_i2l X17 hx hby at_191 192 rfl ?_
        refine o_lmul X17 hx hby at_192 193 rfl ?_
        refine o_iload X17 hx hby at_193 195 rfl rfl ?_
        refine o_i2l X17 hx hby at_195 196 rfl ?_
        refine o_ladd X17 hx hby at_196 197 rfl ?_
        refine o_lneg X17 hx hby at_197 198 rfl ?_
        refine o_goto X17 hx hby at_198 212 rfl ?_
        exact k
      exact ⟨(-(((10 : Int64) * (v13.toInt64)) + (v14.toInt64))), (if_neg hc183_18).symm, go49⟩
  have go51 : Go p e below A0 (T17.setTop (mkF m 214 #[.val (.long q0), .second, .val (.int p1), .val (.int p2), .val (.int p3), .val (.ref b1), .val (.int v9), .val (.int v10), .val (.int v11), .val (.int v12), .val (.int v13), .val (.int v14), .val (.ref b12), .val (.long v19), .second, .unset, .unset, .unset, .unset, .unset, .unset, .unset, .unset, .unset, .unset, .unset, .unset, .unset, .unset, .unset, .unset, .unset, .unset, .unset] [])) := by
    intro t k
    refine go50 t ?_
    refine o_lstore X17 hx hby at_212 214 rfl (l' := #[.val (.long q0), .second, .val (.int p1), .val (.int p2), .val (.int p3), .val (.ref b1), .val (.int v9), .val (.int v10), .val (.int v11), .val (.int v12), .val (.int v13), .val (.int v14), .val (.ref b12), .val (.long v19), .second, .unset, .unset, .unset, .unset, .unset, .unset, .unset, .unset, .unset, .unset, .unset, .unset, .unset, .unset, .unset, .unset, .unset, .unset, .unset]) rfl ?_
    exact k
  have go52 : Go p e below A0 (T17.setTop (mkF m 218 #[.val (.long q0), .second, .val (.int p1), .val (.int p2), .val (.int p3), .val (.ref b1), .val (.int v9), .val (.int v10), .val (.int v11), .val (.int v12), .val (.int v13), .val (.int v14), .val (.ref b12), .val (.long v19), .second, .unset, .unset, .unset, .unset, .unset, .unset, .unset, .unset, .unset, .unset, .unset, .unset, .unset, .unset, .unset, .unset, .unset, .unset, .unset] [(.int v9), (.int v10)])) := by
    intro t k
    refine go51 t ?_
    refine o_iload X17 hx hby at_214 216 rfl rfl ?_
    refine o_iload X17 hx hby at_216 218 rfl rfl ?_
    exact k
  obtain ⟨v22, hv22, go61⟩ : ∃ (v22 : Int32), v22 = (if v9 < v10 then (if (own_at (nar .byte v2) (nar .byte v4) (nar .byte v6) (nar .byte v8) v9) = (43 : Int32) then (1 : Int32) else (if (own_at (nar .byte v2) (nar .byte v4) (nar .byte v6) (nar .byte v8) v9) = (45 : Int32) then (1 : Int32) else (0 : Int32))) else (0 : Int32)) ∧ Go p e below A0 (T17.setTop (mkF m 246 #[.val (.long q0), .second, .val (.int p1), .val (.int p2), .val (.int p3), .val (.ref b1), .val (.int v9), .val (.int v10), .val (.int v11), .val (.int v12), .val (.int v13), .val (.int v14), .val (.ref b12), .val (.long v19), .second, .unset, .unset, .unset, .unset, .unset, .unset, .unset, .unset, .unset, .unset, .unset, .unset, .unset, .unset, .unset, .unset, .unset, .unset, .unset] [(.int v22)])) := by
    by_cases hc218_19 : v9 < v10
    · obtain ⟨cl20, Ar20, q20, S20, M20, H20, G20⟩ := id f14
      have hin20 : ¬ (v9 < 0 ∨ cl20.slots.size ≤ (v9).toNatClampNeg) := inb_of S20 (pf_ld_1 q0 p1 p2 p3 v1 v2 v3 v4 v5 v6 v7 v8 v9 v10 v11 v12 v13 v14 v15 v16 v17 v18 v19 hv1 hv2 hv3 hv4 hv5 hv6 hv7 hv8 hv9 hv10 hv11 hv12 hv13 hv14 hv15 hv16 hv17 hv18 hv19 hc218_19)
      have hat20 : cl20.slots[(v9).toNatClampNeg]? = some (.int (own_at (nar .byte v2) (nar .byte v4) (nar .byte v6) (nar .byte v8) v9)) := H20.at hin20 (own_get4 (pf_ld_1 q0 p1 p2 p3 v1 v2 v3 v4 v5 v6 v7 v8 v9 v10 v11 v12 v13 v14 v15 v16 v17 v18 v19 hv1 hv2 hv3 hv4 hv5 hv6 hv7 hv8 hv9 hv10 hv11 hv12 hv13 hv14 hv15 hv16 hv17 hv18 hv19 hc218_19))
      have go53 : Go p e below A0 (T17.setTop (mkF m 228 #[.val (.long q0), .second, .val (.int p1), .val (.int p2), .val (.int p3), .val (.ref b1), .val (.int v9), .val (.int v10), .val (.int v11), .val (.int v12), .val (.int v13), .val (.int v14), .val (.ref b12), .val (.long v19), .second, .unset, .unset, .unset, .unset, .unset, .unset, .unset, .unset, .unset, .unset, .unset, .unset, .unset, .unset, .unset, .unset, .unset, .unset, .unset] [(.int (43 : Int32)), (.int (own_at (nar .byte v2) (nar .byte v4) (nar .byte v6) (nar .byte v8) v9))])) := by
        intro t k
        refine go52 t ?_
        refine o_icmpN X17 hx hby at_218 221 rfl (tlt hc218_19).2.2.2 ?_
        refine o_aload X17 hx hby at_221 223 rfl rfl rfl ?_
        refine o_iload X17 hx hby at_223 225 rfl rfl ?_
        refine X17.baloadBytes hx (j := v9) (v := (.int (own_at (nar .byte v2) (nar .byte v4) (nar .byte v6) (nar .byte v8) v9))) (by rw [e17]; exact Ar20.1) (State.isArrayOf_alike hZ.alike Ar20.2.1) Ar20.2.2 hin20 hat20 (g := (mkF m 225 #[.val (.long q0), .second, .val (.int p1), .val (.int p2), .val (.int p3), .val (.ref b1), .val (.int v9), .val (.int v10), .val (.int v11), .val (.int v12), .val (.int v13), .val (.int v14), .val (.ref b12), .val (.long v19), .second, .unset, .unset, .unset, .unset, .unset, .unset, .unset, .unset, .unset, .unset, .unset, .unset, .unset, .unset, .unset, .unset, .unset, .unset, .unset] [(.int v9), (.ref b1)])) rfl rfl (hb hby at_225) _ ?_
        show Steps p.tables e below (T17.setTop (mkF m 226 #[.val (.long q0), .second, .val (.int p1), .val (.int p2), .val (.int p3), .val (.ref b1), .val (.int v9), .val (.int v10), .val (.int v11), .val (.int v12), .val (.int v13), .val (.int v14), .val (.ref b12), .val (.long v19), .second, .unset, .unset, .unset, .unset, .unset, .unset, .unset, .unset, .unset, .unset, .unset, .unset, .unset, .unset, .unset, .unset, .unset, .unset, .unset] [(.int (own_at (nar .byte v2) (nar .byte v4) (nar .byte v6) (nar .byte v8) v9))])) _
        refine o_bipush X17 hx hby at_226 228 rfl (v := (43 : Int32)) rfl ?_
        exact k
      obtain ⟨v21, hv21, go59⟩ : ∃ (v21 : Int32), v21 = (if (own_at (nar .byte v2) (nar .byte v4) (nar .byte v6) (nar .byte v8) v9) = (43 : Int32) then (1 : Int32) else (if (own_at (nar .byte v2) (nar .byte v4) (nar .byte v6) (nar .byte v8) v9) = (45 : Int32) then (1 : Int32) else (0 : Int32))) ∧ Go p e below A0 (T17.setTop (mkF m 246 #[.val (.long q0), .second, .val (.int p1), .val (.int p2), .val (.int p3), .val (.ref b1), .val (.int v9), .val (.int v10), .val (.int v11), .val (.int v12), .val (.int v13), .val (.int v14), .val (.ref b12), .val (.long v19), .second, .unset, .unset, .unset, .unset, .unset, .unset, .unset, .unset, .unset, .unset, .unset, .unset, .unset, .unset, .unset, .unset, .unset, .unset, .unset] [(.int v21)])) := by
        by_cases hc228_21 : (own_at (nar .byte v2) (nar .byte v4) (nar .byte v6) (nar .byte v8) v9) = (43 : Int32)
        · have go54 : Go p e below A0 (T17.setTop (mkF m 246 #[.val (.long q0), .second, .val (.int p1), .val (.int p2), .val (.int p3), .val (.ref b1), .val (.int v9), .val (.int v10), .val (.int v11), .val (.int v12), .val (.int v13), .val (.int v14), .val (.ref b12), .val (.long v19), .second, .unset, .unset, .unset, .unset, .unset, .unset, .unset, .unset, .unset, .unset, .unset, .unset, .unset, .unset, .unset, .unset, .unset, .unset, .unset] [(.int (1 : Int32))])) := by
            intro t k
            refine go53 t ?_
            refine o_icmpY X17 hx hby at_228 241 rfl (teq hc228_21).1 ?_
            refine o_iconst X17 hx hby at_241 242 rfl (v := (1 : Int32)) rfl ?_
            refine o_goto X17 hx hby at_242 246 rfl ?_
            exact k
          exact ⟨(1 : Int32), (if_pos hc228_21).symm, go54⟩
        · obtain ⟨cl22, Ar22, q22, S22, M22, H22, G22⟩ := id f14
          have hin22 : ¬ (v9 < 0 ∨ cl22.slots.size ≤ (v9).toNatClampNeg) := inb_of S22 (pf_ld_2 q0 p1 p2 p3 v1 v2 v3 v4 v5 v6 v7 v8 v9 v10 v11 v12 v13 v14 v15 v16 v17 v18 v19 hv1 hv2 hv3 hv4 hv5 hv6 hv7 hv8 hv9 hv10 hv11 hv12 hv13 hv14 hv15 hv16 hv17 hv18 hv19 hc218_19 hc228_21)
          have hat22 : cl22.slots[(v9).toNatClampNeg]? = some (.int (own_at (nar .byte v2) (nar .byte v4) (nar .byte v6) (nar .byte v8) v9)) := H22.at hin22 (own_get4 (pf_ld_2 q0 p1 p2 p3 v1 v2 v3 v4 v5 v6 v7 v8 v9 v10 v11 v12 v13 v14 v15 v16 v17 v18 v19 hv1 hv2 hv3 hv4 hv5 hv6 hv7 hv8 hv9 hv10 hv11 hv12 hv13 hv14 hv15 hv16 hv17 hv18 hv19 hc218_19 hc228_21))
          have go55 : Go p e below A0 (T17.setTop (mkF m 238 #[.val (.long q0), .second, .val (.int p1), .val (.int p2), .val (.int p3), .val (.ref b1), .val (.int v9), .val (.int v10), .val (.int v11), .val (.int v12), .val (.int v13), .val (.int v14), .val (.ref b12), .val (.long v19), .second, .unset, .unset, .unset, .unset, .unset, .unset, .unset, .unset, .unset, .unset, .unset, .unset, .unset, .unset, .unset, .unset, .unset, .unset, .unset] [(.int (45 : Int32)), (.int (own_at (nar .byte v2) (nar .byte v4) (nar .byte v6) (nar .byte v8) v9))])) := by
            intro t k
            refine go53 t ?_
            refine o_icmpN X17 hx hby at_228 231 rfl (feq hc228_21).1 ?_
            refine o_aload X17 hx hby at_231 233 rfl rfl rfl ?_
            refine o_iload X17 hx hby at_233 235 rfl rfl ?_
            refine X17.baloadBytes hx (j := v9) (v := (.int (own_at (nar .byte v2) (nar .byte v4) (nar .byte v6) (nar .byte v8) v9))) (by rw [e17]; exact Ar22.1) (State.isArrayOf_alike hZ.alike Ar22.2.1) Ar22.2.2 hin22 hat22 (g := (mkF m 235 #[.val (.long q0), .second, .val (.int p1), .val (.int p2), .val (.int p3), .val (.ref b1), .val (.int v9), .val (.int v10), .val (.int v11), .val (.int v12), .val (.int v13), .val (.int v14), .val (.ref b12), .val (.long v19), .second, .unset, .unset, .unset, .unset, .unset, .unset, .unset, .unset, .unset, .unset, .unset, .unset, .unset, .unset, .unset, .unset, .unset, .unset, .unset] [(.int v9), (.ref b1)])) rfl rfl (hb hby at_235) _ ?_
            show Steps p.tables e below (T17.setTop (mkF m 236 #[.val (.long q0), .second, .val (.int p1), .val (.int p2), .val (.int p3), .val (.ref b1), .val (.int v9), .val (.int v10), .val (.int v11), .val (.int v12), .val (.int v13), .val (.int v14), .val (.ref b12), .val (.long v19), .second, .unset, .unset, .unset, .unset, .unset, .unset, .unset, .unset, .unset, .unset, .unset, .unset, .unset, .unset, .unset, .unset, .unset, .unset, .unset] [(.int (own_at (nar .byte v2) (nar .byte v4) (nar .byte v6) (nar .byte v8) v9))])) _
            refine o_bipush X17 hx hby at_236 238 rfl (v := (45 : Int32)) rfl ?_
            exact k
          obtain ⟨v20, hv20, go58⟩ : ∃ (v20 : Int32), v20 = (if (own_at (nar .byte v2) (nar .byte v4) (nar .byte v6) (nar .byte v8) v9) = (45 : Int32) then (1 : Int32) else (0 : Int32)) ∧ Go p e below A0 (T17.setTop (mkF m 246 #[.val (.long q0), .second, .val (.int p1), .val (.int p2), .val (.int p3), .val (.ref b1), .val (.int v9), .val (.int v10), .val (.int v11), .val (.int v12), .val (.int v13), .val (.int v14), .val (.ref b12), .val (.long v19), .second, .unset, .unset, .unset, .unset, .unset, .unset, .unset, .unset, .unset, .unset, .unset, .unset, .unset, .unset, .unset, .unset, .unset, .unset, .unset] [(.int v20)])) := by
            by_cases hc238_23 : (own_at (nar .byte v2) (nar .byte v4) (nar .byte v6) (nar .byte v8) v9) = (45 : Int32)
            · have go56 : Go p e below A0 (T17.setTop (mkF m 246 #[.val (.long q0), .second, .val (.int p1), .val (.int p2), .val (.int p3), .val (.ref b1), .val (.int v9), .val (.int v10), .val (.int v11), .val (.int v12), .val (.int v13), .val (.int v14), .val (.ref b12), .val (.long v19), .second, .unset, .unset, .unset, .unset, .unset, .unset, .unset, .unset, .unset, .unset, .unset, .unset, .unset, .unset, .unset, .unset, .unset, .unset, .unset] [(.int (1 : Int32))])) := by
                intro t k
                refine go55 t ?_
                refine o_icmpN X17 hx hby at_238 241 rfl (teq hc238_23).2 ?_
                refine o_iconst X17 hx hby at_241 242 rfl (v := (1 : Int32)) rfl ?_
                refine o_goto X17 hx hby at_242 246 rfl ?_
                exact k
              exact ⟨(1 : Int32), (if_pos hc238_23).symm, go56⟩
            · have go57 : Go p e below A0 (T17.setTop (mkF m 246 #[.val (.long q0), .second, .val (.int p1), .val (.int p2), .val (.int p3), .val (.ref b1), .val (.int v9), .val (.int v10), .val (.int v11), .val (.int v12), .val (.int v13), .val (.int v14), .val (.ref b12), .val (.long v19), .second, .unset, .unset, .unset, .unset, .unset, .unset, .unset, .unset, .unset, .unset, .unset, .unset, .unset, .unset, .unset, .unset, .unset, .unset, .unset] [(.int (0 : Int32))])) := by
                intro t k
                refine go55 t ?_
                refine o_icmpY X17 hx hby at_238 245 rfl (feq hc238_23).2 ?_
                refine o_iconst X17 hx hby at_245 246 rfl (v := (0 : Int32)) rfl ?_
                exact k
              exact ⟨(0 : Int32), (if_neg hc238_23).symm, go57⟩
          rw [hv20] at go58
          exact ⟨(if (own_at (nar .byte v2) (nar .byte v4) (nar .byte v6) (nar .byte v8) v9) = (45 : Int32) then (1 : Int32) else (0 : Int32)), (if_neg hc228_21).symm, go58⟩
      rw [hv21] at go59
      exact ⟨(if (own_at (nar .byte v2) (nar .byte v4) (nar .byte v6) (nar .byte v8) v9) = (43 : Int32) then (1 : Int32) else (if (own_at (nar .byte v2) (nar .byte v4) (nar .byte v6) (nar .byte v8) v9) = (45 : Int32) then (1 : Int32) else (0 : Int32))), (if_pos hc218_19).symm, go59⟩
    · have go60 : Go p e below A0 (T17.setTop (mkF m 246 #[.val (.long q0), .second, .val (.int p1), .val (.int p2), .val (.int p3), .val (.ref b1), .val (.int v9), .val (.int v10), .val (.int v11), .val (.int v12), .val (.int v13), .val (.int v14), .val (.ref b12), .val (.long v19), .second, .unset, .unset, .unset, .unset, .unset, .unset, .unset, .unset, .unset, .unset, .unset, .unset, .unset, .unset, .unset, .unset, .unset, .unset, .unset] [(.int (0 : Int32))])) := by
        intro t k
        refine go52 t ?_
        refine o_icmpY X17 hx hby at_218 245 rfl (flt hc218_19).2.2.2 ?_
        refine o_iconst X17 hx hby at_245 246 rfl (v := (0 : Int32)) rfl ?_
        exact k
      exact ⟨(0 : Int32), (if_neg hc218_19).symm, go60⟩
  have go62 : Go p e below A0 (T17.setTop (mkF m 248 #[.val (.long q0), .second, .val (.int p1), .val (.int p2), .val (.int p3), .val (.ref b1), .val (.int v9), .val (.int v10), .val (.int v11), .val (.int v12), .val (.int v13), .val (.int v14), .val (.ref b12), .val (.long v19), .second, .val (.int v22), .unset, .unset, .unset, .unset, .unset, .unset, .unset, .unset, .unset, .unset, .unset, .unset, .unset, .unset, .unset, .unset, .unset, .unset] [])) := by
    intro t k
    refine go61 t ?_
    refine o_istore X17 hx hby at_246 248 rfl (l' := #[.val (.long q0), .second, .val (.int p1), .val (.int p2), .val (.int p3), .val (.ref b1), .val (.int v9), .val (.int v10), .val (.int v11), .val (.int v12), .val (.int v13), .val (.int v14), .val (.ref b12), .val (.long v19), .second, .val (.int v22), .unset, .unset, .unset, .unset, .unset, .unset, .unset, .unset, .unset, .unset, .unset, .unset, .unset, .unset, .unset, .unset, .unset, .unset]) rfl ?_
    exact k
  have go63 : Go p e below A0 (T17.setTop (mkF m 250 #[.val (.long q0), .second, .val (.int p1), .val (.int p2), .val (.int p3), .val (.ref b1), .val (.int v9), .val (.int v10), .val (.int v11), .val (.int v12), .val (.int v13), .val (.int v14), .val (.ref b12), .val (.long v19), .second, .val (.int v22), .unset, .unset, .unset, .unset, .unset, .unset, .unset, .unset, .unset, .unset, .unset, .unset, .unset, .unset, .unset, .unset, .unset, .unset] [(.int v22)])) := by
    intro t k
    refine go62 t ?_
    refine o_iload X17 hx hby at_248 250 rfl rfl ?_
    exact k
  obtain ⟨v24, hv24, go69⟩ : ∃ (v24 : Int32), v24 = (if v22 = (0 : Int32) then (0 : Int32) else (if (own_at (nar .byte v2) (nar .byte v4) (nar .byte v6) (nar .byte v8) v9) = (45 : Int32) then (1 : Int32) else (0 : Int32))) ∧ Go p e below A0 (T17.setTop (mkF m 268 #[.val (.long q0), .second, .val (.int p1), .val (.int p2), .val (.int p3), .val (.ref b1), .val (.int v9), .val (.int v10), .val (.int v11), .val (.int v12), .val (.int v13), .val (.int v14), .val (.ref b12), .val (.long v19), .second, .val (.int v22), .unset, .unset, .unset, .unset, .unset, .unset, .unset, .unset, .unset, .unset, .unset, .unset, .unset, .unset, .unset, .unset, .unset, .unset] [(.int v24)])) := by
    by_cases hc250_24 : v22 = (0 : Int32)
    · have go64 : Go p e below A0 (T17.setTop (mkF m 268 #[.val (.long q0), .second, .val (.int p1), .val (.int p2), .val (.int p3), .val (.ref b1), .val (.int v9), .val (.int v10), .val (.int v11), .val (.int v12), .val (.int v13), .val (.int v14), .val (.ref b12), .val (.long v19), .second, .val (.int v22), .unset, .unset, .unset, .unset, .unset, .unset, .unset, .unset, .unset, .unset, .unset, .unset, .unset, .unset, .unset, .unset, .unset, .unset] [(.int (0 : Int32))])) := by
        intro t k
        refine go63 t ?_
        refine o_ifY X17 hx hby at_250 267 rfl (teq hc250_24).1 ?_
        refine o_iconst X17 hx hby at_267 268 rfl (v := (0 : Int32)) rfl ?_
        exact k
      exact ⟨(0 : Int32), (if_pos hc250_24).symm, go64⟩
    · obtain ⟨cl25, Ar25, q25, S25, M25, H25, G25⟩ := id f14
      have hin25 : ¬ (v9 < 0 ∨ cl25.slots.size ≤ (v9).toNatClampNeg) := inb_of S25 (pf_ld_3 q0 p1 p2 p3 v1 v2 v3 v4 v5 v6 v7 v8 v9 v10 v11 v12 v13 v14 v15 v16 v17 v18 v19 v22 hv1 hv2 hv3 hv4 hv5 hv6 hv7 hv8 hv9 hv10 hv11 hv12 hv13 hv14 hv15 hv16 hv17 hv18 hv19 hv22 hc250_24)
      have hat25 : cl25.slots[(v9).toNatClampNeg]? = some (.int (own_at (nar .byte v2) (nar .byte v4) (nar .byte v6) (nar .byte v8) v9)) := H25.at hin25 (own_get4 (pf_ld_3 q0 p1 p2 p3 v1 v2 v3 v4 v5 v6 v7 v8 v9 v10 v11 v12 v13 v14 v15 v16 v17 v18 v19 v22 hv1 hv2 hv3 hv4 hv5 hv6 hv7 hv8 hv9 hv10 hv11 hv12 hv13 hv14 hv15 hv16 hv17 hv18 hv19 hv22 hc250_24))
      have go65 : Go p e below A0 (T17.setTop (mkF m 260 #[.val (.long q0), .second, .val (.int p1), .val (.int p2), .val (.int p3), .val (.ref b1), .val (.int v9), .val (.int v10), .val (.int v11), .val (.int v12), .val (.int v13), .val (.int v14), .val (.ref b12), .val (.long v19), .second, .val (.int v22), .unset, .unset, .unset, .unset, .unset, .unset, .unset, .unset, .unset, .unset, .unset, .unset, .unset, .unset, .unset, .unset, .unset, .unset] [(.int (45 : Int32)), (.int (own_at (nar .byte v2) (nar .byte v4) (nar .byte v6) (nar .byte v8) v9))])) := by
        intro t k
        refine go63 t ?_
        refine o_ifN X17 hx hby at_250 253 rfl (feq hc250_24).1 ?_
        refine o_aload X17 hx hby at_253 255 rfl rfl rfl ?_
        refine o_iload X17 hx hby at_255 257 rfl rfl ?_
        refine X17.baloadBytes hx (j := v9) (v := (.int (own_at (nar .byte v2) (nar .byte v4) (nar .byte v6) (nar .byte v8) v9))) (by rw [e17]; exact Ar25.1) (State.isArrayOf_alike hZ.alike Ar25.2.1) Ar25.2.2 hin25 hat25 (g := (mkF m 257 #[.val (.long q0), .second, .val (.int p1), .val (.int p2), .val (.int p3), .val (.ref b1), .val (.int v9), .val (.int v10), .val (.int v11), .val (.int v12), .val (.int v13), .val (.int v14), .val (.ref b12), .val (.long v19), .second, .val (.int v22), .unset, .unset, .unset, .unset, .unset, .unset, .unset, .unset, .unset, .unset, .unset, .unset, .unset, .unset, .unset, .unset, .unset, .unset] [(.int v9), (.ref b1)])) rfl rfl (hb hby at_257) _ ?_
        show Steps p.tables e below (T17.setTop (mkF m 258 #[.val (.long q0), .second, .val (.int p1), .val (.int p2), .val (.int p3), .val (.ref b1), .val (.int v9), .val (.int v10), .val (.int v11), .val (.int v12), .val (.int v13), .val (.int v14), .val (.ref b12), .val (.long v19), .second, .val (.int v22), .unset, .unset, .unset, .unset, .unset, .unset, .unset, .unset, .unset, .unset, .unset, .unset, .unset, .unset, .unset, .unset, .unset, .unset] [(.int (own_at (nar .byte v2) (nar .byte v4) (nar .byte v6) (nar .byte v8) v9))])) _
        refine o_bipush X17 hx hby at_258 260 rfl (v := (45 : Int32)) rfl ?_
        exact k
      obtain ⟨v23, hv23, go68⟩ : ∃ (v23 : Int32), v23 = (if (own_at (nar .byte v2) (nar .byte v4) (nar .byte v6) (nar .byte v8) v9) = (45 : Int32) then (1 : Int32) else (0 : Int32)) ∧ Go p e below A0 (T17.setTop (mkF m 268 #[.val (.long q0), .second, .val (.int p1), .val (.int p2), .val (.int p3), .val (.ref b1), .val (.int v9), .val (.int v10), .val (.int v11), .val (.int v12), .val (.int v13), .val (.int v14), .val (.ref b12), .val (.long v19), .second, .val (.int v22), .unset, .unset, .unset, .unset, .unset, .unset, .unset, .unset, .unset, .unset, .unset, .unset, .unset, .unset, .unset, .unset, .unset, .unset] [(.int v23)])) := by
        by_cases hc260_26 : (own_at (nar .byte v2) (nar .byte v4) (nar .byte v6) (nar .byte v8) v9) = (45 : Int32)
        · have go66 : Go p e below A0 (T17.setTop (mkF m 268 #[.val (.long q0), .second, .val (.int p1), .val (.int p2), .val (.int p3), .val (.ref b1), .val (.int v9), .val (.int v10), .val (.int v11), .val (.int v12), .val (.int v13), .val (.int v14), .val (.ref b12), .val (.long v19), .second, .val (.int v22), .unset, .unset, .unset, .unset, .unset, .unset, .unset, .unset, .unset, .unset, .unset, .unset, .unset, .unset, .unset, .unset, .unset, .unset] [(.int (1 : Int32))])) := by
            intro t k
            refine go65 t ?_
            refine o_icmpN X17 hx hby at_260 263 rfl (teq hc260_26).2 ?_
            refine o_iconst X17 hx hby at_263 264 rfl (v := (1 : Int32)) rfl ?_
            refine o_goto X17 hx hby at_264 268 rfl ?_
            exact k
          exact ⟨(1 : Int32), (if_pos hc260_26).symm, go66⟩
        · have go67 : Go p e below A0 (T17.setTop (mkF m 268 #[.val (.long q0), .second, .val (.int p1), .val (.int p2), .val (.int p3), .val (.ref b1), .val (.int v9), .val (.int v10), .val (.int v11), .val (.int v12), .val (.int v13), .val (.int v14), .val (.ref b12), .val (.long v19), .second, .val (.int v22), .unset, .unset, .unset, .unset, .unset, .unset, .unset, .unset, .unset, .unset, .unset, .unset, .unset, .unset, .unset, .unset, .unset, .unset] [(.int (0 : Int32))])) := by
            intro t k
            refine go65 t ?_
            refine o_icmpY X17 hx hby at_260 267 rfl (feq hc260_26).2 ?_
            refine o_iconst X17 hx hby at_267 268 rfl (v := (0 : Int32)) rfl ?_
            exact k
          exact ⟨(0 : Int32), (if_neg hc260_26).symm, go67⟩
      rw [hv23] at go68
      exact ⟨(if (own_at (nar .byte v2) (nar .byte v4) (nar .byte v6) (nar .byte v8) v9) = (45 : Int32) then (1 : Int32) else (0 : Int32)), (if_neg hc250_24).symm, go68⟩
  have go70 : Go p e below A0 (T17.setTop (mkF m 270 #[.val (.long q0), .second, .val (.int p1), .val (.int p2), .val (.int p3), .val (.ref b1), .val (.int v9), .val (.int v10), .val (.int v11), .val (.int v12), .val (.int v13), .val (.int v14), .val (.ref b12), .val (.long v19), .second, .val (.int v22), .val (.int v24), .unset, .unset, .unset, .unset, .unset, .unset, .unset, .unset, .unset, .unset, .unset, .unset, .unset, .unset, .unset, .unset, .unset] [])) := by
    intro t k
    refine go69 t ?_
    refine o_istore X17 hx hby at_268 270 rfl (l' := #[.val (.long q0), .second, .val (.int p1), .val (.int p2), .val (.int p3), .val (.ref b1), .val (.int v9), .val (.int v10), .val (.int v11), .val (.int v12), .val (.int v13), .val (.int v14), .val (.ref b12), .val (.long v19), .second, .val (.int v22), .val (.int v24), .unset, .unset, .unset, .unset, .unset, .unset, .unset, .unset, .unset, .unset, .unset, .unset, .unset, .unset, .unset, .unset, .unset]) rfl ?_
    exact k
  have go71 : Go p e below A0 (T17.setTop (mkF m 272 #[.val (.long q0), .second, .val (.int p1), .val (.int p2), .val (.int p3), .val (.ref b1), .val (.int v9), .val (.int v10), .val (.int v11), .val (.int v12), .val (.int v13), .val (.int v14), .val (.ref b12), .val (.long v19), .second, .val (.int v22), .val (.int v24), .unset, .unset, .unset, .unset, .unset, .unset, .unset, .unset, .unset, .unset, .unset, .unset, .unset, .unset, .unset, .unset, .unset] [(.int v22)])) := by
    intro t k
    refine go70 t ?_
    refine o_iload X17 hx hby at_270 272 rfl rfl ?_
    exact k
  obtain ⟨v25, hv25, go74⟩ : ∃ (v25 : Int32), v25 = (if v22 = (0 : Int32) then v9 else (v9 + (1 : Int32))) ∧ Go p e below A0 (T17.setTop (mkF m 284 #[.val (.long q0), .second, .val (.int p1), .val (.int p2), .val (.int p3), .val (.ref b1), .val (.int v9), .val (.int v10), .val (.int v11), .val (.int v12), .val (.int v13), .val (.int v14), .val (.ref b12), .val (.long v19), .second, .val (.int v22), .val (.int v24), .unset, .unset, .unset, .unset, .unset, .unset, .unset, .unset, .unset, .unset, .unset, .unset, .unset, .unset, .unset, .unset, .unset] [(.int v25)])) := by
    by_cases hc272_27 : v22 = (0 : Int32)
    · have go72 : Go p e below A0 (T17.setTop (mkF m 284 #[.val (.long q0), .second, .val (.int p1), .val (.int p2), .val (.int p3), .val (.ref b1), .val (.int v9), .val (.int v10), .val (.int v11), .val (.int v12), .val (.int v13), .val (.int v14), .val (.ref b12), .val (.long v19), .second, .val (.int v22), .val (.int v24), .unset, .unset, .unset, .unset, .unset, .unset, .unset, .unset, .unset, .unset, .unset, .unset, .unset, .unset, .unset, .unset, .unset] [(.int v9)])) := by
        intro t k
        refine go71 t ?_
        refine o_ifY X17 hx hby at_272 282 rfl (teq hc272_27).1 ?_
        refine o_iload X17 hx hby at_282 284 rfl rfl ?_
        exact k
      exact ⟨v9, (if_pos hc272_27).symm, go72⟩
    · have go73 : Go p e below A0 (T17.setTop (mkF m 284 #[.val (.long q0), .second, .val (.int p1), .val (.int p2), .val (.int p3), .val (.ref b1), .val (.int v9), .val (.int v10), .val (.int v11), .val (.int v12), .val (.int v13), .val (.int v14), .val (.ref b12), .val (.long v19), .second, .val (.int v22), .val (.int v24), .unset, .unset, .unset, .unset, .unset, .unset, .unset, .unset, .unset, .unset, .unset, .unset, .unset, .unset, .unset, .unset, .unset] [(.int (v9 + (1 : Int32)))])) := by
        intro t k
        refine go71 t ?_
        refine o_ifN X17 hx hby at_272 275 rfl (feq hc272_27).1 ?_
        refine o_iload X17 hx hby at_275 277 rfl rfl ?_
        refine o_iconst X17 hx hby at_277 278 rfl (v := (1 : Int32)) rfl ?_
        refine o_iadd X17 hx hby at_278 279 rfl ?_
        refine o_goto X17 hx hby at_279 284 rfl ?_
        exact k
      exact ⟨(v9 + (1 : Int32)), (if_neg hc272_27).symm, go73⟩
  have go75 : Go p e below A0 (T17.setTop (mkF m 286 #[.val (.long q0), .second, .val (.int p1), .val (.int p2), .val (.int p3), .val (.ref b1), .val (.int v9), .val (.int v10), .val (.int v11), .val (.int v12), .val (.int v13), .val (.int v14), .val (.ref b12), .val (.long v19), .second, .val (.int v22), .val (.int v24), .val (.int v25), .unset, .unset, .unset, .unset, .unset, .unset, .unset, .unset, .unset, .unset, .unset, .unset, .unset, .unset, .unset, .unset] [])) := by
    intro t k
    refine go74 t ?_
    refine o_istore X17 hx hby at_284 286 rfl (l' := #[.val (.long q0), .second, .val (.int p1), .val (.int p2), .val (.int p3), .val (.ref b1), .val (.int v9), .val (.int v10), .val (.int v11), .val (.int v12), .val (.int v13), .val (.int v14), .val (.ref b12), .val (.long v19), .second, .val (.int v22), .val (.int v24), .val (.int v25), .unset, .unset, .unset, .unset, .unset, .unset, .unset, .unset, .unset, .unset, .unset, .unset, .unset, .unset, .unset, .unset]) rfl ?_
    exact k
  have go76 : Go p e below A0 (T17.setTop (mkF m 293 #[.val (.long q0), .second, .val (.int p1), .val (.int p2), .val (.int p3), .val (.ref b1), .val (.int v9), .val (.int v10), .val (.int v11), .val (.int v12), .val (.int v13), .val (.int v14), .val (.ref b12), .val (.long v19), .second, .val (.int v22), .val (.int v24), .val (.int v25), .unset, .unset, .unset, .unset, .unset, .unset, .unset, .unset, .unset, .unset, .unset, .unset, .unset, .unset, .unset, .unset] [(.int v10), (.int v25), (.int (0 : Int32)), (.ref b1)])) := by
    intro t k
    refine go75 t ?_
    refine o_aload X17 hx hby at_286 288 rfl rfl rfl ?_
    refine o_iconst X17 hx hby at_288 289 rfl (v := (0 : Int32)) rfl ?_
    refine o_iload X17 hx hby at_289 291 rfl rfl ?_
    refine o_iload X17 hx hby at_291 293 rfl rfl ?_
    exact k
  obtain ⟨_, _, ⟨T28, L28, k28, n28⟩, -, X28, ⟨Lc28, hQ28, l28, y28, z28⟩, st28⟩ := Jvm.LawKit.callS X17 hx (y := (⟨"com/example/amortine/amortine/cli/DigitsReadPinLaw", "digitAt", "([BIII)I"⟩ : MethodName)) hown (mvT hZ (hw _ (List.mem_of_getElem? (i := 8) rfl))) (mvT hZ (hw _ (List.mem_of_getElem? (i := 9) rfl))) (mvT hZ (hw _ (List.mem_of_getElem? (i := 4) rfl))) (mvT hZ (hw _ (List.mem_of_getElem? (i := 10) rfl))) (by decide) (backOf (W := 0) (rm2 l Z aw hw [] b1 (0 : Int32) v25 v10 k1 ((nar .byte v2)) ((nar .byte v4)) ((nar .byte v6)) ((nar .byte v8)) h17 n0 Zp17 (f14) (by decide)) hZ (hw _ (List.mem_of_getElem? (i := 10) rfl)) (hw _ (List.mem_of_getElem? (i := 4) rfl)) (by decide) (by decide)) (g := (mkF m 293 #[.val (.long q0), .second, .val (.int p1), .val (.int p2), .val (.int p3), .val (.ref b1), .val (.int v9), .val (.int v10), .val (.int v11), .val (.int v12), .val (.int v13), .val (.int v14), .val (.ref b12), .val (.long v19), .second, .val (.int v22), .val (.int v24), .val (.int v25), .unset, .unset, .unset, .unset, .unset, .unset, .unset, .unset, .unset, .unset, .unset, .unset, .unset, .unset, .unset, .unset] [(.int v10), (.int v25), (.int (0 : Int32)), (.ref b1)])) rfl (by rw [hml]; rfl) (argsL := [(.ref b1), (.int (0 : Int32)), (.int v25), (.int v10)]) (rest := []) (lenOf pd_3 rfl) rfl (by show 2 * 0 + _ ≤ _; exact Nat.le_of_eq rfl) (hb hby at_293) (fun _ _ => ⟨rfl, e17, (by decide : 2 + 0 ≤ _), (by decide : 8 + 0 ≤ _)⟩)
  dsimp only [Pt.U, Pt.locs, Pt.cells, Pt.slots] at X28 l28 y28 z28 st28 hQ28
  obtain rfl : k28 = 2 := y28
  obtain rfl : n28 = 8 := z28
  obtain ⟨rfl, N28q, e28⟩ := hQ28
  have N28 : Fr n0 L28 := by rw [l28]; exact Fr.app N17 N28q
  have go77 : Go p e below A0 (T28.setTop (mkF m 296 #[.val (.long q0), .second, .val (.int p1), .val (.int p2), .val (.int p3), .val (.ref b1), .val (.int v9), .val (.int v10), .val (.int v11), .val (.int v12), .val (.int v13), .val (.int v14), .val (.ref b12), .val (.long v19), .second, .val (.int v22), .val (.int v24), .val (.int v25), .unset, .unset, .unset, .unset, .unset, .unset, .unset, .unset, .unset, .unset, .unset, .unset, .unset, .unset, .unset, .unset] [(.int (Fdig (0 : Int32) v25 v10 (nar .byte v2) (nar .byte v4) (nar .byte v6) (nar .byte v8)))])) := by
    intro t k
    refine go76 t ?_
    refine st28 _ ?_
    show Steps p.tables e below (T28.setTop (mkF m 296 #[.val (.long q0), .second, .val (.int p1), .val (.int p2), .val (.int p3), .val (.ref b1), .val (.int v9), .val (.int v10), .val (.int v11), .val (.int v12), .val (.int v13), .val (.int v14), .val (.ref b12), .val (.long v19), .second, .val (.int v22), .val (.int v24), .val (.int v25), .unset, .unset, .unset, .unset, .unset, .unset, .unset, .unset, .unset, .unset, .unset, .unset, .unset, .unset, .unset, .unset] [(.int (Fdig (0 : Int32) v25 v10 (nar .byte v2) (nar .byte v4) (nar .byte v6) (nar .byte v8)))])) _
    exact k
  obtain ⟨v26, hv26, go78⟩ : ∃ v26 : Int32, v26 = (Fdig (0 : Int32) v25 v10 (nar .byte v2) (nar .byte v4) (nar .byte v6) (nar .byte v8)) ∧ Go p e below A0 (T28.setTop (mkF m 296 #[.val (.long q0), .second, .val (.int p1), .val (.int p2), .val (.int p3), .val (.ref b1), .val (.int v9), .val (.int v10), .val (.int v11), .val (.int v12), .val (.int v13), .val (.int v14), .val (.ref b12), .val (.long v19), .second, .val (.int v22), .val (.int v24), .val (.int v25), .unset, .unset, .unset, .unset, .unset, .unset, .unset, .unset, .unset, .unset, .unset, .unset, .unset, .unset, .unset, .unset] [(.int v26)])) := ⟨_, rfl, go77⟩
  have go79 : Go p e below A0 (T28.setTop (mkF m 303 #[.val (.long q0), .second, .val (.int p1), .val (.int p2), .val (.int p3), .val (.ref b1), .val (.int v9), .val (.int v10), .val (.int v11), .val (.int v12), .val (.int v13), .val (.int v14), .val (.ref b12), .val (.long v19), .second, .val (.int v22), .val (.int v24), .val (.int v25), .unset, .unset, .unset, .unset, .unset, .unset, .unset, .unset, .unset, .unset, .unset, .unset, .unset, .unset, .unset, .unset] [(.int v10), (.int v25), (.int (1 : Int32)), (.ref b1), (.int v26)])) := by
    intro t k
    refine go78 t ?_
    refine o_aload X28 hx hby at_296 298 rfl rfl rfl ?_
    refine o_iconst X28 hx hby at_298 299 rfl (v := (1 : Int32)) rfl ?_
    refine o_iload X28 hx hby at_299 301 rfl rfl ?_
    refine o_iload X28 hx hby at_301 303 rfl rfl ?_
    exact k
  obtain ⟨_, _, ⟨T29, L29, k29, n29⟩, -, X29, ⟨Lc29, hQ29, l29, y29, z29⟩, st29⟩ := Jvm.LawKit.callS X28 hx (y := (⟨"com/example/amortine/amortine/cli/DigitsReadPinLaw", "digitAt", "([BIII)I"⟩ : MethodName)) hown (mvT hZ (hw _ (List.mem_of_getElem? (i := 8) rfl))) (mvT hZ (hw _ (List.mem_of_getElem? (i := 9) rfl))) (mvT hZ (hw _ (List.mem_of_getElem? (i := 4) rfl))) (mvT hZ (hw _ (List.mem_of_getElem? (i := 10) rfl))) (by decide) (backOf (W := 1) (rm2 l Z aw hw [] b1 (1 : Int32) v25 v10 k1 ((nar .byte v2)) ((nar .byte v4)) ((nar .byte v6)) ((nar .byte v8)) h17 n0 Zp17 (f14) (by decide)) hZ (hw _ (List.mem_of_getElem? (i := 10) rfl)) (hw _ (List.mem_of_getElem? (i := 4) rfl)) (by decide) (by decide)) (g := (mkF m 303 #[.val (.long q0), .second, .val (.int p1), .val (.int p2), .val (.int p3), .val (.ref b1), .val (.int v9), .val (.int v10), .val (.int v11), .val (.int v12), .val (.int v13), .val (.int v14), .val (.ref b12), .val (.long v19), .second, .val (.int v22), .val (.int v24), .val (.int v25), .unset, .unset, .unset, .unset, .unset, .unset, .unset, .unset, .unset, .unset, .unset, .unset, .unset, .unset, .unset, .unset] [(.int v10), (.int v25), (.int (1 : Int32)), (.ref b1), (.int v26)])) rfl (by rw [hml]; rfl) (argsL := [(.ref b1), (.int (1 : Int32)), (.int v25), (.int v10)]) (rest := [(.int v26)]) (lenOf pd_3 rfl) rfl (by show 2 * 0 + _ ≤ _; exact Nat.le_of_eq rfl) (hb hby at_303) (fun _ _ => ⟨rfl, e28, (by decide : 2 + 0 ≤ _), (by decide : 8 + 0 ≤ _)⟩)
  dsimp only [Pt.U, Pt.locs, Pt.cells, Pt.slots] at X29 l29 y29 z29 st29 hQ29
  obtain rfl : k29 = 2 := y29
  obtain rfl : n29 = 8 := z29
  obtain ⟨rfl, N29q, e29⟩ := hQ29
  have N29 : Fr n0 L29 := by rw [l29]; exact Fr.app N28 N29q
  have go80 : Go p e below A0 (T29.setTop (mkF m 306 #[.val (.long q0), .second, .val (.int p1), .val (.int p2), .val (.int p3), .val (.ref b1), .val (.int v9), .val (.int v10), .val (.int v11), .val (.int v12), .val (.int v13), .val (.int v14), .val (.ref b12), .val (.long v19), .second, .val (.int v22), .val (.int v24), .val (.int v25), .unset, .unset, .unset, .unset, .unset, .unset, .unset, .unset, .unset, .unset, .unset, .unset, .unset, .unset, .unset, .unset] [(.int (Fdig (1 : Int32) v25 v10 (nar .byte v2) (nar .byte v4) (nar .byte v6) (nar .byte v8))), (.int v26)])) := by
    intro t k
    refine go79 t ?_
    refine st29 _ ?_
    show Steps p.tables e below (T29.setTop (mkF m 306 #[.val (.long q0), .second, .val (.int p1), .val (.int p2), .val (.int p3), .val (.ref b1), .val (.int v9), .val (.int v10), .val (.int v11), .val (.int v12), .val (.int v13), .val (.int v14), .val (.ref b12), .val (.long v19), .second, .val (.int v22), .val (.int v24), .val (.int v25), .unset, .unset, .unset, .unset, .unset, .unset, .unset, .unset, .unset, .unset, .unset, .unset, .unset, .unset, .unset, .unset] [(.int (Fdig (1 : Int32) v25 v10 (nar .byte v2) (nar .byte v4) (nar .byte v6) (nar .byte v8))), (.int v26)])) _
    exact k
  obtain ⟨v27, hv27, go81⟩ : ∃ v27 : Int32, v27 = (Fdig (1 : Int32) v25 v10 (nar .byte v2) (nar .byte v4) (nar .byte v6) (nar .byte v8)) ∧ Go p e below A0 (T29.setTop (mkF m 306 #[.val (.long q0), .second, .val (.int p1), .val (.int p2), .val (.int p3), .val (.ref b1), .val (.int v9), .val (.int v10), .val (.int v11), .val (.int v12), .val (.int v13), .val (.int v14), .val (.ref b12), .val (.long v19), .second, .val (.int v22), .val (.int v24), .val (.int v25), .unset, .unset, .unset, .unset, .unset, .unset, .unset, .unset, .unset, .unset, .unset, .unset, .unset, .unset, .unset, .unset] [(.int v27), (.int v26)])) := ⟨_, rfl, go80⟩
  have go82 : Go p e below A0 (T29.setTop (mkF m 314 #[.val (.long q0), .second, .val (.int p1), .val (.int p2), .val (.int p3), .val (.ref b1), .val (.int v9), .val (.int v10), .val (.int v11), .val (.int v12), .val (.int v13), .val (.int v14), .val (.ref b12), .val (.long v19), .second, .val (.int v22), .val (.int v24), .val (.int v25), .unset, .unset, .unset, .unset, .unset, .unset, .unset, .unset, .unset, .unset, .unset, .unset, .unset, .unset, .unset, .unset] [(.int v10), (.int v25), (.int (2 : Int32)), (.ref b1), (.int (v26 + v27))])) := by
    intro t k
    refine go81 t ?_
    refine o_iadd X29 hx hby at_306 307 rfl ?_
    refine o_aload X29 hx hby at_307 309 rfl rfl rfl ?_
    refine o_iconst X29 hx hby at_309 310 rfl (v := (2 : Int32)) rfl ?_
    refine o_iload X29 hx hby at_310 312 rfl rfl ?_
    refine o_iload X29 hx hby at_312 314 rfl rfl ?_
    exact k
  obtain ⟨_, _, ⟨T30, L30, k30, n30⟩, -, X30, ⟨Lc30, hQ30, l30, y30, z30⟩, st30⟩ := Jvm.LawKit.callS X29 hx (y := (⟨"com/example/amortine/amortine/cli/DigitsReadPinLaw", "digitAt", "([BIII)I"⟩ : MethodName)) hown (mvT hZ (hw _ (List.mem_of_getElem? (i := 8) rfl))) (mvT hZ (hw _ (List.mem_of_getElem? (i := 9) rfl))) (mvT hZ (hw _ (List.mem_of_getElem? (i := 4) rfl))) (mvT hZ (hw _ (List.mem_of_getElem? (i := 10) rfl))) (by decide) (backOf (W := 1) (rm2 l Z aw hw [] b1 (2 : Int32) v25 v10 k1 ((nar .byte v2)) ((nar .byte v4)) ((nar .byte v6)) ((nar .byte v8)) h17 n0 Zp17 (f14) (by decide)) hZ (hw _ (List.mem_of_getElem? (i := 10) rfl)) (hw _ (List.mem_of_getElem? (i := 4) rfl)) (by decide) (by decide)) (g := (mkF m 314 #[.val (.long q0), .second, .val (.int p1), .val (.int p2), .val (.int p3), .val (.ref b1), .val (.int v9), .val (.int v10), .val (.int v11), .val (.int v12), .val (.int v13), .val (.int v14), .val (.ref b12), .val (.long v19), .second, .val (.int v22), .val (.int v24), .val (.int v25), .unset, .unset, .unset, .unset, .unset, .unset, .unset, .unset, .unset, .unset, .unset, .unset, .unset, .unset, .unset, .unset] [(.int v10), (.int v25), (.int (2 : Int32)), (.ref b1), (.int (v26 + v27))])) rfl (by rw [hml]; rfl) (argsL := [(.ref b1), (.int (2 : Int32)), (.int v25), (.int v10)]) (rest := [(.int (v26 + v27))]) (lenOf pd_3 rfl) rfl (by show 2 * 0 + _ ≤ _; exact Nat.le_of_eq rfl) (hb hby at_314) (fun _ _ => ⟨rfl, e29, (by decide : 2 + 0 ≤ _), (by decide : 8 + 0 ≤ _)⟩)
  dsimp only [Pt.U, Pt.locs, Pt.cells, Pt.slots] at X30 l30 y30 z30 st30 hQ30
  obtain rfl : k30 = 2 := y30
  obtain rfl : n30 = 8 := z30
  obtain ⟨rfl, N30q, e30⟩ := hQ30
  have N30 : Fr n0 L30 := by rw [l30]; exact Fr.app N29 N30q
  have go83 : Go p e below A0 (T30.setTop (mkF m 317 #[.val (.long q0), .second, .val (.int p1), .val (.int p2), .val (.int p3), .val (.ref b1), .val (.int v9), .val (.int v10), .val (.int v11), .val (.int v12), .val (.int v13), .val (.int v14), .val (.ref b12), .val (.long v19), .second, .val (.int v22), .val (.int v24), .val (.int v25), .unset, .unset, .unset, .unset, .unset, .unset, .unset, .unset, .unset, .unset, .unset, .unset, .unset, .unset, .unset, .unset] [(.int (Fdig (2 : Int32) v25 v10 (nar .byte v2) (nar .byte v4) (nar .byte v6) (nar .byte v8))), (.int (v26 + v27))])) := by
    intro t k
    refine go82 t ?_
    refine st30 _ ?_
    show Steps p.tables e below (T30.setTop (mkF m 317 #[.val (.long q0), .second, .val (.int p1), .val (.int p2), .val (.int p3), .val (.ref b1), .val (.int v9), .val (.int v10), .val (.int v11), .val (.int v12), .val (.int v13), .val (.int v14), .val (.ref b12), .val (.long v19), .second, .val (.int v22), .val (.int v24), .val (.int v25), .unset, .unset, .unset, .unset, .unset, .unset, .unset, .unset, .unset, .unset, .unset, .unset, .unset, .unset, .unset, .unset] [(.int (Fdig (2 : Int32) v25 v10 (nar .byte v2) (nar .byte v4) (nar .byte v6) (nar .byte v8))), (.int (v26 + v27))])) _
    exact k
  obtain ⟨v28, hv28, go84⟩ : ∃ v28 : Int32, v28 = (Fdig (2 : Int32) v25 v10 (nar .byte v2) (nar .byte v4) (nar .byte v6) (nar .byte v8)) ∧ Go p e below A0 (T30.setTop (mkF m 317 #[.val (.long q0), .second, .val (.int p1), .val (.int p2), .val (.int p3), .val (.ref b1), .val (.int v9), .val (.int v10), .val (.int v11), .val (.int v12), .val (.int v13), .val (.int v14), .val (.ref b12), .val (.long v19), .second, .val (.int v22), .val (.int v24), .val (.int v25), .unset, .unset, .unset, .unset, .unset, .unset, .unset, .unset, .unset, .unset, .unset, .unset, .unset, .unset, .unset, .unset] [(.int v28), (.int (v26 + v27))])) := ⟨_, rfl, go83⟩
  have go85 : Go p e below A0 (T30.setTop (mkF m 325 #[.val (.long q0), .second, .val (.int p1), .val (.int p2), .val (.int p3), .val (.ref b1), .val (.int v9), .val (.int v10), .val (.int v11), .val (.int v12), .val (.int v13), .val (.int v14), .val (.ref b12), .val (.long v19), .second, .val (.int v22), .val (.int v24), .val (.int v25), .unset, .unset, .unset, .unset, .unset, .unset, .unset, .unset, .unset, .unset, .unset, .unset, .unset, .unset, .unset, .unset] [(.int v10), (.int v25), (.int (3 : Int32)), (.ref b1), (.int ((v26 + v27) + v28))])) := by
    intro t k
    refine go84 t ?_
    refine o_iadd X30 hx hby at_317 318 rfl ?_
    refine o_aload X30 hx hby at_318 320 rfl rfl rfl ?_
    refine o_iconst X30 hx hby at_320 321 rfl (v := (3 : Int32)) rfl ?_
    refine o_iload X30 hx hby at_321 323 rfl rfl ?_
    refine o_iload X30 hx hby at_323 325 rfl rfl ?_
    exact k
  obtain ⟨_, _, ⟨T31, L31, k31, n31⟩, -, X31, ⟨Lc31, hQ31, l31, y31, z31⟩, st31⟩ := Jvm.LawKit.callS X30 hx (y := (⟨"com/example/amortine/amortine/cli/DigitsReadPinLaw", "digitAt", "([BIII)I"⟩ : MethodName)) hown (mvT hZ (hw _ (List.mem_of_getElem? (i := 8) rfl))) (mvT hZ (hw _ (List.mem_of_getElem? (i := 9) rfl))) (mvT hZ (hw _ (List.mem_of_getElem? (i := 4) rfl))) (mvT hZ (hw _ (List.mem_of_getElem? (i := 10) rfl))) (by decide) (backOf (W := 1) (rm2 l Z aw hw [] b1 (3 : Int32) v25 v10 k1 ((nar .byte v2)) ((nar .byte v4)) ((nar .byte v6)) ((nar .byte v8)) h17 n0 Zp17 (f14) (by decide)) hZ (hw _ (List.mem_of_getElem? (i := 10) rfl)) (hw _ (List.mem_of_getElem? (i := 4) rfl)) (by decide) (by decide)) (g := (mkF m 325 #[.val (.long q0), .second, .val (.int p1), .val (.int p2), .val (.int p3), .val (.ref b1), .val (.int v9), .val (.int v10), .val (.int v11), .val (.int v12), .val (.int v13), .val (.int v14), .val (.ref b12), .val (.long v19), .second, .val (.int v22), .val (.int v24), .val (.int v25), .unset, .unset, .unset, .unset, .unset, .unset, .unset, .unset, .unset, .unset, .unset, .unset, .unset, .unset, .unset, .unset] [(.int v10), (.int v25), (.int (3 : Int32)), (.ref b1), (.int ((v26 + v27) + v28))])) rfl (by rw [hml]; rfl) (argsL := [(.ref b1), (.int (3 : Int32)), (.int v25), (.int v10)]) (rest := [(.int ((v26 + v27) + v28))]) (lenOf pd_3 rfl) rfl (by show 2 * 0 + _ ≤ _; exact Nat.le_of_eq rfl) (hb hby at_325) (fun _ _ => ⟨rfl, e30, (by decide : 2 + 0 ≤ _), (by decide : 8 + 0 ≤ _)⟩)
  dsimp only [Pt.U, Pt.locs, Pt.cells, Pt.slots] at X31 l31 y31 z31 st31 hQ31
  obtain rfl : k31 = 2 := y31
  obtain rfl : n31 = 8 := z31
  obtain ⟨rfl, N31q, e31⟩ := hQ31
  have N31 : Fr n0 L31 := by rw [l31]; exact Fr.app N30 N31q
  have go86 : Go p e below A0 (T31.setTop (mkF m 328 #[.val (.long q0), .second, .val (.int p1), .val (.int p2), .val (.int p3), .val (.ref b1), .val (.int v9), .val (.int v10), .val (.int v11), .val (.int v12), .val (.int v13), .val (.int v14), .val (.ref b12), .val (.long v19), .second, .val (.int v22), .val (.int v24), .val (.int v25), .unset, .unset, .unset, .unset, .unset, .unset, .unset, .unset, .unset, .unset, .unset, .unset, .unset, .unset, .unset, .unset] [(.int (Fdig (3 : Int32) v25 v10 (nar .byte v2) (nar .byte v4) (nar .byte v6) (nar .byte v8))), (.int ((v26 + v27) + v28))])) := by
    intro t k
    refine go85 t ?_
    refine st31 _ ?_
    show Steps p.tables e below (T31.setTop (mkF m 328 #[.val (.long q0), .second, .val (.int p1), .val (.int p2), .val (.int p3), .val (.ref b1), .val (.int v9), .val (.int v10), .val (.int v11), .val (.int v12), .val (.int v13), .val (.int v14), .val (.ref b12), .val (.long v19), .second, .val (.int v22), .val (.int v24), .val (.int v25), .unset, .unset, .unset, .unset, .unset, .unset, .unset, .unset, .unset, .unset, .unset, .unset, .unset, .unset, .unset, .unset] [(.int (Fdig (3 : Int32) v25 v10 (nar .byte v2) (nar .byte v4) (nar .byte v6) (nar .byte v8))), (.int ((v26 + v27) + v28))])) _
    exact k
  obtain ⟨v29, hv29, go87⟩ : ∃ v29 : Int32, v29 = (Fdig (3 : Int32) v25 v10 (nar .byte v2) (nar .byte v4) (nar .byte v6) (nar .byte v8)) ∧ Go p e below A0 (T31.setTop (mkF m 328 #[.val (.long q0), .second, .val (.int p1), .val (.int p2), .val (.int p3), .val (.ref b1), .val (.int v9), .val (.int v10), .val (.int v11), .val (.int v12), .val (.int v13), .val (.int v14), .val (.ref b12), .val (.long v19), .second, .val (.int v22), .val (.int v24), .val (.int v25), .unset, .unset, .unset, .unset, .unset, .unset, .unset, .unset, .unset, .unset, .unset, .unset, .unset, .unset, .unset, .unset] [(.int v29), (.int ((v26 + v27) + v28))])) := ⟨_, rfl, go86⟩
  have go88 : Go p e below A0 (T31.setTop (mkF m 331 #[.val (.long q0), .second, .val (.int p1), .val (.int p2), .val (.int p3), .val (.ref b1), .val (.int v9), .val (.int v10), .val (.int v11), .val (.int v12), .val (.int v13), .val (.int v14), .val (.ref b12), .val (.long v19), .second, .val (.int v22), .val (.int v24), .val (.int v25), .val (.int (((v26 + v27) + v28) + v29)), .unset, .unset, .unset, .unset, .unset, .unset, .unset, .unset, .unset, .unset, .unset, .unset, .unset, .unset, .unset] [])) := by
    intro t k
    refine go87 t ?_
    refine o_iadd X31 hx hby at_328 329 rfl ?_
    refine o_istore X31 hx hby at_329 331 rfl (l' := #[.val (.long q0), .second, .val (.int p1), .val (.int p2), .val (.int p3), .val (.ref b1), .val (.int v9), .val (.int v10), .val (.int v11), .val (.int v12), .val (.int v13), .val (.int v14), .val (.ref b12), .val (.long v19), .second, .val (.int v22), .val (.int v24), .val (.int v25), .val (.int (((v26 + v27) + v28) + v29)), .unset, .unset, .unset, .unset, .unset, .unset, .unset, .unset, .unset, .unset, .unset, .unset, .unset, .unset, .unset]) rfl ?_
    exact k
  obtain ⟨v30, hv30, go89⟩ : ∃ v30 : Int32, v30 = (((v26 + v27) + v28) + v29) ∧ Go p e below A0 (T31.setTop (mkF m 331 #[.val (.long q0), .second, .val (.int p1), .val (.int p2), .val (.int p3), .val (.ref b1), .val (.int v9), .val (.int v10), .val (.int v11), .val (.int v12), .val (.int v13), .val (.int v14), .val (.ref b12), .val (.long v19), .second, .val (.int v22), .val (.int v24), .val (.int v25), .val (.int v30), .unset, .unset, .unset, .unset, .unset, .unset, .unset, .unset, .unset, .unset, .unset, .unset, .unset, .unset, .unset] [])) := ⟨_, rfl, go88⟩
  have go90 : Go p e below A0 (T31.setTop (mkF m 338 #[.val (.long q0), .second, .val (.int p1), .val (.int p2), .val (.int p3), .val (.ref b1), .val (.int v9), .val (.int v10), .val (.int v11), .val (.int v12), .val (.int v13), .val (.int v14), .val (.ref b12), .val (.long v19), .second, .val (.int v22), .val (.int v24), .val (.int v25), .val (.int v30), .unset, .unset, .unset, .unset, .unset, .unset, .unset, .unset, .unset, .unset, .unset, .unset, .unset, .unset, .unset] [(.int v10), (.int v25), (.int (0 : Int32)), (.ref b1)])) := by
    intro t k
    refine go89 t ?_
    refine o_aload X31 hx hby at_331 333 rfl rfl rfl ?_
    refine o_iconst X31 hx hby at_333 334 rfl (v := (0 : Int32)) rfl ?_
    refine o_iload X31 hx hby at_334 336 rfl rfl ?_
    refine o_iload X31 hx hby at_336 338 rfl rfl ?_
    exact k
  obtain ⟨_, _, ⟨T32, L32, k32, n32⟩, -, X32, ⟨Lc32, hQ32, l32, y32, z32⟩, st32⟩ := Jvm.LawKit.callS X31 hx (y := (⟨"com/example/amortine/amortine/cli/DigitsReadPinLaw", "dotAt", "([BIII)I"⟩ : MethodName)) hown (mvT hZ (hw _ (List.mem_of_getElem? (i := 14) rfl))) (mvT hZ (hw _ (List.mem_of_getElem? (i := 15) rfl))) (mvT hZ (hw _ (List.mem_of_getElem? (i := 4) rfl))) (mvT hZ (hw _ (List.mem_of_getElem? (i := 16) rfl))) (by decide) (backOf (W := 0) (rm4 l Z aw hw [] b1 (0 : Int32) v25 v10 k1 ((nar .byte v2)) ((nar .byte v4)) ((nar .byte v6)) ((nar .byte v8)) h17 n0 Zp17 (f14) (by decide)) hZ (hw _ (List.mem_of_getElem? (i := 16) rfl)) (hw _ (List.mem_of_getElem? (i := 4) rfl)) (by decide) (by decide)) (g := (mkF m 338 #[.val (.long q0), .second, .val (.int p1), .val (.int p2), .val (.int p3), .val (.ref b1), .val (.int v9), .val (.int v10), .val (.int v11), .val (.int v12), .val (.int v13), .val (.int v14), .val (.ref b12), .val (.long v19), .second, .val (.int v22), .val (.int v24), .val (.int v25), .val (.int v30), .unset, .unset, .unset, .unset, .unset, .unset, .unset, .unset, .unset, .unset, .unset, .unset, .unset, .unset, .unset] [(.int v10), (.int v25), (.int (0 : Int32)), (.ref b1)])) rfl (by rw [hml]; rfl) (argsL := [(.ref b1), (.int (0 : Int32)), (.int v25), (.int v10)]) (rest := []) (lenOf pd_3 rfl) rfl (by show 2 * 0 + _ ≤ _; exact Nat.le_of_eq rfl) (hb hby at_338) (fun _ _ => ⟨rfl, e31, (by decide : 2 + 0 ≤ _), (by decide : 8 + 0 ≤ _)⟩)
  dsimp only [Pt.U, Pt.locs, Pt.cells, Pt.slots] at X32 l32 y32 z32 st32 hQ32
  obtain rfl : k32 = 2 := y32
  obtain rfl : n32 = 8 := z32
  obtain ⟨rfl, N32q, e32⟩ := hQ32
  have N32 : Fr n0 L32 := by rw [l32]; exact Fr.app N31 N32q
  have go91 : Go p e below A0 (T32.setTop (mkF m 341 #[.val (.long q0), .second, .val (.int p1), .val (.int p2), .val (.int p3), .val (.ref b1), .val (.int v9), .val (.int v10), .val (.int v11), .val (.int v12), .val (.int v13), .val (.int v14), .val (.ref b12), .val (.long v19), .second, .val (.int v22), .val (.int v24), .val (.int v25), .val (.int v30), .unset, .unset, .unset, .unset, .unset, .unset, .unset, .unset, .unset, .unset, .unset, .unset, .unset, .unset, .unset] [(.int (Fdot (0 : Int32) v25 v10 (nar .byte v2) (nar .byte v4) (nar .byte v6) (nar .byte v8)))])) := by
    intro t k
    refine go90 t ?_
    refine st32 _ ?_
    show Steps p.tables e below (T32.setTop (mkF m 341 #[.val (.long q0), .second, .val (.int p1), .val (.int p2), .val (.int p3), .val (.ref b1), .val (.int v9), .val (.int v10), .val (.int v11), .val (.int v12), .val (.int v13), .val (.int v14), .val (.ref b12), .val (.long v19), .second, .val (.int v22), .val (.int v24), .val (.int v25), .val (.int v30), .unset, .unset, .unset, .unset, .unset, .unset, .unset, .unset, .unset, .unset, .unset, .unset, .unset, .unset, .unset] [(.int (Fdot (0 : Int32) v25 v10 (nar .byte v2) (nar .byte v4) (nar .byte v6) (nar .byte v8)))])) _
    exact k
  obtain ⟨v31, hv31, go92⟩ : ∃ v31 : Int32, v31 = (Fdot (0 : Int32) v25 v10 (nar .byte v2) (nar .byte v4) (nar .byte v6) (nar .byte v8)) ∧ Go p e below A0 (T32.setTop (mkF m 341 #[.val (.long q0), .second, .val (.int p1), .val (.int p2), .val (.int p3), .val (.ref b1), .val (.int v9), .val (.int v10), .val (.int v11), .val (.int v12), .val (.int v13), .val (.int v14), .val (.ref b12), .val (.long v19), .second, .val (.int v22), .val (.int v24), .val (.int v25), .val (.int v30), .unset, .unset, .unset, .unset, .unset, .unset, .unset, .unset, .unset, .unset, .unset, .unset, .unset, .unset, .unset] [(.int v31)])) := ⟨_, rfl, go91⟩
  have go93 : Go p e below A0 (T32.setTop (mkF m 348 #[.val (.long q0), .second, .val (.int p1), .val (.int p2), .val (.int p3), .val (.ref b1), .val (.int v9), .val (.int v10), .val (.int v11), .val (.int v12), .val (.int v13), .val (.int v14), .val (.ref b12), .val (.long v19), .second, .val (.int v22), .val (.int v24), .val (.int v25), .val (.int v30), .unset, .unset, .unset, .unset, .unset, .unset, .unset, .unset, .unset, .unset, .unset, .unset, .unset, .unset, .unset] [(.int v10), (.int v25), (.int (1 : Int32)), (.ref b1), (.int v31)])) := by
    intro t k
    refine go92 t ?_
    refine o_aload X32 hx hby at_341 343 rfl rfl rfl ?_
    refine o_iconst X32 hx hby at_343 344 rfl (v := (1 : Int32)) rfl ?_
    refine o_iload X32 hx hby at_344 346 rfl rfl ?_
    refine o_iload X32 hx hby at_346 348 rfl rfl ?_
    exact k
  obtain ⟨_, _, ⟨T33, L33, k33, n33⟩, -, X33, ⟨Lc33, hQ33, l33, y33, z33⟩, st33⟩ := Jvm.LawKit.callS X32 hx (y := (⟨"com/example/amortine/amortine/cli/DigitsReadPinLaw", "dotAt", "([BIII)I"⟩ : MethodName)) hown (mvT hZ (hw _ (List.mem_of_getElem? (i := 14) rfl))) (mvT hZ (hw _ (List.mem_of_getElem? (i := 15) rfl))) (mvT hZ (hw _ (List.mem_of_getElem? (i := 4) rfl))) (mvT hZ (hw _ (List.mem_of_getElem? (i := 16) rfl))) (by decide) (backOf (W := 1) (rm4 l Z aw hw [] b1 (1 : Int32) v25 v10 k1 ((nar .byte v2)) ((nar .byte v4)) ((nar .byte v6)) ((nar .byte v8)) h17 n0 Zp17 (f14) (by decide)) hZ (hw _ (List.mem_of_getElem? (i := 16) rfl)) (hw _ (List.mem_of_getElem? (i := 4) rfl)) (by decide) (by decide)) (g := (mkF m 348 #[.val (.long q0), .second, .val (.int p1), .val (.int p2), .val (.int p3), .val (.ref b1), .val (.int v9), .val (.int v10), .val (.int v11), .val (.int v12), .val (.int v13), .val (.int v14), .val (.ref b12), .val (.long v19), .second, .val (.int v22), .val (.int v24), .val (.int v25), .val (.int v30), .unset, .unset, .unset, .unset, .unset, .unset, .unset, .unset, .unset, .unset, .unset, .unset, .unset, .unset, .unset] [(.int v10), (.int v25), (.int (1 : Int32)), (.ref b1), (.int v31)])) rfl (by rw [hml]; rfl) (argsL := [(.ref b1), (.int (1 : Int32)), (.int v25), (.int v10)]) (rest := [(.int v31)]) (lenOf pd_3 rfl) rfl (by show 2 * 0 + _ ≤ _; exact Nat.le_of_eq rfl) (hb hby at_348) (fun _ _ => ⟨rfl, e32, (by decide : 2 + 0 ≤ _), (by decide : 8 + 0 ≤ _)⟩)
  dsimp only [Pt.U, Pt.locs, Pt.cells, Pt.slots] at X33 l33 y33 z33 st33 hQ33
  obtain rfl : k33 = 2 := y33
  obtain rfl : n33 = 8 := z33
  obtain ⟨rfl, N33q, e33⟩ := hQ33
  have N33 : Fr n0 L33 := by rw [l33]; exact Fr.app N32 N33q
  have go94 : Go p e below A0 (T33.setTop (mkF m 351 #[.val (.long q0), .second, .val (.int p1), .val (.int p2), .val (.int p3), .val (.ref b1), .val (.int v9), .val (.int v10), .val (.int v11), .val (.int v12), .val (.int v13), .val (.int v14), .val (.ref b12), .val (.long v19), .second, .val (.int v22), .val (.int v24), .val (.int v25), .val (.int v30), .unset, .unset, .unset, .unset, .unset, .unset, .unset, .unset, .unset, .unset, .unset, .unset, .unset, .unset, .unset] [(.int (Fdot (1 : Int32) v25 v10 (nar .byte v2) (nar .byte v4) (nar .byte v6) (nar .byte v8))), (.int v31)])) := by
    intro t k
    refine go93 t ?_
    refine st33 _ ?_
    show Steps p.tables e below (T33.setTop (mkF m 351 #[.val (.long q0), .second, .val (.int p1), .val (.int p2), .val (.int p3), .val (.ref b1), .val (.int v9), .val (.int v10), .val (.int v11), .val (.int v12), .val (.int v13), .val (.int v14), .val (.ref b12), .val (.long v19), .second, .val (.int v22), .val (.int v24), .val (.int v25), .val (.int v30), .unset, .unset, .unset, .unset, .unset, .unset, .unset, .unset, .unset, .unset, .unset, .unset, .unset, .unset, .unset] [(.int (Fdot (1 : Int32) v25 v10 (nar .byte v2) (nar .byte v4) (nar .byte v6) (nar .byte v8))), (.int v31)])) _
    exact k
  obtain ⟨v32, hv32, go95⟩ : ∃ v32 : Int32, v32 = (Fdot (1 : Int32) v25 v10 (nar .byte v2) (nar .byte v4) (nar .byte v6) (nar .byte v8)) ∧ Go p e below A0 (T33.setTop (mkF m 351 #[.val (.long q0), .second, .val (.int p1), .val (.int p2), .val (.int p3), .val (.ref b1), .val (.int v9), .val (.int v10), .val (.int v11), .val (.int v12), .val (.int v13), .val (.int v14), .val (.ref b12), .val (.long v19), .second, .val (.int v22), .val (.int v24), .val (.int v25), .val (.int v30), .unset, .unset, .unset, .unset, .unset, .unset, .unset, .unset, .unset, .unset, .unset, .unset, .unset, .unset, .unset] [(.int v32), (.int v31)])) := ⟨_, rfl, go94⟩
  have go96 : Go p e below A0 (T33.setTop (mkF m 359 #[.val (.long q0), .second, .val (.int p1), .val (.int p2), .val (.int p3), .val (.ref b1), .val (.int v9), .val (.int v10), .val (.int v11), .val (.int v12), .val (.int v13), .val (.int v14), .val (.ref b12), .val (.long v19), .second, .val (.int v22), .val (.int v24), .val (.int v25), .val (.int v30), .unset, .unset, .unset, .unset, .unset, .unset, .unset, .unset, .unset, .unset, .unset, .unset, .unset, .unset, .unset] [(.int v10), (.int v25), (.int (2 : Int32)), (.ref b1), (.int (v31 + v32))])) := by
    intro t k
    refine go95 t ?_
    refine o_iadd X33 hx hby at_351 352 rfl ?_
    refine o_aload X33 hx hby at_352 354 rfl rfl rfl ?_
    refine o_iconst X33 hx hby at_354 355 rfl (v := (2 : Int32)) rfl ?_
    refine o_iload X33 hx hby at_355 357 rfl rfl ?_
    refine o_iload X33 hx hby at_357 359 rfl rfl ?_
    exact k
  obtain ⟨_, _, ⟨T34, L34, k34, n34⟩, -, X34, ⟨Lc34, hQ34, l34, y34, z34⟩, st34⟩ := Jvm.LawKit.callS X33 hx (y := (⟨"com/example/amortine/amortine/cli/DigitsReadPinLaw", "dotAt", "([BIII)I"⟩ : MethodName)) hown (mvT hZ (hw _ (List.mem_of_getElem? (i := 14) rfl))) (mvT hZ (hw _ (List.mem_of_getElem? (i := 15) rfl))) (mvT hZ (hw _ (List.mem_of_getElem? (i := 4) rfl))) (mvT hZ (hw _ (List.mem_of_getElem? (i := 16) rfl))) (by decide) (backOf (W := 1) (rm4 l Z aw hw [] b1 (2 : Int32) v25 v10 k1 ((nar .byte v2)) ((nar .byte v4)) ((nar .byte v6)) ((nar .byte v8)) h17 n0 Zp17 (f14) (by decide)) hZ (hw _ (List.mem_of_getElem? (i := 16) rfl)) (hw _ (List.mem_of_getElem? (i := 4) rfl)) (by decide) (by decide)) (g := (mkF m 359 #[.val (.long q0), .second, .val (.int p1), .val (.int p2), .val (.int p3), .val (.ref b1), .val (.int v9), .val (.int v10), .val (.int v11), .val (.int v12), .val (.int v13), .val (.int v14), .val (.ref b12), .val (.long v19), .second, .val (.int v22), .val (.int v24), .val (.int v25), .val (.int v30), .unset, .unset, .unset, .unset, .unset, .unset, .unset, .unset, .unset, .unset, .unset, .unset, .unset, .unset, .unset] [(.int v10), (.int v25), (.int (2 : Int32)), (.ref b1), (.int (v31 + v32))])) rfl (by rw [hml]; rfl) (argsL := [(.ref b1), (.int (2 : Int32)), (.int v25), (.int v10)]) (rest := [(.int (v31 + v32))]) (lenOf pd_3 rfl) rfl (by show 2 * 0 + _ ≤ _; exact Nat.le_of_eq rfl) (hb hby at_359) (fun _ _ => ⟨rfl, e33, (by decide : 2 + 0 ≤ _), (by decide : 8 + 0 ≤ _)⟩)
  dsimp only [Pt.U, Pt.locs, Pt.cells, Pt.slots] at X34 l34 y34 z34 st34 hQ34
  obtain rfl : k34 = 2 := y34
  obtain rfl : n34 = 8 := z34
  obtain ⟨rfl, N34q, e34⟩ := hQ34
  have N34 : Fr n0 L34 := by rw [l34]; exact Fr.app N33 N34q
  have go97 : Go p e below A0 (T34.setTop (mkF m 362 #[.val (.long q0), .second, .val (.int p1), .val (.int p2), .val (.int p3), .val (.ref b1), .val (.int v9), .val (.int v10), .val (.int v11), .val (.int v12), .val (.int v13), .val (.int v14), .val (.ref b12), .val (.long v19), .second, .val (.int v22), .val (.int v24), .val (.int v25), .val (.int v30), .unset, .unset, .unset, .unset, .unset, .unset, .unset, .unset, .unset, .unset, .unset, .unset, .unset, .unset, .unset] [(.int (Fdot (2 : Int32) v25 v10 (nar .byte v2) (nar .byte v4) (nar .byte v6) (nar .byte v8))), (.int (v31 + v32))])) := by
    intro t k
    refine go96 t ?_
    refine st34 _ ?_
    show Steps p.tables e below (T34.setTop (mkF m 362 #[.val (.long q0), .second, .val (.int p1), .val (.int p2), .val (.int p3), .val (.ref b1), .val (.int v9), .val (.int v10), .val (.int v11), .val (.int v12), .val (.int v13), .val (.int v14), .val (.ref b12), .val (.long v19), .second, .val (.int v22), .val (.int v24), .val (.int v25), .val (.int v30), .unset, .unset, .unset, .unset, .unset, .unset, .unset, .unset, .unset, .unset, .unset, .unset, .unset, .unset, .unset] [(.int (Fdot (2 : Int32) v25 v10 (nar .byte v2) (nar .byte v4) (nar .byte v6) (nar .byte v8))), (.int (v31 + v32))])) _
    exact k
  obtain ⟨v33, hv33, go98⟩ : ∃ v33 : Int32, v33 = (Fdot (2 : Int32) v25 v10 (nar .byte v2) (nar .byte v4) (nar .byte v6) (nar .byte v8)) ∧ Go p e below A0 (T34.setTop (mkF m 362 #[.val (.long q0), .second, .val (.int p1), .val (.int p2), .val (.int p3), .val (.ref b1), .val (.int v9), .val (.int v10), .val (.int v11), .val (.int v12), .val (.int v13), .val (.int v14), .val (.ref b12), .val (.long v19), .second, .val (.int v22), .val (.int v24), .val (.int v25), .val (.int v30), .unset, .unset, .unset, .unset, .unset, .unset, .unset, .unset, .unset, .unset, .unset, .unset, .unset, .unset, .unset] [(.int v33), (.int (v31 + v32))])) := ⟨_, rfl, go97⟩
  have go99 : Go p e below A0 (T34.setTop (mkF m 370 #[.val (.long q0), .second, .val (.int p1), .val (.int p2), .val (.int p3), .val (.ref b1), .val (.int v9), .val (.int v10), .val (.int v11), .val (.int v12), .val (.int v13), .val (.int v14), .val (.ref b12), .val (.long v19), .second, .val (.int v22), .val (.int v24), .val (.int v25), .val (.int v30), .unset, .unset, .unset, .unset, .unset, .unset, .unset, .unset, .unset, .unset, .unset, .unset, .unset, .unset, .unset] [(.int v10), (.int v25), (.int (3 : Int32)), (.ref b1), (.int ((v31 + v32) + v33))])) := by
    intro t k
    refine go98 t ?_
    refine o_iadd X34 hx hby at_362 363 rfl ?_
    refine o_aload X34 hx hby at_363 365 rfl rfl rfl ?_
    refine o_iconst X34 hx hby at_365 366 rfl (v := (3 : Int32)) rfl ?_
    refine o_iload X34 hx hby at_366 368 rfl rfl ?_
    refine o_iload X34 hx hby at_368 370 rfl rfl ?_
    exact k
  obtain ⟨_, _, ⟨T35, L35, k35, n35⟩, -, X35, ⟨Lc35, hQ35, l35, y35, z35⟩, st35⟩ := Jvm.LawKit.callS X34 hx (y := (⟨"com/example/amortine/amortine/cli/DigitsReadPinLaw", "dotAt", "([BIII)I"⟩ : MethodName)) hown (mvT hZ (hw _ (List.mem_of_getElem? (i := 14) rfl))) (mvT hZ (hw _ (List.mem_of_getElem? (i := 15) rfl))) (mvT hZ (hw _ (List.mem_of_getElem? (i := 4) rfl))) (mvT hZ (hw _ (List.mem_of_getElem? (i := 16) rfl))) (by decide) (backOf (W := 1) (rm4 l Z aw hw [] b1 (3 : Int32) v25 v10 k1 ((nar .byte v2)) ((nar .byte v4)) ((nar .byte v6)) ((nar .byte v8)) h17 n0 Zp17 (f14) (by decide)) hZ (hw _ (List.mem_of_getElem? (i := 16) rfl)) (hw _ (List.mem_of_getElem? (i := 4) rfl)) (by decide) (by decide)) (g := (mkF m 370 #[.val (.long q0), .second, .val (.int p1), .val (.int p2), .val (.int p3), .val (.ref b1), .val (.int v9), .val (.int v10), .val (.int v11), .val (.int v12), .val (.int v13), .val (.int v14), .val (.ref b12), .val (.long v19), .second, .val (.int v22), .val (.int v24), .val (.int v25), .val (.int v30), .unset, .unset, .unset, .unset, .unset, .unset, .unset, .unset, .unset, .unset, .unset, .unset, .unset, .unset, .unset] [(.int v10), (.int v25), (.int (3 : Int32)), (.ref b1), (.int ((v31 + v32) + v33))])) rfl (by rw [hml]; rfl) (argsL := [(.ref b1), (.int (3 : Int32)), (.int v25), (.int v10)]) (rest := [(.int ((v31 + v32) + v33))]) (lenOf pd_3 rfl) rfl (by show 2 * 0 + _ ≤ _; exact Nat.le_of_eq rfl) (hb hby at_370) (fun _ _ => ⟨rfl, e34, (by decide : 2 + 0 ≤ _), (by decide : 8 + 0 ≤ _)⟩)
  dsimp only [Pt.U, Pt.locs, Pt.cells, Pt.slots] at X35 l35 y35 z35 st35 hQ35
  obtain rfl : k35 = 2 := y35
  obtain rfl : n35 = 8 := z35
  obtain ⟨rfl, N35q, e35⟩ := hQ35
  have N35 : Fr n0 L35 := by rw [l35]; exact Fr.app N34 N35q
  have go100 : Go p e below A0 (T35.setTop (mkF m 373 #[.val (.long q0), .second, .val (.int p1), .val (.int p2), .val (.int p3), .val (.ref b1), .val (.int v9), .val (.int v10), .val (.int v11), .val (.int v12), .val (.int v13), .val (.int v14), .val (.ref b12), .val (.long v19), .second, .val (.int v22), .val (.int v24), .val (.int v25), .val (.int v30), .unset, .unset, .unset, .unset, .unset, .unset, .unset, .unset, .unset, .unset, .unset, .unset, .unset, .unset, .unset] [(.int (Fdot (3 : Int32) v25 v10 (nar .byte v2) (nar .byte v4) (nar .byte v6) (nar .byte v8))), (.int ((v31 + v32) + v33))])) := by
    intro t k
    refine go99 t ?_
    refine st35 _ ?_
    show Steps p.tables e below (T35.setTop (mkF m 373 #[.val (.long q0), .second, .val (.int p1), .val (.int p2), .val (.int p3), .val (.ref b1), .val (.int v9), .val (.int v10), .val (.int v11), .val (.int v12), .val (.int v13), .val (.int v14), .val (.ref b12), .val (.long v19), .second, .val (.int v22), .val (.int v24), .val (.int v25), .val (.int v30), .unset, .unset, .unset, .unset, .unset, .unset, .unset, .unset, .unset, .unset, .unset, .unset, .unset, .unset, .unset] [(.int (Fdot (3 : Int32) v25 v10 (nar .byte v2) (nar .byte v4) (nar .byte v6) (nar .byte v8))), (.int ((v31 + v32) + v33))])) _
    exact k
  obtain ⟨v34, hv34, go101⟩ : ∃ v34 : Int32, v34 = (Fdot (3 : Int32) v25 v10 (nar .byte v2) (nar .byte v4) (nar .byte v6) (nar .byte v8)) ∧ Go p e below A0 (T35.setTop (mkF m 373 #[.val (.long q0), .second, .val (.int p1), .val (.int p2), .val (.int p3), .val (.ref b1), .val (.int v9), .val (.int v10), .val (.int v11), .val (.int v12), .val (.int v13), .val (.int v14), .val (.ref b12), .val (.long v19), .second, .val (.int v22), .val (.int v24), .val (.int v25), .val (.int v30), .unset, .unset, .unset, .unset, .unset, .unset, .unset, .unset, .unset, .unset, .unset, .unset, .unset, .unset, .unset] [(.int v34), (.int ((v31 + v32) + v33))])) := ⟨_, rfl, go100⟩
  have go102 : Go p e below A0 (T35.setTop (mkF m 376 #[.val (.long q0), .second, .val (.int p1), .val (.int p2), .val (.int p3), .val (.ref b1), .val (.int v9), .val (.int v10), .val (.int v11), .val (.int v12), .val (.int v13), .val (.int v14), .val (.ref b12), .val (.long v19), .second, .val (.int v22), .val (.int v24), .val (.int v25), .val (.int v30), .val (.int (((v31 + v32) + v33) + v34)), .unset, .unset, .unset, .unset, .unset, .unset, .unset, .unset, .unset, .unset, .unset, .unset, .unset, .unset] [])) := by
    intro t k
    refine go101 t ?_
    refine o_iadd X35 hx hby at_373 374 rfl ?_
    refine o_istore X35 hx hby at_374 376 rfl (l' := #[.val (.long q0), .second, .val (.int p1), .val (.int p2), .val (.int p3), .val (.ref b1), .val (.int v9), .val (.int v10), .val (.int v11), .val (.int v12), .val (.int v13), .val (.int v14), .val (.ref b12), .val (.long v19), .second, .val (.int v22), .val (.int v24), .val (.int v25), .val (.int v30), .val (.int (((v31 + v32) + v33) + v34)), .unset, .unset, .unset, .unset, .unset, .unset, .unset, .unset, .unset, .unset, .unset, .unset, .unset, .unset]) rfl ?_
    exact k
  obtain ⟨v35, hv35, go103⟩ : ∃ v35 : Int32, v35 = (((v31 + v32) + v33) + v34) ∧ Go p e below A0 (T35.setTop (mkF m 376 #[.val (.long q0), .second, .val (.int p1), .val (.int p2), .val (.int p3), .val (.ref b1), .val (.int v9), .val (.int v10), .val (.int v11), .val (.int v12), .val (.int v13), .val (.int v14), .val (.ref b12), .val (.long v19), .second, .val (.int v22), .val (.int v24), .val (.int v25), .val (.int v30), .val (.int v35), .unset, .unset, .unset, .unset, .unset, .unset, .unset, .unset, .unset, .unset, .unset, .unset, .unset, .unset] [])) := ⟨_, rfl, go102⟩
  have go104 : Go p e below A0 (T35.setTop (mkF m 383 #[.val (.long q0), .second, .val (.int p1), .val (.int p2), .val (.int p3), .val (.ref b1), .val (.int v9), .val (.int v10), .val (.int v11), .val (.int v12), .val (.int v13), .val (.int v14), .val (.ref b12), .val (.long v19), .second, .val (.int v22), .val (.int v24), .val (.int v25), .val (.int v30), .val (.int v35), .unset, .unset, .unset, .unset, .unset, .unset, .unset, .unset, .unset, .unset, .unset, .unset, .unset, .unset] [(.int v10), (.int v25), (.int (0 : Int32)), (.ref b1)])) := by
    intro t k
    refine go103 t ?_
    refine o_aload X35 hx hby at_376 378 rfl rfl rfl ?_
    refine o_iconst X35 hx hby at_378 379 rfl (v := (0 : Int32)) rfl ?_
    refine o_iload X35 hx hby at_379 381 rfl rfl ?_
    refine o_iload X35 hx hby at_381 383 rfl rfl ?_
    exact k
  obtain ⟨_, _, ⟨T36, L36, k36, n36⟩, -, X36, ⟨Lc36, hQ36, l36, y36, z36⟩, st36⟩ := Jvm.LawKit.callS X35 hx (y := (⟨"com/example/amortine/amortine/cli/DigitsReadPinLaw", "otherAt", "([BIII)I"⟩ : MethodName)) hown (mvT hZ (hw _ (List.mem_of_getElem? (i := 17) rfl))) (mvT hZ (hw _ (List.mem_of_getElem? (i := 18) rfl))) (mvT hZ (hw _ (List.mem_of_getElem? (i := 4) rfl))) (mvT hZ (hw _ (List.mem_of_getElem? (i := 19) rfl))) (by decide) (backOf (W := 0) (rm5 l Z aw hw [] b1 (0 : Int32) v25 v10 k1 ((nar .byte v2)) ((nar .byte v4)) ((nar .byte v6)) ((nar .byte v8)) h17 n0 Zp17 (f14) (by decide)) hZ (hw _ (List.mem_of_getElem? (i := 19) rfl)) (hw _ (List.mem_of_getElem? (i := 4) rfl)) (by decide) (by decide)) (g := (mkF m 383 #[.val (.long q0), .second, .val (.int p1), .val (.int p2), .val (.int p3), .val (.ref b1), .val (.int v9), .val (.int v10), .val (.int v11), .val (.int v12), .val (.int v13), .val (.int v14), .val (.ref b12), .val (.long v19), .second, .val (.int v22), .val (.int v24), .val (.int v25), .val (.int v30), .val (.int v35), .unset, .unset, .unset, .unset, .unset, .unset, .unset, .unset, .unset, .unset, .unset, .unset, .unset, .unset] [(.int v10), (.int v25), (.int (0 : Int32)), (.ref b1)])) rfl (by rw [hml]; rfl) (argsL := [(.ref b1), (.int (0 : Int32)), (.int v25), (.int v10)]) (rest := []) (lenOf pd_3 rfl) rfl (by show 2 * 0 + _ ≤ _; exact Nat.le_of_eq rfl) (hb hby at_383) (fun _ _ => ⟨rfl, e35, (by decide : 2 + 0 ≤ _), (by decide : 8 + 0 ≤ _)⟩)
  dsimp only [Pt.U, Pt.locs, Pt.cells, Pt.slots] at X36 l36 y36 z36 st36 hQ36
  obtain rfl : k36 = 2 := y36
  obtain rfl : n36 = 8 := z36
  obtain ⟨rfl, N36q, e36⟩ := hQ36
  have N36 : Fr n0 L36 := by rw [l36]; exact Fr.app N35 N36q
  have go105 : Go p e below A0 (T36.setTop (mkF m 386 #[.val (.long q0), .second, .val (.int p1), .val (.int p2), .val (.int p3), .val (.ref b1), .val (.int v9), .val (.int v10), .val (.int v11), .val (.int v12), .val (.int v13), .val (.int v14), .val (.ref b12), .val (.long v19), .second, .val (.int v22), .val (.int v24), .val (.int v25), .val (.int v30), .val (.int v35), .unset, .unset, .unset, .unset, .unset, .unset, .unset, .unset, .unset, .unset, .unset, .unset, .unset, .unset] [(.int (Foth (0 : Int32) v25 v10 (nar .byte v2) (nar .byte v4) (nar .byte v6) (nar .byte v8)))])) := by
    intro t k
    refine go104 t ?_
    refine st36 _ ?_
    show Steps p.tables e below (T36.setTop (mkF m 386 #[.val (.long q0), .second, .val (.int p1), .val (.int p2), .val (.int p3), .val (.ref b1), .val (.int v9), .val (.int v10), .val (.int v11), .val (.int v12), .val (.int v13), .val (.int v14), .val (.ref b12), .val (.long v19), .second, .val (.int v22), .val (.int v24), .val (.int v25), .val (.int v30), .val (.int v35), .unset, .unset, .unset, .unset, .unset, .unset, .unset, .unset, .unset, .unset, .unset, .unset, .unset, .unset] [(.int (Foth (0 : Int32) v25 v10 (nar .byte v2) (nar .byte v4) (nar .byte v6) (nar .byte v8)))])) _
    exact k
  obtain ⟨v36, hv36, go106⟩ : ∃ v36 : Int32, v36 = (Foth (0 : Int32) v25 v10 (nar .byte v2) (nar .byte v4) (nar .byte v6) (nar .byte v8)) ∧ Go p e below A0 (T36.setTop (mkF m 386 #[.val (.long q0), .second, .val (.int p1), .val (.int p2), .val (.int p3), .val (.ref b1), .val (.int v9), .val (.int v10), .val (.int v11), .val (.int v12), .val (.int v13), .val (.int v14), .val (.ref b12), .val (.long v19), .second, .val (.int v22), .val (.int v24), .val (.int v25), .val (.int v30), .val (.int v35), .unset, .unset, .unset, .unset, .unset, .unset, .unset, .unset, .unset, .unset, .unset, .unset, .unset, .unset] [(.int v36)])) := ⟨_, rfl, go105⟩
  have go107 : Go p e below A0 (T36.setTop (mkF m 393 #[.val (.long q0), .second, .val (.int p1), .val (.int p2), .val (.int p3), .val (.ref b1), .val (.int v9), .val (.int v10), .val (.int v11), .val (.int v12), .val (.int v13), .val (.int v14), .val (.ref b12), .val (.long v19), .second, .val (.int v22), .val (.int v24), .val (.int v25), .val (.int v30), .val (.int v35), .unset, .unset, .unset, .unset, .unset, .unset, .unset, .unset, .unset, .unset, .unset, .unset, .unset, .unset] [(.int v10), (.int v25), (.int (1 : Int32)), (.ref b1), (.int v36)])) := by
    intro t k
    refine go106 t ?_
    refine o_aload X36 hx hby at_386 388 rfl rfl rfl ?_
    refine o_iconst X36 hx hby at_388 389 rfl (v := (1 : Int32)) rfl ?_
    refine o_iload X36 hx hby at_389 391 rfl rfl ?_
    refine o_iload X36 hx hby at_391 393 rfl rfl ?_
    exact k
  obtain ⟨_, _, ⟨T37, L37, k37, n37⟩, -, X37, ⟨Lc37, hQ37, l37, y37, z37⟩, st37⟩ := Jvm.LawKit.callS X36 hx (y := (⟨"com/example/amortine/amortine/cli/DigitsReadPinLaw", "otherAt", "([BIII)I"⟩ : MethodName)) hown (mvT hZ (hw _ (List.mem_of_getElem? (i := 17) rfl))) (mvT hZ (hw _ (List.mem_of_getElem? (i := 18) rfl))) (mvT hZ (hw _ (List.mem_of_getElem? (i := 4) rfl))) (mvT hZ (hw _ (List.mem_of_getElem? (i := 19) rfl))) (by decide) (backOf (W := 1) (rm5 l Z aw hw [] b1 (1 : Int32) v25 v10 k1 ((nar .byte v2)) ((nar .byte v4)) ((nar .byte v6)) ((nar .byte v8)) h17 n0 Zp17 (f14) (by decide)) hZ (hw _ (List.mem_of_getElem? (i := 19) rfl)) (hw _ (List.mem_of_getElem? (i := 4) rfl)) (by decide) (by decide)) (g := (mkF m 393 #[.val (.long q0), .second, .val (.int p1), .val (.int p2), .val (.int p3), .val (.ref b1), .val (.int v9), .val (.int v10), .val (.int v11), .val (.int v12), .val (.int v13), .val (.int v14), .val (.ref b12), .val (.long v19), .second, .val (.int v22), .val (.int v24), .val (.int v25), .val (.int v30), .val (.int v35), .unset, .unset, .unset, .unset, .unset, .unset, .unset, .unset, .unset, .unset, .unset, .unset, .unset, .unset] [(.int v10), (.int v25), (.int (1 : Int32)), (.ref b1), (.int v36)])) rfl (by rw [hml]; rfl) (argsL := [(.ref b1), (.int (1 : Int32)), (.int v25), (.int v10)]) (rest := [(.int v36)]) (lenOf pd_3 rfl) rfl (by show 2 * 0 + _ ≤ _; exact Nat.le_of_eq rfl) (hb hby at_393) (fun _ _ => ⟨rfl, e36, (by decide : 2 + 0 ≤ _), (by decide : 8 + 0 ≤ _)⟩)
  dsimp only [Pt.U, Pt.locs, Pt.cells, Pt.slots] at X37 l37 y37 z37 st37 hQ37
  obtain rfl : k37 = 2 := y37
  obtain rfl : n37 = 8 := z37
  obtain ⟨rfl, N37q, e37⟩ := hQ37
  have N37 : Fr n0 L37 := by rw [l37]; exact Fr.app N36 N37q
  have go108 : Go p e below A0 (T37.setTop (mkF m 396 #[.val (.long q0), .second, .val (.int p1), .val (.int p2), .val (.int p3), .val (.ref b1), .val (.int v9), .val (.int v10), .val (.int v11), .val (.int v12), .val (.int v13), .val (.int v14), .val (.ref b12), .val (.long v19), .second, .val (.int v22), .val (.int v24), .val (.int v25), .val (.int v30), .val (.int v35), .unset, .unset, .unset, .unset, .unset, .unset, .unset, .unset, .unset, .unset, .unset, .unset, .unset, .unset] [(.int (Foth (1 : Int32) v25 v10 (nar .byte v2) (nar .byte v4) (nar .byte v6) (nar .byte v8))), (.int v36)])) := by
    intro t k
    refine go107 t ?_
    refine st37 _ ?_
    show Steps p.tables e below (T37.setTop (mkF m 396 #[.val (.long q0), .second, .val (.int p1), .val (.int p2), .val (.int p3), .val (.ref b1), .val (.int v9), .val (.int v10), .val (.int v11), .val (.int v12), .val (.int v13), .val (.int v14), .val (.ref b12), .val (.long v19), .second, .val (.int v22), .val (.int v24), .val (.int v25), .val (.int v30), .val (.int v35), .unset, .unset, .unset, .unset, .unset, .unset, .unset, .unset, .unset, .unset, .unset, .unset, .unset, .unset] [(.int (Foth (1 : Int32) v25 v10 (nar .byte v2) (nar .byte v4) (nar .byte v6) (nar .byte v8))), (.int v36)])) _
    exact k
  obtain ⟨v37, hv37, go109⟩ : ∃ v37 : Int32, v37 = (Foth (1 : Int32) v25 v10 (nar .byte v2) (nar .byte v4) (nar .byte v6) (nar .byte v8)) ∧ Go p e below A0 (T37.setTop (mkF m 396 #[.val (.long q0), .second, .val (.int p1), .val (.int p2), .val (.int p3), .val (.ref b1), .val (.int v9), .val (.int v10), .val (.int v11), .val (.int v12), .val (.int v13), .val (.int v14), .val (.ref b12), .val (.long v19), .second, .val (.int v22), .val (.int v24), .val (.int v25), .val (.int v30), .val (.int v35), .unset, .unset, .unset, .unset, .unset, .unset, .unset, .unset, .unset, .unset, .unset, .unset, .unset, .unset] [(.int v37), (.int v36)])) := ⟨_, rfl, go108⟩
  have go110 : Go p e below A0 (T37.setTop (mkF m 404 #[.val (.long q0), .second, .val (.int p1), .val (.int p2), .val (.int p3), .val (.ref b1), .val (.int v9), .val (.int v10), .val (.int v11), .val (.int v12), .val (.int v13), .val (.int v14), .val (.ref b12), .val (.long v19), .second, .val (.int v22), .val (.int v24), .val (.int v25), .val (.int v30), .val (.int v35), .unset, .unset, .unset, .unset, .unset, .unset, .unset, .unset, .unset, .unset, .unset, .unset, .unset, .unset] [(.int v10), (.int v25), (.int (2 : Int32)), (.ref b1), (.int (v36 + v37))])) := by
    intro t k
    refine go109 t ?_
    refine o_iadd X37 hx hby at_396 397 rfl ?_
    refine o_aload X37 hx hby at_397 399 rfl rfl rfl ?_
    refine o_iconst X37 hx hby at_399 400 rfl (v := (2 : Int32)) rfl ?_
    refine o_iload X37 hx hby at_400 402 rfl rfl ?_
    refine o_iload X37 hx hby at_402 404 rfl rfl ?_
    exact k
  obtain ⟨_, _, ⟨T38, L38, k38, n38⟩, -, X38, ⟨Lc38, hQ38, l38, y38, z38⟩, st38⟩ := Jvm.LawKit.callS X37 hx (y := (⟨"com/example/amortine/amortine/cli/DigitsReadPinLaw", "otherAt", "([BIII)I"⟩ : MethodName)) hown (mvT hZ (hw _ (List.mem_of_getElem? (i := 17) rfl))) (mvT hZ (hw _ (List.mem_of_getElem? (i := 18) rfl))) (mvT hZ (hw _ (List.mem_of_getElem? (i := 4) rfl))) (mvT hZ (hw _ (List.mem_of_getElem? (i := 19) rfl))) (by decide) (backOf (W := 1) (rm5 l Z aw hw [] b1 (2 : Int32) v25 v10 k1 ((nar .byte v2)) ((nar .byte v4)) ((nar .byte v6)) ((nar .byte v8)) h17 n0 Zp17 (f14) (by decide)) hZ (hw _ (List.mem_of_getElem? (i := 19) rfl)) (hw _ (List.mem_of_getElem? (i := 4) rfl)) (by decide) (by decide)) (g := (mkF m 404 #[.val (.long q0), .second, .val (.int p1), .val (.int p2), .val (.int p3), .val (.ref b1), .val (.int v9), .val (.int v10), .val (.int v11), .val (.int v12), .val (.int v13), .val (.int v14), .val (.ref b12), .val (.long v19), .second, .val (.int v22), .val (.int v24), .val (.int v25), .val (.int v30), .val (.int v35), .unset, .unset, .unset, .unset, .unset, .unset, .unset, .unset, .unset, .unset, .unset, .unset, .unset, .unset] [(.int v10), (.int v25), (.int (2 : Int32)), (.ref b1), (.int (v36 + v37))])) rfl (by rw [hml]; rfl) (argsL := [(.ref b1), (.int (2 : Int32)), (.int v25), (.int v10)]) (rest := [(.int (v36 + v37))]) (lenOf pd_3 rfl) rfl (by show 2 * 0 + _ ≤ _; exact Nat.le_of_eq rfl) (hb hby at_404) (fun _ _ => ⟨rfl, e37, (by decide : 2 + 0 ≤ _), (by decide : 8 + 0 ≤ _)⟩)
  dsimp only [Pt.U, Pt.locs, Pt.cells, Pt.slots] at X38 l38 y38 z38 st38 hQ38
  obtain rfl : k38 = 2 := y38
  obtain rfl : n38 = 8 := z38
  obtain ⟨rfl, N38q, e38⟩ := hQ38
  have N38 : Fr n0 L38 := by rw [l38]; exact Fr.app N37 N38q
  have go111 : Go p e below A0 (T38.setTop (mkF m 407 #[.val (.long q0), .second, .val (.int p1), .val (.int p2), .val (.int p3), .val (.ref b1), .val (.int v9), .val (.int v10), .val (.int v11), .val (.int v12), .val (.int v13), .val (.int v14), .val (.ref b12), .val (.long v19), .second, .val (.int v22), .val (.int v24), .val (.int v25), .val (.int v30), .val (.int v35), .unset, .unset, .unset, .unset, .unset, .unset, .unset, .unset, .unset, .unset, .unset, .unset, .unset, .unset] [(.int (Foth (2 : Int32) v25 v10 (nar .byte v2) (nar .byte v4) (nar .byte v6) (nar .byte v8))), (.int (v36 + v37))])) := by
    intro t k
    refine go110 t ?_
    refine st38 _ ?_
    show Steps p.tables e below (T38.setTop (mkF m 407 #[.val (.long q0), .second, .val (.int p1), .val (.int p2), .val (.int p3), .val (.ref b1), .val (.int v9), .val (.int v10), .val (.int v11), .val (.int v12), .val (.int v13), .val (.int v14), .val (.ref b12), .val (.long v19), .second, .val (.int v22), .val (.int v24), .val (.int v25), .val (.int v30), .val (.int v35), .unset, .unset, .unset, .unset, .unset, .unset, .unset, .unset, .unset, .unset, .unset, .unset, .unset, .unset] [(.int (Foth (2 : Int32) v25 v10 (nar .byte v2) (nar .byte v4) (nar .byte v6) (nar .byte v8))), (.int (v36 + v37))])) _
    exact k
  obtain ⟨v38, hv38, go112⟩ : ∃ v38 : Int32, v38 = (Foth (2 : Int32) v25 v10 (nar .byte v2) (nar .byte v4) (nar .byte v6) (nar .byte v8)) ∧ Go p e below A0 (T38.setTop (mkF m 407 #[.val (.long q0), .second, .val (.int p1), .val (.int p2), .val (.int p3), .val (.ref b1), .val (.int v9), .val (.int v10), .val (.int v11), .val (.int v12), .val (.int v13), .val (.int v14), .val (.ref b12), .val (.long v19), .second, .val (.int v22), .val (.int v24), .val (.int v25), .val (.int v30), .val (.int v35), .unset, .unset, .unset, .unset, .unset, .unset, .unset, .unset, .unset, .unset, .unset, .unset, .unset, .unset] [(.int v38), (.int (v36 + v37))])) := ⟨_, rfl, go111⟩
  have go113 : Go p e below A0 (T38.setTop (mkF m 415 #[.val (.long q0), .second, .val (.int p1), .val (.int p2), .val (.int p3), .val (.ref b1), .val (.int v9), .val (.int v10), .val (.int v11), .val (.int v12), .val (.int v13), .val (.int v14), .val (.ref b12), .val (.long v19), .second, .val (.int v22), .val (.int v24), .val (.int v25), .val (.int v30), .val (.int v35), .unset, .unset, .unset, .unset, .unset, .unset, .unset, .unset, .unset, .unset, .unset, .unset, .unset, .unset] [(.int v10), (.int v25), (.int (3 : Int32)), (.ref b1), (.int ((v36 + v37) + v38))])) := by
    intro t k
    refine go112 t ?_
    refine o_iadd X38 hx hby at_407 408 rfl ?_
    refine o_aload X38 hx hby at_408 410 rfl rfl rfl ?_
    refine o_iconst X38 hx hby at_410 411 rfl (v := (3 : Int32)) rfl ?_
    refine o_iload X38 hx hby at_411 413 rfl rfl ?_
    refine o_iload X38 hx hby at_413 415 rfl rfl ?_
    exact k
  obtain ⟨_, _, ⟨T39, L39, k39, n39⟩, -, X39, ⟨Lc39, hQ39, l39, y39, z39⟩, st39⟩ := Jvm.LawKit.callS X38 hx (y := (⟨"com/example/amortine/amortine/cli/DigitsReadPinLaw", "otherAt", "([BIII)I"⟩ : MethodName)) hown (mvT hZ (hw _ (List.mem_of_getElem? (i := 17) rfl))) (mvT hZ (hw _ (List.mem_of_getElem? (i := 18) rfl))) (mvT hZ (hw _ (List.mem_of_getElem? (i := 4) rfl))) (mvT hZ (hw _ (List.mem_of_getElem? (i := 19) rfl))) (by decide) (backOf (W := 1) (rm5 l Z aw hw [] b1 (3 : Int32) v25 v10 k1 ((nar .byte v2)) ((nar .byte v4)) ((nar .byte v6)) ((nar .byte v8)) h17 n0 Zp17 (f14) (by decide)) hZ (hw _ (List.mem_of_getElem? (i := 19) rfl)) (hw _ (List.mem_of_getElem? (i := 4) rfl)) (by decide) (by decide)) (g := (mkF m 415 #[.val (.long q0), .second, .val (.int p1), .val (.int p2), .val (.int p3), .val (.ref b1), .val (.int v9), .val (.int v10), .val (.int v11), .val (.int v12), .val (.int v13), .val (.int v14), .val (.ref b12), .val (.long v19), .second, .val (.int v22), .val (.int v24), .val (.int v25), .val (.int v30), .val (.int v35), .unset, .unset, .unset, .unset, .unset, .unset, .unset, .unset, .unset, .unset, .unset, .unset, .unset, .unset] [(.int v10), (.int v25), (.int (3 : Int32)), (.ref b1), (.int ((v36 + v37) + v38))])) rfl (by rw [hml]; rfl) (argsL := [(.ref b1), (.int (3 : Int32)), (.int v25), (.int v10)]) (rest := [(.int ((v36 + v37) + v38))]) (lenOf pd_3 rfl) rfl (by show 2 * 0 + _ ≤ _; exact Nat.le_of_eq rfl) (hb hby at_415) (fun _ _ => ⟨rfl, e38, (by decide : 2 + 0 ≤ _), (by decide : 8 + 0 ≤ _)⟩)
  dsimp only [Pt.U, Pt.locs, Pt.cells, Pt.slots] at X39 l39 y39 z39 st39 hQ39
  obtain rfl : k39 = 2 := y39
  obtain rfl : n39 = 8 := z39
  obtain ⟨rfl, N39q, e39⟩ := hQ39
  have N39 : Fr n0 L39 := by rw [l39]; exact Fr.app N38 N39q
  have go114 : Go p e below A0 (T39.setTop (mkF m 418 #[.val (.long q0), .second, .val (.int p1), .val (.int p2), .val (.int p3), .val (.ref b1), .val (.int v9), .val (.int v10), .val (.int v11), .val (.int v12), .val (.int v13), .val (.int v14), .val (.ref b12), .val (.long v19), .second, .val (.int v22), .val (.int v24), .val (.int v25), .val (.int v30), .val (.int v35), .unset, .unset, .unset, .unset, .unset, .unset, .unset, .unset, .unset, .unset, .unset, .unset, .unset, .unset] [(.int (Foth (3 : Int32) v25 v10 (nar .byte v2) (nar .byte v4) (nar .byte v6) (nar .byte v8))), (.int ((v36 + v37) + v38))])) := by
    intro t k
    refine go113 t ?_
    refine st39 _ ?_
    show Steps p.tables e below (T39.setTop (mkF m 418 #[.val (.long q0), .second, .val (.int p1), .val (.int p2), .val (.int p3), .val (.ref b1), .val (.int v9), .val (.int v10), .val (.int v11), .val (.int v12), .val (.int v13), .val (.int v14), .val (.ref b12), .val (.long v19), .second, .val (.int v22), .val (.int v24), .val (.int v25), .val (.int v30), .val (.int v35), .unset, .unset, .unset, .unset, .unset, .unset, .unset, .unset, .unset, .unset, .unset, .unset, .unset, .unset] [(.int (Foth (3 : Int32) v25 v10 (nar .byte v2) (nar .byte v4) (nar .byte v6) (nar .byte v8))), (.int ((v36 + v37) + v38))])) _
    exact k
  obtain ⟨v39, hv39, go115⟩ : ∃ v39 : Int32, v39 = (Foth (3 : Int32) v25 v10 (nar .byte v2) (nar .byte v4) (nar .byte v6) (nar .byte v8)) ∧ Go p e below A0 (T39.setTop (mkF m 418 #[.val (.long q0), .second, .val (.int p1), .val (.int p2), .val (.int p3), .val (.ref b1), .val (.int v9), .val (.int v10), .val (.int v11), .val (.int v12), .val (.int v13), .val (.int v14), .val (.ref b12), .val (.long v19), .second, .val (.int v22), .val (.int v24), .val (.int v25), .val (.int v30), .val (.int v35), .unset, .unset, .unset, .unset, .unset, .unset, .unset, .unset, .unset, .unset, .unset, .unset, .unset, .unset] [(.int v39), (.int ((v36 + v37) + v38))])) := ⟨_, rfl, go114⟩
  have go116 : Go p e below A0 (T39.setTop (mkF m 421 #[.val (.long q0), .second, .val (.int p1), .val (.int p2), .val (.int p3), .val (.ref b1), .val (.int v9), .val (.int v10), .val (.int v11), .val (.int v12), .val (.int v13), .val (.int v14), .val (.ref b12), .val (.long v19), .second, .val (.int v22), .val (.int v24), .val (.int v25), .val (.int v30), .val (.int v35), .val (.int (((v36 + v37) + v38) + v39)), .unset, .unset, .unset, .unset, .unset, .unset, .unset, .unset, .unset, .unset, .unset, .unset, .unset] [])) := by
    intro t k
    refine go115 t ?_
    refine o_iadd X39 hx hby at_418 419 rfl ?_
    refine o_istore X39 hx hby at_419 421 rfl (l' := #[.val (.long q0), .second, .val (.int p1), .val (.int p2), .val (.int p3), .val (.ref b1), .val (.int v9), .val (.int v10), .val (.int v11), .val (.int v12), .val (.int v13), .val (.int v14), .val (.ref b12), .val (.long v19), .second, .val (.int v22), .val (.int v24), .val (.int v25), .val (.int v30), .val (.int v35), .val (.int (((v36 + v37) + v38) + v39)), .unset, .unset, .unset, .unset, .unset, .unset, .unset, .unset, .unset, .unset, .unset, .unset, .unset]) rfl ?_
    exact k
  obtain ⟨v40, hv40, go117⟩ : ∃ v40 : Int32, v40 = (((v36 + v37) + v38) + v39) ∧ Go p e below A0 (T39.setTop (mkF m 421 #[.val (.long q0), .second, .val (.int p1), .val (.int p2), .val (.int p3), .val (.ref b1), .val (.int v9), .val (.int v10), .val (.int v11), .val (.int v12), .val (.int v13), .val (.int v14), .val (.ref b12), .val (.long v19), .second, .val (.int v22), .val (.int v24), .val (.int v25), .val (.int v30), .val (.int v35), .val (.int v40), .unset, .unset, .unset, .unset, .unset, .unset, .unset, .unset, .unset, .unset, .unset, .unset, .unset] [])) := ⟨_, rfl, go116⟩
  have go118 : Go p e below A0 (T39.setTop (mkF m 423 #[.val (.long q0), .second, .val (.int p1), .val (.int p2), .val (.int p3), .val (.ref b1), .val (.int v9), .val (.int v10), .val (.int v11), .val (.int v12), .val (.int v13), .val (.int v14), .val (.ref b12), .val (.long v19), .second, .val (.int v22), .val (.int v24), .val (.int v25), .val (.int v30), .val (.int v35), .val (.int v40), .unset, .unset, .unset, .unset, .unset, .unset, .unset, .unset, .unset, .unset, .unset, .unset, .unset] [(.int v40)])) := by
    intro t k
    refine go117 t ?_
    refine o_iload X39 hx hby at_421 423 rfl rfl ?_
    exact k
  obtain ⟨v44, hv44, go130⟩ : ∃ (v44 : Int32), v44 = (if v40 = (0 : Int32) then (if (0 : Int32) < v30 then (if (if v11 = (0 : Int32) then (0 : Int32) else (1 : Int32)) < v35 then (0 : Int32) else (1 : Int32)) else (0 : Int32)) else (0 : Int32)) ∧ Go p e below A0 (T39.setTop (mkF m 451 #[.val (.long q0), .second, .val (.int p1), .val (.int p2), .val (.int p3), .val (.ref b1), .val (.int v9), .val (.int v10), .val (.int v11), .val (.int v12), .val (.int v13), .val (.int v14), .val (.ref b12), .val (.long v19), .second, .val (.int v22), .val (.int v24), .val (.int v25), .val (.int v30), .val (.int v35), .val (.int v40), .unset, .unset, .unset, .unset, .unset, .unset, .unset, .unset, .unset, .unset, .unset, .unset, .unset] [(.int v44)])) := by
    by_cases hc423_40 : v40 = (0 : Int32)
    · have go119 : Go p e below A0 (T39.setTop (mkF m 428 #[.val (.long q0), .second, .val (.int p1), .val (.int p2), .val (.int p3), .val (.ref b1), .val (.int v9), .val (.int v10), .val (.int v11), .val (.int v12), .val (.int v13), .val (.int v14), .val (.ref b12), .val (.long v19), .second, .val (.int v22), .val (.int v24), .val (.int v25), .val (.int v30), .val (.int v35), .val (.int v40), .unset, .unset, .unset, .unset, .unset, .unset, .unset, .unset, .unset, .unset, .unset, .unset, .unset] [(.int v30)])) := by
        intro t k
        refine go118 t ?_
        refine o_ifN X39 hx hby at_423 426 rfl (teq hc423_40).2 ?_
        refine o_iload X39 hx hby at_426 428 rfl rfl ?_
        exact k
      obtain ⟨v43, hv43, go128⟩ : ∃ (v43 : Int32), v43 = (if (0 : Int32) < v30 then (if (if v11 = (0 : Int32) then (0 : Int32) else (1 : Int32)) < v35 then (0 : Int32) else (1 : Int32)) else (0 : Int32)) ∧ Go p e below A0 (T39.setTop (mkF m 451 #[.val (.long q0), .second, .val (.int p1), .val (.int p2), .val (.int p3), .val (.ref b1), .val (.int v9), .val (.int v10), .val (.int v11), .val (.int v12), .val (.int v13), .val (.int v14), .val (.ref b12), .val (.long v19), .second, .val (.int v22), .val (.int v24), .val (.int v25), .val (.int v30), .val (.int v35), .val (.int v40), .unset, .unset, .unset, .unset, .unset, .unset, .unset, .unset, .unset, .unset, .unset, .unset, .unset] [(.int v43)])) := by
        by_cases hc428_41 : (0 : Int32) < v30
        · have go120 : Go p e below A0 (T39.setTop (mkF m 435 #[.val (.long q0), .second, .val (.int p1), .val (.int p2), .val (.int p3), .val (.ref b1), .val (.int v9), .val (.int v10), .val (.int v11), .val (.int v12), .val (.int v13), .val (.int v14), .val (.ref b12), .val (.long v19), .second, .val (.int v22), .val (.int v24), .val (.int v25), .val (.int v30), .val (.int v35), .val (.int v40), .unset, .unset, .unset, .unset, .unset, .unset, .unset, .unset, .unset, .unset, .unset, .unset, .unset] [(.int v11), (.int v35)])) := by
            intro t k
            refine go119 t ?_
            refine o_ifN X39 hx hby at_428 431 rfl (tlt hc428_41).2.2.2 ?_
            refine o_iload X39 hx hby at_431 433 rfl rfl ?_
            refine o_iload X39 hx hby at_433 435 rfl rfl ?_
            exact k
          obtain ⟨v41, hv41, go123⟩ : ∃ (v41 : Int32), v41 = (if v11 = (0 : Int32) then (0 : Int32) else (1 : Int32)) ∧ Go p e below A0 (T39.setTop (mkF m 443 #[.val (.long q0), .second, .val (.int p1), .val (.int p2), .val (.int p3), .val (.ref b1), .val (.int v9), .val (.int v10), .val (.int v11), .val (.int v12), .val (.int v13), .val (.int v14), .val (.ref b12), .val (.long v19), .second, .val (.int v22), .val (.int v24), .val (.int v25), .val (.int v30), .val (.int v35), .val (.int v40), .unset, .unset, .unset, .unset, .unset, .unset, .unset, .unset, .unset, .unset, .unset, .unset, .unset] [(.int v41), (.int v35)])) := by
            by_cases hc435_42 : v11 = (0 : Int32)
            · have go121 : Go p e below A0 (T39.setTop (mkF m 443 #[.val (.long q0), .second, .val (.int p1), .val (.int p2), .val (.int p3), .val (.ref b1), .val (.int v9), .val (.int v10), .val (.int v11), .val (.int v12), .val (.int v13), .val (.int v14), .val (.ref b12), .val (.long v19), .second, .val (.int v22), .val (.int v24), .val (.int v25), .val (.int v30), .val (.int v35), .val (.int v40), .unset, .unset, .unset, .unset, .unset, .unset, .unset, .unset, .unset, .unset, .unset, .unset, .unset] [(.int (0 : Int32)), (.int v35)])) := by
                intro t k
                refine go120 t ?_
                refine o_ifY X39 hx hby at_435 442 rfl (teq hc435_42).1 ?_
                refine o_iconst X39 hx hby at_442 443 rfl (v := (0 : Int32)) rfl ?_
                exact k
              exact ⟨(0 : Int32), (if_pos hc435_42).symm, go121⟩
            · have go122 : Go p e below A0 (T39.setTop (mkF m 443 #[.val (.long q0), .second, .val (.int p1), .val (.int p2), .val (.int p3), .val (.ref b1), .val (.int v9), .val (.int v10), .val (.int v11), .val (.int v12), .val (.int v13), .val (.int v14), .val (.ref b12), .val (.long v19), .second, .val (.int v22), .val (.int v24), .val (.int v25), .val (.int v30), .val (.int v35), .val (.int v40), .unset, .unset, .unset, .unset, .unset, .unset, .unset, .unset, .unset, .unset, .unset, .unset, .unset] [(.int (1 : Int32)), (.int v35)])) := by
                intro t k
                refine go120 t ?_
                refine o_ifN X39 hx hby at_435 438 rfl (feq hc435_42).1 ?_
                refine o_iconst X39 hx hby at_438 439 rfl (v := (1 : Int32)) rfl ?_
                refine o_goto X39 hx hby at_439 443 rfl ?_
                exact k
              exact ⟨(1 : Int32), (if_neg hc435_42).symm, go122⟩
          rw [hv41] at go123
          obtain ⟨v42, hv42, go126⟩ : ∃ (v42 : Int32), v42 = (if (if v11 = (0 : Int32) then (0 : Int32) else (1 : Int32)) < v35 then (0 : Int32) else (1 : Int32)) ∧ Go p e below A0 (T39.setTop (mkF m 451 #[.val (.long q0), .second, .val (.int p1), .val (.int p2), .val (.int p3), .val (.ref b1), .val (.int v9), .val (.int v10), .val (.int v11), .val (.int v12), .val (.int v13), .val (.int v14), .val (.ref b12), .val (.long v19), .second, .val (.int v22), .val (.int v24), .val (.int v25), .val (.int v30), .val (.int v35), .val (.int v40), .unset, .unset, .unset, .unset, .unset, .unset, .unset, .unset, .unset, .unset, .unset, .unset, .unset] [(.int v42)])) := by
            by_cases hc443_43 : (if v11 = (0 : Int32) then (0 : Int32) else (1 : Int32)) < v35
            · have go124 : Go p e below A0 (T39.setTop (mkF m 451 #[.val (.long q0), .second, .val (.int p1), .val (.int p2), .val (.int p3), .val (.ref b1), .val (.int v9), .val (.int v10), .val (.int v11), .val (.int v12), .val (.int v13), .val (.int v14), .val (.ref b12), .val (.long v19), .second, .val (.int v22), .val (.int v24), .val (.int v25), .val (.int v30), .val (.int v35), .val (.int v40), .unset, .unset, .unset, .unset, .unset, .unset, .unset, .unset, .unset, .unset, .unset, .unset, .unset] [(.int (0 : Int32))])) := by
                intro t k
                refine go123 t ?_
                refine o_icmpY X39 hx hby at_443 450 rfl (tlt hc443_43).2.2.1 ?_
                refine o_iconst X39 hx hby at_450 451 rfl (v := (0 : Int32)) rfl ?_
                exact k
              exact ⟨(0 : Int32), (if_pos hc443_43).symm, go124⟩
            · have go125 : Go p e below A0 (T39.setTop (mkF m 451 #[.val (.long q0), .second, .val (.int p1), .val (.int p2), .val (.int p3), .val (.ref b1), .val (.int v9), .val (.int v10), .val (.int v11), .val (.int v12), .val (.int v13), .val (.int v14), .val (.ref b12), .val (.long v19), .second, .val (.int v22), .val (.int v24), .val (.int v25), .val (.int v30), .val (.int v35), .val (.int v40), .unset, .unset, .unset, .unset, .unset, .unset, .unset, .unset, .unset, .unset, .unset, .unset, .unset] [(.int (1 : Int32))])) := by
                intro t k
                refine go123 t ?_
                refine o_icmpN X39 hx hby at_443 446 rfl (flt hc443_43).2.2.1 ?_
                refine o_iconst X39 hx hby at_446 447 rfl (v := (1 : Int32)) rfl ?_
                refine o_goto X39 hx hby at_447 451 rfl ?_
                exact k
              exact ⟨(1 : Int32), (if_neg hc443_43).symm, go125⟩
          rw [hv42] at go126
          exact ⟨(if (if v11 = (0 : Int32) then (0 : Int32) else (1 : Int32)) < v35 then (0 : Int32) else (1 : Int32)), (if_pos hc428_41).symm, go126⟩
        · have go127 : Go p e below A0 (T39.setTop (mkF m 451 #[.val (.long q0), .second, .val (.int p1), .val (.int p2), .val (.int p3), .val (.ref b1), .val (.int v9), .val (.int v10), .val (.int v11), .val (.int v12), .val (.int v13), .val (.int v14), .val (.ref b12), .val (.long v19), .second, .val (.int v22), .val (.int v24), .val (.int v25), .val (.int v30), .val (.int v35), .val (.int v40), .unset, .unset, .unset, .unset, .unset, .unset, .unset, .unset, .unset, .unset, .unset, .unset, .unset] [(.int (0 : Int32))])) := by
            intro t k
            refine go119 t ?_
            refine o_ifY X39 hx hby at_428 450 rfl (flt hc428_41).2.2.2 ?_
            refine o_iconst X39 hx hby at_450 451 rfl (v := (0 : Int32)) rfl ?_
            exact k
          exact ⟨(0 : Int32), (if_neg hc428_41).symm, go127⟩
      rw [hv43] at go128
      exact ⟨(if (0 : Int32) < v30 then (if (if v11 = (0 : Int32) then (0 : Int32) else (1 : Int32)) < v35 then (0 : Int32) else (1 : Int32)) else (0 : Int32)), (if_pos hc423_40).symm, go128⟩
    · have go129 : Go p e below A0 (T39.setTop (mkF m 451 #[.val (.long q0), .second, .val (.int p1), .val (.int p2), .val (.int p3), .val (.ref b1), .val (.int v9), .val (.int v10), .val (.int v11), .val (.int v12), .val (.int v13), .val (.int v14), .val (.ref b12), .val (.long v19), .second, .val (.int v22), .val (.int v24), .val (.int v25), .val (.int v30), .val (.int v35), .val (.int v40), .unset, .unset, .unset, .unset, .unset, .unset, .unset, .unset, .unset, .unset, .unset, .unset, .unset] [(.int (0 : Int32))])) := by
        intro t k
        refine go118 t ?_
        refine o_ifY X39 hx hby at_423 450 rfl (feq hc423_40).2 ?_
        refine o_iconst X39 hx hby at_450 451 rfl (v := (0 : Int32)) rfl ?_
        exact k
      exact ⟨(0 : Int32), (if_neg hc423_40).symm, go129⟩
  have go131 : Go p e below A0 (T39.setTop (mkF m 453 #[.val (.long q0), .second, .val (.int p1), .val (.int p2), .val (.int p3), .val (.ref b1), .val (.int v9), .val (.int v10), .val (.int v11), .val (.int v12), .val (.int v13), .val (.int v14), .val (.ref b12), .val (.long v19), .second, .val (.int v22), .val (.int v24), .val (.int v25), .val (.int v30), .val (.int v35), .val (.int v40), .val (.int v44), .unset, .unset, .unset, .unset, .unset, .unset, .unset, .unset, .unset, .unset, .unset, .unset] [])) := by
    intro t k
    refine go130 t ?_
    refine o_istore X39 hx hby at_451 453 rfl (l' := #[.val (.long q0), .second, .val (.int p1), .val (.int p2), .val (.int p3), .val (.ref b1), .val (.int v9), .val (.int v10), .val (.int v11), .val (.int v12), .val (.int v13), .val (.int v14), .val (.ref b12), .val (.long v19), .second, .val (.int v22), .val (.int v24), .val (.int v25), .val (.int v30), .val (.int v35), .val (.int v40), .val (.int v44), .unset, .unset, .unset, .unset, .unset, .unset, .unset, .unset, .unset, .unset, .unset, .unset]) rfl ?_
    exact k
  have go132 : Go p e below A0 (T39.setTop (mkF m 456 #[.val (.long q0), .second, .val (.int p1), .val (.int p2), .val (.int p3), .val (.ref b1), .val (.int v9), .val (.int v10), .val (.int v11), .val (.int v12), .val (.int v13), .val (.int v14), .val (.ref b12), .val (.long v19), .second, .val (.int v22), .val (.int v24), .val (.int v25), .val (.int v30), .val (.int v35), .val (.int v40), .val (.int v44), .val (.long (0 : Int64)), .second, .unset, .unset, .unset, .unset, .unset, .unset, .unset, .unset, .unset, .unset] [])) := by
    intro t k
    refine go131 t ?_
    refine o_lconst X39 hx hby at_453 454 rfl (v := (0 : Int64)) rfl ?_
    refine o_lstore X39 hx hby at_454 456 rfl (l' := #[.val (.long q0), .second, .val (.int p1), .val (.int p2), .val (.int p3), .val (.ref b1), .val (.int v9), .val (.int v10), .val (.int v11), .val (.int v12), .val (.int v13), .val (.int v14), .val (.ref b12), .val (.long v19), .second, .val (.int v22), .val (.int v24), .val (.int v25), .val (.int v30), .val (.int v35), .val (.int v40), .val (.int v44), .val (.long (0 : Int64)), .second, .unset, .unset, .unset, .unset, .unset, .unset, .unset, .unset, .unset, .unset]) rfl ?_
    exact k
  have go133 : Go p e below A0 (T39.setTop (mkF m 465 #[.val (.long q0), .second, .val (.int p1), .val (.int p2), .val (.int p3), .val (.ref b1), .val (.int v9), .val (.int v10), .val (.int v11), .val (.int v12), .val (.int v13), .val (.int v14), .val (.ref b12), .val (.long v19), .second, .val (.int v22), .val (.int v24), .val (.int v25), .val (.int v30), .val (.int v35), .val (.int v40), .val (.int v44), .val (.long (0 : Int64)), .second, .unset, .unset, .unset, .unset, .unset, .unset, .unset, .unset, .unset, .unset] [(.int v10), (.int v25), (.int (0 : Int32)), (.ref b1), (.long (0 : Int64))])) := by
    intro t k
    refine go132 t ?_
    refine o_lload X39 hx hby at_456 458 rfl rfl ?_
    refine o_aload X39 hx hby at_458 460 rfl rfl rfl ?_
    refine o_iconst X39 hx hby at_460 461 rfl (v := (0 : Int32)) rfl ?_
    refine o_iload X39 hx hby at_461 463 rfl rfl ?_
    refine o_iload X39 hx hby at_463 465 rfl rfl ?_
    exact k
  obtain ⟨_, _, ⟨T44, L44, k44, n44⟩, -, X44, ⟨Lc44, hQ44, l44, y44, z44⟩, st44⟩ := Jvm.LawKit.callS X39 hx (y := (⟨"com/example/amortine/amortine/cli/DigitsReadPinLaw", "horner", "(J[BIII)J"⟩ : MethodName)) hown (mvT hZ (hw _ (List.mem_of_getElem? (i := 20) rfl))) (mvT hZ (hw _ (List.mem_of_getElem? (i := 21) rfl))) (mvT hZ (hw _ (List.mem_of_getElem? (i := 4) rfl))) (mvT hZ (hw _ (List.mem_of_getElem? (i := 22) rfl))) (by decide) (backOf (W := 0) (rm6 l Z aw hw [] (0 : Int64) b1 (0 : Int32) v25 v10 k1 ((nar .byte v2)) ((nar .byte v4)) ((nar .byte v6)) ((nar .byte v8)) h17 n0 Zp17 (f14) (by decide)) hZ (hw _ (List.mem_of_getElem? (i := 22) rfl)) (hw _ (List.mem_of_getElem? (i := 4) rfl)) (by decide) (by decide)) (g := (mkF m 465 #[.val (.long q0), .second, .val (.int p1), .val (.int p2), .val (.int p3), .val (.ref b1), .val (.int v9), .val (.int v10), .val (.int v11), .val (.int v12), .val (.int v13), .val (.int v14), .val (.ref b12), .val (.long v19), .second, .val (.int v22), .val (.int v24), .val (.int v25), .val (.int v30), .val (.int v35), .val (.int v40), .val (.int v44), .val (.long (0 : Int64)), .second, .unset, .unset, .unset, .unset, .unset, .unset, .unset, .unset, .unset, .unset] [(.int v10), (.int v25), (.int (0 : Int32)), (.ref b1), (.long (0 : Int64))])) rfl (by rw [hml]; rfl) (argsL := [(.long (0 : Int64)), (.ref b1), (.int (0 : Int32)), (.int v25), (.int v10)]) (rest := []) (lenOf pd_6 rfl) rfl (by show 2 * 0 + _ ≤ _; exact Nat.le_of_eq rfl) (hb hby at_465) (fun _ _ => ⟨rfl, e39, (by decide : 2 + 0 ≤ _), (by decide : 8 + 0 ≤ _)⟩)
  dsimp only [Pt.U, Pt.locs, Pt.cells, Pt.slots] at X44 l44 y44 z44 st44 hQ44
  obtain rfl : k44 = 2 := y44
  obtain rfl : n44 = 8 := z44
  obtain ⟨rfl, N44q, e44⟩ := hQ44
  have N44 : Fr n0 L44 := by rw [l44]; exact Fr.app N39 N44q
  have go134 : Go p e below A0 (T44.setTop (mkF m 468 #[.val (.long q0), .second, .val (.int p1), .val (.int p2), .val (.int p3), .val (.ref b1), .val (.int v9), .val (.int v10), .val (.int v11), .val (.int v12), .val (.int v13), .val (.int v14), .val (.ref b12), .val (.long v19), .second, .val (.int v22), .val (.int v24), .val (.int v25), .val (.int v30), .val (.int v35), .val (.int v40), .val (.int v44), .val (.long (0 : Int64)), .second, .unset, .unset, .unset, .unset, .unset, .unset, .unset, .unset, .unset, .unset] [(.long (Fhor (0 : Int64) (0 : Int32) v25 v10 (nar .byte v2) (nar .byte v4) (nar .byte v6) (nar .byte v8)))])) := by
    intro t k
    refine go133 t ?_
    refine st44 _ ?_
    show Steps p.tables e below (T44.setTop (mkF m 468 #[.val (.long q0), .second, .val (.int p1), .val (.int p2), .val (.int p3), .val (.ref b1), .val (.int v9), .val (.int v10), .val (.int v11), .val (.int v12), .val (.int v13), .val (.int v14), .val (.ref b12), .val (.long v19), .second, .val (.int v22), .val (.int v24), .val (.int v25), .val (.int v30), .val (.int v35), .val (.int v40), .val (.int v44), .val (.long (0 : Int64)), .second, .unset, .unset, .unset, .unset, .unset, .unset, .unset, .unset, .unset, .unset] [(.long (Fhor (0 : Int64) (0 : Int32) v25 v10 (nar .byte v2) (nar .byte v4) (nar .byte v6) (nar .byte v8)))])) _
    exact k
  obtain ⟨v45, hv45, go135⟩ : ∃ v45 : Int64, v45 = (Fhor (0 : Int64) (0 : Int32) v25 v10 (nar .byte v2) (nar .byte v4) (nar .byte v6) (nar .byte v8)) ∧ Go p e below A0 (T44.setTop (mkF m 468 #[.val (.long q0), .second, .val (.int p1), .val (.int p2), .val (.int p3), .val (.ref b1), .val (.int v9), .val (.int v10), .val (.int v11), .val (.int v12), .val (.int v13), .val (.int v14), .val (.ref b12), .val (.long v19), .second, .val (.int v22), .val (.int v24), .val (.int v25), .val (.int v30), .val (.int v35), .val (.int v40), .val (.int v44), .val (.long (0 : Int64)), .second, .unset, .unset, .unset, .unset, .unset, .unset, .unset, .unset, .unset, .unset] [(.long v45)])) := ⟨_, rfl, go134⟩
  have go136 : Go p e below A0 (T44.setTop (mkF m 470 #[.val (.long q0), .second, .val (.int p1), .val (.int p2), .val (.int p3), .val (.ref b1), .val (.int v9), .val (.int v10), .val (.int v11), .val (.int v12), .val (.int v13), .val (.int v14), .val (.ref b12), .val (.long v19), .second, .val (.int v22), .val (.int v24), .val (.int v25), .val (.int v30), .val (.int v35), .val (.int v40), .val (.int v44), .val (.long v45), .second, .unset, .unset, .unset, .unset, .unset, .unset, .unset, .unset, .unset, .unset] [])) := by
    intro t k
    refine go135 t ?_
    refine o_lstore X44 hx hby at_468 470 rfl (l' := #[.val (.long q0), .second, .val (.int p1), .val (.int p2), .val (.int p3), .val (.ref b1), .val (.int v9), .val (.int v10), .val (.int v11), .val (.int v12), .val (.int v13), .val (.int v14), .val (.ref b12), .val (.long v19), .second, .val (.int v22), .val (.int v24), .val (.int v25), .val (.int v30), .val (.int v35), .val (.int v40), .val (.int v44), .val (.long v45), .second, .unset, .unset, .unset, .unset, .unset, .unset, .unset, .unset, .unset, .unset]) rfl ?_
    exact k
  have go137 : Go p e below A0 (T44.setTop (mkF m 479 #[.val (.long q0), .second, .val (.int p1), .val (.int p2), .val (.int p3), .val (.ref b1), .val (.int v9), .val (.int v10), .val (.int v11), .val (.int v12), .val (.int v13), .val (.int v14), .val (.ref b12), .val (.long v19), .second, .val (.int v22), .val (.int v24), .val (.int v25), .val (.int v30), .val (.int v35), .val (.int v40), .val (.int v44), .val (.long v45), .second, .unset, .unset, .unset, .unset, .unset, .unset, .unset, .unset, .unset, .unset] [(.int v10), (.int v25), (.int (1 : Int32)), (.ref b1), (.long v45)])) := by
    intro t k
    refine go136 t ?_
    refine o_lload X44 hx hby at_470 472 rfl rfl ?_
    refine o_aload X44 hx hby at_472 474 rfl rfl rfl ?_
    refine o_iconst X44 hx hby at_474 475 rfl (v := (1 : Int32)) rfl ?_
    refine o_iload X44 hx hby at_475 477 rfl rfl ?_
    refine o_iload X44 hx hby at_477 479 rfl rfl ?_
    exact k
  obtain ⟨_, _, ⟨T45, L45, k45, n45⟩, -, X45, ⟨Lc45, hQ45, l45, y45, z45⟩, st45⟩ := Jvm.LawKit.callS X44 hx (y := (⟨"com/example/amortine/amortine/cli/DigitsReadPinLaw", "horner", "(J[BIII)J"⟩ : MethodName)) hown (mvT hZ (hw _ (List.mem_of_getElem? (i := 20) rfl))) (mvT hZ (hw _ (List.mem_of_getElem? (i := 21) rfl))) (mvT hZ (hw _ (List.mem_of_getElem? (i := 4) rfl))) (mvT hZ (hw _ (List.mem_of_getElem? (i := 22) rfl))) (by decide) (backOf (W := 0) (rm6 l Z aw hw [] v45 b1 (1 : Int32) v25 v10 k1 ((nar .byte v2)) ((nar .byte v4)) ((nar .byte v6)) ((nar .byte v8)) h17 n0 Zp17 (f14) (by decide)) hZ (hw _ (List.mem_of_getElem? (i := 22) rfl)) (hw _ (List.mem_of_getElem? (i := 4) rfl)) (by decide) (by decide)) (g := (mkF m 479 #[.val (.long q0), .second, .val (.int p1), .val (.int p2), .val (.int p3), .val (.ref b1), .val (.int v9), .val (.int v10), .val (.int v11), .val (.int v12), .val (.int v13), .val (.int v14), .val (.ref b12), .val (.long v19), .second, .val (.int v22), .val (.int v24), .val (.int v25), .val (.int v30), .val (.int v35), .val (.int v40), .val (.int v44), .val (.long v45), .second, .unset, .unset, .unset, .unset, .unset, .unset, .unset, .unset, .unset, .unset] [(.int v10), (.int v25), (.int (1 : Int32)), (.ref b1), (.long v45)])) rfl (by rw [hml]; rfl) (argsL := [(.long v45), (.ref b1), (.int (1 : Int32)), (.int v25), (.int v10)]) (rest := []) (lenOf pd_6 rfl) rfl (by show 2 * 0 + _ ≤ _; exact Nat.le_of_eq rfl) (hb hby at_479) (fun _ _ => ⟨rfl, e44, (by decide : 2 + 0 ≤ _), (by decide : 8 + 0 ≤ _)⟩)
  dsimp only [Pt.U, Pt.locs, Pt.cells, Pt.slots] at X45 l45 y45 z45 st45 hQ45
  obtain rfl : k45 = 2 := y45
  obtain rfl : n45 = 8 := z45
  obtain ⟨rfl, N45q, e45⟩ := hQ45
  have N45 : Fr n0 L45 := by rw [l45]; exact Fr.app N44 N45q
  have go138 : Go p e below A0 (T45.setTop (mkF m 482 #[.val (.long q0), .second, .val (.int p1), .val (.int p2), .val (.int p3), .val (.ref b1), .val (.int v9), .val (.int v10), .val (.int v11), .val (.int v12), .val (.int v13), .val (.int v14), .val (.ref b12), .val (.long v19), .second, .val (.int v22), .val (.int v24), .val (.int v25), .val (.int v30), .val (.int v35), .val (.int v40), .val (.int v44), .val (.long v45), .second, .unset, .unset, .unset, .unset, .unset, .unset, .unset, .unset, .unset, .unset] [(.long (Fhor v45 (1 : Int32) v25 v10 (nar .byte v2) (nar .byte v4) (nar .byte v6) (nar .byte v8)))])) := by
    intro t k
    refine go137 t ?_
    refine st45 _ ?_
    show Steps p.tables e below (T45.setTop (mkF m 482 #[.val (.long q0), .second, .val (.int p1), .val (.int p2), .val (.int p3), .val (.ref b1), .val (.int v9), .val (.int v10), .val (.int v11), .val (.int v12), .val (.int v13), .val (.int v14), .val (.ref b12), .val (.long v19), .second, .val (.int v22), .val (.int v24), .val (.int v25), .val (.int v30), .val (.int v35), .val (.int v40), .val (.int v44), .val (.long v45), .second, .unset, .unset, .unset, .unset, .unset, .unset, .unset, .unset, .unset, .unset] [(.long (Fhor v45 (1 : Int32) v25 v10 (nar .byte v2) (nar .byte v4) (nar .byte v6) (nar .byte v8)))])) _
    exact k
  obtain ⟨v46, hv46, go139⟩ : ∃ v46 : Int64, v46 = (Fhor v45 (1 : Int32) v25 v10 (nar .byte v2) (nar .byte v4) (nar .byte v6) (nar .byte v8)) ∧ Go p e below A0 (T45.setTop (mkF m 482 #[.val (.long q0), .second, .val (.int p1), .val (.int p2), .val (.int p3), .val (.ref b1), .val (.int v9), .val (.int v10), .val (.int v11), .val (.int v12), .val (.int v13), .val (.int v14), .val (.ref b12), .val (.long v19), .second, .val (.int v22), .val (.int v24), .val (.int v25), .val (.int v30), .val (.int v35), .val (.int v40), .val (.int v44), .val (.long v45), .second, .unset, .unset, .unset, .unset, .unset, .unset, .unset, .unset, .unset, .unset] [(.long v46)])) := ⟨_, rfl, go138⟩
  have go140 : Go p e below A0 (T45.setTop (mkF m 484 #[.val (.long q0), .second, .val (.int p1), .val (.int p2), .val (.int p3), .val (.ref b1), .val (.int v9), .val (.int v10), .val (.int v11), .val (.int v12), .val (.int v13), .val (.int v14), .val (.ref b12), .val (.long v19), .second, .val (.int v22), .val (.int v24), .val (.int v25), .val (.int v30), .val (.int v35), .val (.int v40), .val (.int v44), .val (.long v46), .second, .unset, .unset, .unset, .unset, .unset, .unset, .unset, .unset, .unset, .unset] [])) := by
    intro t k
    refine go139 t ?_
    refine o_lstore X45 hx hby at_482 484 rfl (l' := #[.val (.long q0), .second, .val (.int p1), .val (.int p2), .val (.int p3), .val (.ref b1), .val (.int v9), .val (.int v10), .val (.int v11), .val (.int v12), .val (.int v13), .val (.int v14), .val (.ref b12), .val (.long v19), .second, .val (.int v22), .val (.int v24), .val (.int v25), .val (.int v30), .val (.int v35), .val (.int v40), .val (.int v44), .val (.long v46), .second, .unset, .unset, .unset, .unset, .unset, .unset, .unset, .unset, .unset, .unset]) rfl ?_
    exact k
  have go141 : Go p e below A0 (T45.setTop (mkF m 493 #[.val (.long q0), .second, .val (.int p1), .val (.int p2), .val (.int p3), .val (.ref b1), .val (.int v9), .val (.int v10), .val (.int v11), .val (.int v12), .val (.int v13), .val (.int v14), .val (.ref b12), .val (.long v19), .second, .val (.int v22), .val (.int v24), .val (.int v25), .val (.int v30), .val (.int v35), .val (.int v40), .val (.int v44), .val (.long v46), .second, .unset, .unset, .unset, .unset, .unset, .unset, .unset, .unset, .unset, .unset] [(.int v10), (.int v25), (.int (2 : Int32)), (.ref b1), (.long v46)])) := by
    intro t k
    refine go140 t ?_
    refine o_lload X45 hx hby at_484 486 rfl rfl ?_
    refine o_aload X45 hx hby at_486 488 rfl rfl rfl ?_
    refine o_iconst X45 hx hby at_488 489 rfl (v := (2 : Int32)) rfl ?_
    refine o_iload X45 hx hby at_489 491 rfl rfl ?_
    refine o_iload X45 hx hby at_491 493 rfl rfl ?_
    exact k
  obtain ⟨_, _, ⟨T46, L46, k46, n46⟩, -, X46, ⟨Lc46, hQ46, l46, y46, z46⟩, st46⟩ := Jvm.LawKit.callS X45 hx (y := (⟨"com/example/amortine/amortine/cli/DigitsReadPinLaw", "horner", "(J[BIII)J"⟩ : MethodName)) hown (mvT hZ (hw _ (List.mem_of_getElem? (i := 20) rfl))) (mvT hZ (hw _ (List.mem_of_getElem? (i := 21) rfl))) (mvT hZ (hw _ (List.mem_of_getElem? (i := 4) rfl))) (mvT hZ (hw _ (List.mem_of_getElem? (i := 22) rfl))) (by decide) (backOf (W := 0) (rm6 l Z aw hw [] v46 b1 (2 : Int32) v25 v10 k1 ((nar .byte v2)) ((nar .byte v4)) ((nar .byte v6)) ((nar .byte v8)) h17 n0 Zp17 (f14) (by decide)) hZ (hw _ (List.mem_of_getElem? (i := 22) rfl)) (hw _ (List.mem_of_getElem? (i := 4) rfl)) (by decide) (by decide)) (g := (mkF m 493 #[.val (.long q0), .second, .val (.int p1), .val (.int p2), .val (.int p3), .val (.ref b1), .val (.int v9), .val (.int v10), .val (.int v11), .val (.int v12), .val (.int v13), .val (.int v14), .val (.ref b12), .val (.long v19), .second, .val (.int v22), .val (.int v24), .val (.int v25), .val (.int v30), .val (.int v35), .val (.int v40), .val (.int v44), .val (.long v46), .second, .unset, .unset, .unset, .unset, .unset, .unset, .unset, .unset, .unset, .unset] [(.int v10), (.int v25), (.int (2 : Int32)), (.ref b1), (.long v46)])) rfl (by rw [hml]; rfl) (argsL := [(.long v46), (.ref b1), (.int (2 : Int32)), (.int v25), (.int v10)]) (rest := []) (lenOf pd_6 rfl) rfl (by show 2 * 0 + _ ≤ _; exact Nat.le_of_eq rfl) (hb hby at_493) (fun _ _ => ⟨rfl, e45, (by decide : 2 + 0 ≤ _), (by decide : 8 + 0 ≤ _)⟩)
  dsimp only [Pt.U, Pt.locs, Pt.cells, Pt.slots] at X46 l46 y46 z46 st46 hQ46
  obtain rfl : k46 = 2 := y46
  obtain rfl : n46 = 8 := z46
  obtain ⟨rfl, N46q, e46⟩ := hQ46
  have N46 : Fr n0 L46 := by rw [l46]; exact Fr.app N45 N46q
  have go142 : Go p e below A0 (T46.setTop (mkF m 496 #[.val (.long q0), .second, .val (.int p1), .val (.int p2), .val (.int p3), .val (.ref b1), .val (.int v9), .val (.int v10), .val (.int v11), .val (.int v12), .val (.int v13), .val (.int v14), .val (.ref b12), .val (.long v19), .second, .val (.int v22), .val (.int v24), .val (.int v25), .val (.int v30), .val (.int v35), .val (.int v40), .val (.int v44), .val (.long v46), .second, .unset, .unset, .unset, .unset, .unset, .unset, .unset, .unset, .unset, .unset] [(.long (Fhor v46 (2 : Int32) v25 v10 (nar .byte v2) (nar .byte v4) (nar .byte v6) (nar .byte v8)))])) := by
    intro t k
    refine go141 t ?_
    refine st46 _ ?_
    show Steps p.tables e below (T46.setTop (mkF m 496 #[.val (.long q0), .second, .val (.int p1), .val (.int p2), .val (.int p3), .val (.ref b1), .val (.int v9), .val (.int v10), .val (.int v11), .val (.int v12), .val (.int v13), .val (.int v14), .val (.ref b12), .val (.long v19), .second, .val (.int v22), .val (.int v24), .val (.int v25), .val (.int v30), .val (.int v35), .val (.int v40), .val (.int v44), .val (.long v46), .second, .unset, .unset, .unset, .unset, .unset, .unset, .unset, .unset, .unset, .unset] [(.long (Fhor v46 (2 : Int32) v25 v10 (nar .byte v2) (nar .byte v4) (nar .byte v6) (nar .byte v8)))])) _
    exact k
  obtain ⟨v47, hv47, go143⟩ : ∃ v47 : Int64, v47 = (Fhor v46 (2 : Int32) v25 v10 (nar .byte v2) (nar .byte v4) (nar .byte v6) (nar .byte v8)) ∧ Go p e below A0 (T46.setTop (mkF m 496 #[.val (.long q0), .second, .val (.int p1), .val (.int p2), .val (.int p3), .val (.ref b1), .val (.int v9), .val (.int v10), .val (.int v11), .val (.int v12), .val (.int v13), .val (.int v14), .val (.ref b12), .val (.long v19), .second, .val (.int v22), .val (.int v24), .val (.int v25), .val (.int v30), .val (.int v35), .val (.int v40), .val (.int v44), .val (.long v46), .second, .unset, .unset, .unset, .unset, .unset, .unset, .unset, .unset, .unset, .unset] [(.long v47)])) := ⟨_, rfl, go142⟩
  have go144 : Go p e below A0 (T46.setTop (mkF m 498 #[.val (.long q0), .second, .val (.int p1), .val (.int p2), .val (.int p3), .val (.ref b1), .val (.int v9), .val (.int v10), .val (.int v11), .val (.int v12), .val (.int v13), .val (.int v14), .val (.ref b12), .val (.long v19), .second, .val (.int v22), .val (.int v24), .val (.int v25), .val (.int v30), .val (.int v35), .val (.int v40), .val (.int v44), .val (.long v47), .second, .unset, .unset, .unset, .unset, .unset, .unset, .unset, .unset, .unset, .unset] [])) := by
    intro t k
    refine go143 t ?_
    refine o_lstore X46 hx hby at_496 498 rfl (l' := #[.val (.long q0), .second, .val (.int p1), .val (.int p2), .val (.int p3), .val (.ref b1), .val (.int v9), .val (.int v10), .val (.int v11), .val (.int v12), .val (.int v13), .val (.int v14), .val (.ref b12), .val (.long v19), .second, .val (.int v22), .val (.int v24), .val (.int v25), .val (.int v30), .val (.int v35), .val (.int v40), .val (.int v44), .val (.long v47), .second, .unset, .unset, .unset, .unset, .unset, .unset, .unset, .unset, .unset, .unset]) rfl ?_
    exact k
  have go145 : Go p e below A0 (T46.setTop (mkF m 507 #[.val (.long q0), .second, .val (.int p1), .val (.int p2), .val (.int p3), .val (.ref b1), .val (.int v9), .val (.int v10), .val (.int v11), .val (.int v12), .val (.int v13), .val (.int v14), .val (.ref b12), .val (.long v19), .second, .val (.int v22), .val (.int v24), .val (.int v25), .val (.int v30), .val (.int v35), .val (.int v40), .val (.int v44), .val (.long v47), .second, .unset, .unset, .unset, .unset, .unset, .unset, .unset, .unset, .unset, .unset] [(.int v10), (.int v25), (.int (3 : Int32)), (.ref b1), (.long v47)])) := by
    intro t k
    refine go144 t ?_
    refine o_lload X46 hx hby at_498 500 rfl rfl ?_
    refine o_aload X46 hx hby at_500 502 rfl rfl rfl ?_
    refine o_iconst X46 hx hby at_502 503 rfl (v := (3 : Int32)) rfl ?_
    refine o_iload X46 hx hby at_503 505 rfl rfl ?_
    refine o_iload X46 hx hby at_505 507 rfl rfl ?_
    exact k
  obtain ⟨_, _, ⟨T47, L47, k47, n47⟩, -, X47, ⟨Lc47, hQ47, l47, y47, z47⟩, st47⟩ := Jvm.LawKit.callS X46 hx (y := (⟨"com/example/amortine/amortine/cli/DigitsReadPinLaw", "horner", "(J[BIII)J"⟩ : MethodName)) hown (mvT hZ (hw _ (List.mem_of_getElem? (i := 20) rfl))) (mvT hZ (hw _ (List.mem_of_getElem? (i := 21) rfl))) (mvT hZ (hw _ (List.mem_of_getElem? (i := 4) rfl))) (mvT hZ (hw _ (List.mem_of_getElem? (i := 22) rfl))) (by decide) (backOf (W := 0) (rm6 l Z aw hw [] v47 b1 (3 : Int32) v25 v10 k1 ((nar .byte v2)) ((nar .byte v4)) ((nar .byte v6)) ((nar .byte v8)) h17 n0 Zp17 (f14) (by decide)) hZ (hw _ (List.mem_of_getElem? (i := 22) rfl)) (hw _ (List.mem_of_getElem? (i := 4) rfl)) (by decide) (by decide)) (g := (mkF m 507 #[.val (.long q0), .second, .val (.int p1), .val (.int p2), .val (.int p3), .val (.ref b1), .val (.int v9), .val (.int v10), .val (.int v11), .val (.int v12), .val (.int v13), .val (.int v14), .val (.ref b12), .val (.long v19), .second, .val (.int v22), .val (.int v24), .val (.int v25), .val (.int v30), .val (.int v35), .val (.int v40), .val (.int v44), .val (.long v47), .second, .unset, .unset, .unset, .unset, .unset, .unset, .unset, .unset, .unset, .unset] [(.int v10), (.int v25), (.int (3 : Int32)), (.ref b1), (.long v47)])) rfl (by rw [hml]; rfl) (argsL := [(.long v47), (.ref b1), (.int (3 : Int32)), (.int v25), (.int v10)]) (rest := []) (lenOf pd_6 rfl) rfl (by show 2 * 0 + _ ≤ _; exact Nat.le_of_eq rfl) (hb hby at_507) (fun _ _ => ⟨rfl, e46, (by decide : 2 + 0 ≤ _), (by decide : 8 + 0 ≤ _)⟩)
  dsimp only [Pt.U, Pt.locs, Pt.cells, Pt.slots] at X47 l47 y47 z47 st47 hQ47
  obtain rfl : k47 = 2 := y47
  obtain rfl : n47 = 8 := z47
  obtain ⟨rfl, N47q, e47⟩ := hQ47
  have N47 : Fr n0 L47 := by rw [l47]; exact Fr.app N46 N47q
  have go146 : Go p e below A0 (T47.setTop (mkF m 510 #[.val (.long q0), .second, .val (.int p1), .val (.int p2), .val (.int p3), .val (.ref b1), .val (.int v9), .val (.int v10), .val (.int v11), .val (.int v12), .val (.int v13), .val (.int v14), .val (.ref b12), .val (.long v19), .second, .val (.int v22), .val (.int v24), .val (.int v25), .val (.int v30), .val (.int v35), .val (.int v40), .val (.int v44), .val (.long v47), .second, .unset, .unset, .unset, .unset, .unset, .unset, .unset, .unset, .unset, .unset] [(.long (Fhor v47 (3 : Int32) v25 v10 (nar .byte v2) (nar .byte v4) (nar .byte v6) (nar .byte v8)))])) := by
    intro t k
    refine go145 t ?_
    refine st47 _ ?_
    show Steps p.tables e below (T47.setTop (mkF m 510 #[.val (.long q0), .second, .val (.int p1), .val (.int p2), .val (.int p3), .val (.ref b1), .val (.int v9), .val (.int v10), .val (.int v11), .val (.int v12), .val (.int v13), .val (.int v14), .val (.ref b12), .val (.long v19), .second, .val (.int v22), .val (.int v24), .val (.int v25), .val (.int v30), .val (.int v35), .val (.int v40), .val (.int v44), .val (.long v47), .second, .unset, .unset, .unset, .unset, .unset, .unset, .unset, .unset, .unset, .unset] [(.long (Fhor v47 (3 : Int32) v25 v10 (nar .byte v2) (nar .byte v4) (nar .byte v6) (nar .byte v8)))])) _
    exact k
  obtain ⟨v48, hv48, go147⟩ : ∃ v48 : Int64, v48 = (Fhor v47 (3 : Int32) v25 v10 (nar .byte v2) (nar .byte v4) (nar .byte v6) (nar .byte v8)) ∧ Go p e below A0 (T47.setTop (mkF m 510 #[.val (.long q0), .second, .val (.int p1), .val (.int p2), .val (.int p3), .val (.ref b1), .val (.int v9), .val (.int v10), .val (.int v11), .val (.int v12), .val (.int v13), .val (.int v14), .val (.ref b12), .val (.long v19), .second, .val (.int v22), .val (.int v24), .val (.int v25), .val (.int v30), .val (.int v35), .val (.int v40), .val (.int v44), .val (.long v47), .second, .unset, .unset, .unset, .unset, .unset, .unset, .unset, .unset, .unset, .unset] [(.long v48)])) := ⟨_, rfl, go146⟩
  have go148 : Go p e below A0 (T47.setTop (mkF m 512 #[.val (.long q0), .second, .val (.int p1), .val (.int p2), .val (.int p3), .val (.ref b1), .val (.int v9), .val (.int v10), .val (.int v11), .val (.int v12), .val (.int v13), .val (.int v14), .val (.ref b12), .val (.long v19), .second, .val (.int v22), .val (.int v24), .val (.int v25), .val (.int v30), .val (.int v35), .val (.int v40), .val (.int v44), .val (.long v48), .second, .unset, .unset, .unset, .unset, .unset, .unset, .unset, .unset, .unset, .unset] [])) := by
    intro t k
    refine go147 t ?_
    refine o_lstore X47 hx hby at_510 512 rfl (l' := #[.val (.long q0), .second, .val (.int p1), .val (.int p2), .val (.int p3), .val (.ref b1), .val (.int v9), .val (.int v10), .val (.int v11), .val (.int v12), .val (.int v13), .val (.int v14), .val (.ref b12), .val (.long v19), .second, .val (.int v22), .val (.int v24), .val (.int v25), .val (.int v30), .val (.int v35), .val (.int v40), .val (.int v44), .val (.long v48), .second, .unset, .unset, .unset, .unset, .unset, .unset, .unset, .unset, .unset, .unset]) rfl ?_
    exact k
  have go149 : Go p e below A0 (T47.setTop (mkF m 514 #[.val (.long q0), .second, .val (.int p1), .val (.int p2), .val (.int p3), .val (.ref b1), .val (.int v9), .val (.int v10), .val (.int v11), .val (.int v12), .val (.int v13), .val (.int v14), .val (.ref b12), .val (.long v19), .second, .val (.int v22), .val (.int v24), .val (.int v25), .val (.int v30), .val (.int v35), .val (.int v40), .val (.int v44), .val (.long v48), .second, .unset, .unset, .unset, .unset, .unset, .unset, .unset, .unset, .unset, .unset] [(.int v24)])) := by
    intro t k
    refine go148 t ?_
    refine o_iload X47 hx hby at_512 514 rfl rfl ?_
    exact k
  obtain ⟨v49, hv49, go152⟩ : ∃ (v49 : Int64), v49 = (if v24 = (0 : Int32) then v48 else (-v48)) ∧ Go p e below A0 (T47.setTop (mkF m 525 #[.val (.long q0), .second, .val (.int p1), .val (.int p2), .val (.int p3), .val (.ref b1), .val (.int v9), .val (.int v10), .val (.int v11), .val (.int v12), .val (.int v13), .val (.int v14), .val (.ref b12), .val (.long v19), .second, .val (.int v22), .val (.int v24), .val (.int v25), .val (.int v30), .val (.int v35), .val (.int v40), .val (.int v44), .val (.long v48), .second, .unset, .unset, .unset, .unset, .unset, .unset, .unset, .unset, .unset, .unset] [(.long v49)])) := by
    by_cases hc514_48 : v24 = (0 : Int32)
    · have go150 : Go p e below A0 (T47.setTop (mkF m 525 #[.val (.long q0), .second, .val (.int p1), .val (.int p2), .val (.int p3), .val (.ref b1), .val (.int v9), .val (.int v10), .val (.int v11), .val (.int v12), .val (.int v13), .val (.int v14), .val (.ref b12), .val (.long v19), .second, .val (.int v22), .val (.int v24), .val (.int v25), .val (.int v30), .val (.int v35), .val (.int v40), .val (.int v44), .val (.long v48), .second, .unset, .unset, .unset, .unset, .unset, .unset, .unset, .unset, .unset, .unset] [(.long v48)])) := by
        intro t k
        refine go149 t ?_
        refine o_ifY X47 hx hby at_514 523 rfl (teq hc514_48).1 ?_
        refine o_lload X47 hx hby at_523 525 rfl rfl ?_
        exact k
      exact ⟨v48, (if_pos hc514_48).symm, go150⟩
    · have go151 : Go p e below A0 (T47.setTop (mkF m 525 #[.val (.long q0), .second, .val (.int p1), .val (.int p2), .val (.int p3), .val (.ref b1), .val (.int v9), .val (.int v10), .val (.int v11), .val (.int v12), .val (.int v13), .val (.int v14), .val (.ref b12), .val (.long v19), .second, .val (.int v22), .val (.int v24), .val (.int v25), .val (.int v30), .val (.int v35), .val (.int v40), .val (.int v44), .val (.long v48), .second, .unset, .unset, .unset, .unset, .unset, .unset, .unset, .unset, .unset, .unset] [(.long (-v48))])) := by
        intro t k
        refine go149 t ?_
        refine o_ifN X47 hx hby at_514 517 rfl (feq hc514_48).1 ?_
        refine o_lload X47 hx hby at_517 519 rfl rfl ?_
        refine o_lneg X47 hx hby at_519 520 rfl ?_
        refine o_goto X47 hx hby at_520 525 rfl ?_
        exact k
      exact ⟨(-v48), (if_neg hc514_48).symm, go151⟩
  have go153 : Go p e below A0 (T47.setTop (mkF m 527 #[.val (.long q0), .second, .val (.int p1), .val (.int p2), .val (.int p3), .val (.ref b1), .val (.int v9), .val (.int v10), .val (.int v11), .val (.int v12), .val (.int v13), .val (.int v14), .val (.ref b12), .val (.long v19), .second, .val (.int v22), .val (.int v24), .val (.int v25), .val (.int v30), .val (.int v35), .val (.int v40), .val (.int v44), .val (.long v48), .second, .val (.long v49), .second, .unset, .unset, .unset, .unset, .unset, .unset, .unset, .unset] [])) := by
    intro t k
    refine go152 t ?_
    refine o_lstore X47 hx hby at_525 527 rfl (l' := #[.val (.long q0), .second, .val (.int p1), .val (.int p2), .val (.int p3), .val (.ref b1), .val (.int v9), .val (.int v10), .val (.int v11), .val (.int v12), .val (.int v13), .val (.int v14), .val (.ref b12), .val (.long v19), .second, .val (.int v22), .val (.int v24), .val (.int v25), .val (.int v30), .val (.int v35), .val (.int v40), .val (.int v44), .val (.long v48), .second, .val (.long v49), .second, .unset, .unset, .unset, .unset, .unset, .unset, .unset, .unset]) rfl ?_
    exact k
  have go154 : Go p e below A0 (T47.setTop (mkF m 534 #[.val (.long q0), .second, .val (.int p1), .val (.int p2), .val (.int p3), .val (.ref b1), .val (.int v9), .val (.int v10), .val (.int v11), .val (.int v12), .val (.int v13), .val (.int v14), .val (.ref b12), .val (.long v19), .second, .val (.int v22), .val (.int v24), .val (.int v25), .val (.int v30), .val (.int v35), .val (.int v40), .val (.int v44), .val (.long v48), .second, .val (.long v49), .second, .unset, .unset, .unset, .unset, .unset, .unset, .unset, .unset] [(.int v10), (.int v25), (.int (1 : Int32)), (.ref b1)])) := by
    intro t k
    refine go153 t ?_
    refine o_aload X47 hx hby at_527 529 rfl rfl rfl ?_
    refine o_iconst X47 hx hby at_529 530 rfl (v := (1 : Int32)) rfl ?_
    refine o_iload X47 hx hby at_530 532 rfl rfl ?_
    refine o_iload X47 hx hby at_532 534 rfl rfl ?_
    exact k
  obtain ⟨_, _, ⟨T49, L49, k49, n49⟩, -, X49, ⟨Lc49, hQ49, l49, y49, z49⟩, st49⟩ := Jvm.LawKit.callS X47 hx (y := (⟨"com/example/amortine/amortine/cli/DigitsReadPinLaw", "digitAt", "([BIII)I"⟩ : MethodName)) hown (mvT hZ (hw _ (List.mem_of_getElem? (i := 8) rfl))) (mvT hZ (hw _ (List.mem_of_getElem? (i := 9) rfl))) (mvT hZ (hw _ (List.mem_of_getElem? (i := 4) rfl))) (mvT hZ (hw _ (List.mem_of_getElem? (i := 10) rfl))) (by decide) (backOf (W := 0) (rm2 l Z aw hw [] b1 (1 : Int32) v25 v10 k1 ((nar .byte v2)) ((nar .byte v4)) ((nar .byte v6)) ((nar .byte v8)) h17 n0 Zp17 (f14) (by decide)) hZ (hw _ (List.mem_of_getElem? (i := 10) rfl)) (hw _ (List.mem_of_getElem? (i := 4) rfl)) (by decide) (by decide)) (g := (mkF m 534 #[.val (.long q0), .second, .val (.int p1), .val (.int p2), .val (.int p3), .val (.ref b1), .val (.int v9), .val (.int v10), .val (.int v11), .val (.int v12), .val (.int v13), .val (.int v14), .val (.ref b12), .val (.long v19), .second, .val (.int v22), .val (.int v24), .val (.int v25), .val (.int v30), .val (.int v35), .val (.int v40), .val (.int v44), .val (.long v48), .second, .val (.long v49), .second, .unset, .unset, .unset, .unset, .unset, .unset, .unset, .unset] [(.int v10), (.int v25), (.int (1 : Int32)), (.ref b1)])) rfl (by rw [hml]; rfl) (argsL := [(.ref b1), (.int (1 : Int32)), (.int v25), (.int v10)]) (rest := []) (lenOf pd_3 rfl) rfl (by show 2 * 0 + _ ≤ _; exact Nat.le_of_eq rfl) (hb hby at_534) (fun _ _ => ⟨rfl, e47, (by decide : 2 + 0 ≤ _), (by decide : 8 + 0 ≤ _)⟩)
  dsimp only [Pt.U, Pt.locs, Pt.cells, Pt.slots] at X49 l49 y49 z49 st49 hQ49
  obtain rfl : k49 = 2 := y49
  obtain rfl : n49 = 8 := z49
  obtain ⟨rfl, N49q, e49⟩ := hQ49
  have N49 : Fr n0 L49 := by rw [l49]; exact Fr.app N47 N49q
  have go155 : Go p e below A0 (T49.setTop (mkF m 537 #[.val (.long q0), .second, .val (.int p1), .val (.int p2), .val (.int p3), .val (.ref b1), .val (.int v9), .val (.int v10), .val (.int v11), .val (.int v12), .val (.int v13), .val (.int v14), .val (.ref b12), .val (.long v19), .second, .val (.int v22), .val (.int v24), .val (.int v25), .val (.int v30), .val (.int v35), .val (.int v40), .val (.int v44), .val (.long v48), .second, .val (.long v49), .second, .unset, .unset, .unset, .unset, .unset, .unset, .unset, .unset] [(.int (Fdig (1 : Int32) v25 v10 (nar .byte v2) (nar .byte v4) (nar .byte v6) (nar .byte v8)))])) := by
    intro t k
    refine go154 t ?_
    refine st49 _ ?_
    show Steps p.tables e below (T49.setTop (mkF m 537 #[.val (.long q0), .second, .val (.int p1), .val (.int p2), .val (.int p3), .val (.ref b1), .val (.int v9), .val (.int v10), .val (.int v11), .val (.int v12), .val (.int v13), .val (.int v14), .val (.ref b12), .val (.long v19), .second, .val (.int v22), .val (.int v24), .val (.int v25), .val (.int v30), .val (.int v35), .val (.int v40), .val (.int v44), .val (.long v48), .second, .val (.long v49), .second, .unset, .unset, .unset, .unset, .unset, .unset, .unset, .unset] [(.int (Fdig (1 : Int32) v25 v10 (nar .byte v2) (nar .byte v4) (nar .byte v6) (nar .byte v8)))])) _
    exact k
  obtain ⟨v50, hv50, go156⟩ : ∃ v50 : Int32, v50 = (Fdig (1 : Int32) v25 v10 (nar .byte v2) (nar .byte v4) (nar .byte v6) (nar .byte v8)) ∧ Go p e below A0 (T49.setTop (mkF m 537 #[.val (.long q0), .second, .val (.int p1), .val (.int p2), .val (.int p3), .val (.ref b1), .val (.int v9), .val (.int v10), .val (.int v11), .val (.int v12), .val (.int v13), .val (.int v14), .val (.ref b12), .val (.long v19), .second, .val (.int v22), .val (.int v24), .val (.int v25), .val (.int v30), .val (.int v35), .val (.int v40), .val (.int v44), .val (.long v48), .second, .val (.long v49), .second, .unset, .unset, .unset, .unset, .unset, .unset, .unset, .unset] [(.int v50)])) := ⟨_, rfl, go155⟩
  have go157 : Go p e below A0 (T49.setTop (mkF m 544 #[.val (.long q0), .second, .val (.int p1), .val (.int p2), .val (.int p3), .val (.ref b1), .val (.int v9), .val (.int v10), .val (.int v11), .val (.int v12), .val (.int v13), .val (.int v14), .val (.ref b12), .val (.long v19), .second, .val (.int v22), .val (.int v24), .val (.int v25), .val (.int v30), .val (.int v35), .val (.int v40), .val (.int v44), .val (.long v48), .second, .val (.long v49), .second, .unset, .unset, .unset, .unset, .unset, .unset, .unset, .unset] [(.int v10), (.int v25), (.int (1 : Int32)), (.ref b1), (.int v50)])) := by
    intro t k
    refine go156 t ?_
    refine o_aload X49 hx hby at_537 539 rfl rfl rfl ?_
    refine o_iconst X49 hx hby at_539 540 rfl (v := (1 : Int32)) rfl ?_
    refine o_iload X49 hx hby at_540 542 rfl rfl ?_
    refine o_iload X49 hx hby at_542 544 rfl rfl ?_
    exact k
  obtain ⟨_, _, ⟨T50, L50, k50, n50⟩, -, X50, ⟨Lc50, hQ50, l50, y50, z50⟩, st50⟩ := Jvm.LawKit.callS X49 hx (y := (⟨"com/example/amortine/amortine/cli/DigitsReadPinLaw", "dotsBefore", "([BIII)I"⟩ : MethodName)) hown (mvT hZ (hw _ (List.mem_of_getElem? (i := 23) rfl))) (mvT hZ (hw _ (List.mem_of_getElem? (i := 24) rfl))) (mvT hZ (hw _ (List.mem_of_getElem? (i := 4) rfl))) (mvT hZ (hw _ (List.mem_of_getElem? (i := 25) rfl))) (by decide) (backOf (W := 1) (rm7 l Z aw hw [] b1 (1 : Int32) v25 v10 k1 ((nar .byte v2)) ((nar .byte v4)) ((nar .byte v6)) ((nar .byte v8)) h17 n0 Zp17 (f14)) hZ (hw _ (List.mem_of_getElem? (i := 25) rfl)) (hw _ (List.mem_of_getElem? (i := 4) rfl)) (by decide) (by decide)) (g := (mkF m 544 #[.val (.long q0), .second, .val (.int p1), .val (.int p2), .val (.int p3), .val (.ref b1), .val (.int v9), .val (.int v10), .val (.int v11), .val (.int v12), .val (.int v13), .val (.int v14), .val (.ref b12), .val (.long v19), .second, .val (.int v22), .val (.int v24), .val (.int v25), .val (.int v30), .val (.int v35), .val (.int v40), .val (.int v44), .val (.long v48), .second, .val (.long v49), .second, .unset, .unset, .unset, .unset, .unset, .unset, .unset, .unset] [(.int v10), (.int v25), (.int (1 : Int32)), (.ref b1), (.int v50)])) rfl (by rw [hml]; rfl) (argsL := [(.ref b1), (.int (1 : Int32)), (.int v25), (.int v10)]) (rest := [(.int v50)]) (lenOf pd_3 rfl) rfl (by show 2 * 0 + _ ≤ _; exact Nat.le_of_eq rfl) (hb hby at_544) (fun _ _ => ⟨rfl, e49, (by decide : 2 + 0 ≤ _), (by decide : 8 + 0 ≤ _)⟩)
  dsimp only [Pt.U, Pt.locs, Pt.cells, Pt.slots] at X50 l50 y50 z50 st50 hQ50
  obtain rfl : k50 = 2 := y50
  obtain rfl : n50 = 8 := z50
  obtain ⟨rfl, N50q, e50⟩ := hQ50
  have N50 : Fr n0 L50 := by rw [l50]; exact Fr.app N49 N50q
  have go158 : Go p e below A0 (T50.setTop (mkF m 547 #[.val (.long q0), .second, .val (.int p1), .val (.int p2), .val (.int p3), .val (.ref b1), .val (.int v9), .val (.int v10), .val (.int v11), .val (.int v12), .val (.int v13), .val (.int v14), .val (.ref b12), .val (.long v19), .second, .val (.int v22), .val (.int v24), .val (.int v25), .val (.int v30), .val (.int v35), .val (.int v40), .val (.int v44), .val (.long v48), .second, .val (.long v49), .second, .unset, .unset, .unset, .unset, .unset, .unset, .unset, .unset] [(.int (Fdb (1 : Int32) v25 v10 (nar .byte v2) (nar .byte v4) (nar .byte v6) (nar .byte v8))), (.int v50)])) := by
    intro t k
    refine go157 t ?_
    refine st50 _ ?_
    show Steps p.tables e below (T50.setTop (mkF m 547 #[.val (.long q0), .second, .val (.int p1), .val (.int p2), .val (.int p3), .val (.ref b1), .val (.int v9), .val (.int v10), .val (.int v11), .val (.int v12), .val (.int v13), .val (.int v14), .val (.ref b12), .val (.long v19), .second, .val (.int v22), .val (.int v24), .val (.int v25), .val (.int v30), .val (.int v35), .val (.int v40), .val (.int v44), .val (.long v48), .second, .val (.long v49), .second, .unset, .unset, .unset, .unset, .unset, .unset, .unset, .unset] [(.int (Fdb (1 : Int32) v25 v10 (nar .byte v2) (nar .byte v4) (nar .byte v6) (nar .byte v8))), (.int v50)])) _
    exact k
  obtain ⟨v51, hv51, go159⟩ : ∃ v51 : Int32, v51 = (Fdb (1 : Int32) v25 v10 (nar .byte v2) (nar .byte v4) (nar .byte v6) (nar .byte v8)) ∧ Go p e below A0 (T50.setTop (mkF m 547 #[.val (.long q0), .second, .val (.int p1), .val (.int p2), .val (.int p3), .val (.ref b1), .val (.int v9), .val (.int v10), .val (.int v11), .val (.int v12), .val (.int v13), .val (.int v14), .val (.ref b12), .val (.long v19), .second, .val (.int v22), .val (.int v24), .val (.int v25), .val (.int v30), .val (.int v35), .val (.int v40), .val (.int v44), .val (.long v48), .second, .val (.long v49), .second, .unset, .unset, .unset, .unset, .unset, .unset, .unset, .unset] [(.int v51), (.int v50)])) := ⟨_, rfl, go158⟩
  have go160 : Go p e below A0 (T50.setTop (mkF m 555 #[.val (.long q0), .second, .val (.int p1), .val (.int p2), .val (.int p3), .val (.ref b1), .val (.int v9), .val (.int v10), .val (.int v11), .val (.int v12), .val (.int v13), .val (.int v14), .val (.ref b12), .val (.long v19), .second, .val (.int v22), .val (.int v24), .val (.int v25), .val (.int v30), .val (.int v35), .val (.int v40), .val (.int v44), .val (.long v48), .second, .val (.long v49), .second, .unset, .unset, .unset, .unset, .unset, .unset, .unset, .unset] [(.int v10), (.int v25), (.int (2 : Int32)), (.ref b1), (.int (v50 * v51))])) := by
    intro t k
    refine go159 t ?_
    refine o_imul X50 hx hby at_547 548 rfl ?_
    refine o_aload X50 hx hby at_548 550 rfl rfl rfl ?_
    refine o_iconst X50 hx hby at_550 551 rfl (v := (2 : Int32)) rfl ?_
    refine o_iload X50 hx hby at_551 553 rfl rfl ?_
    refine o_iload X50 hx hby at_553 555 rfl rfl ?_
    exact k
  obtain ⟨_, _, ⟨T51, L51, k51, n51⟩, -, X51, ⟨Lc51, hQ51, l51, y51, z51⟩, st51⟩ := Jvm.LawKit.callS X50 hx (y := (⟨"com/example/amortine/amortine/cli/DigitsReadPinLaw", "digitAt", "([BIII)I"⟩ : MethodName)) hown (mvT hZ (hw _ (List.mem_of_getElem? (i := 8) rfl))) (mvT hZ (hw _ (List.mem_of_getElem? (i := 9) rfl))) (mvT hZ (hw _ (List.mem_of_getElem? (i := 4) rfl))) (mvT hZ (hw _ (List.mem_of_getElem? (i := 10) rfl))) (by decide) (backOf (W := 1) (rm2 l Z aw hw [] b1 (2 : Int32) v25 v10 k1 ((nar .byte v2)) ((nar .byte v4)) ((nar .byte v6)) ((nar .byte v8)) h17 n0 Zp17 (f14) (by decide)) hZ (hw _ (List.mem_of_getElem? (i := 10) rfl)) (hw _ (List.mem_of_getElem? (i := 4) rfl)) (by decide) (by decide)) (g := (mkF m 555 #[.val (.long q0), .second, .val (.int p1), .val (.int p2), .val (.int p3), .val (.ref b1), .val (.int v9), .val (.int v10), .val (.int v11), .val (.int v12), .val (.int v13), .val (.int v14), .val (.ref b12), .val (.long v19), .second, .val (.int v22), .val (.int v24), .val (.int v25), .val (.int v30), .val (.int v35), .val (.int v40), .val (.int v44), .val (.long v48), .second, .val (.long v49), .second, .unset, .unset, .unset, .unset, .unset, .unset, .unset, .unset] [(.int v10), (.int v25), (.int (2 : Int32)), (.ref b1), (.int (v50 * v51))])) rfl (by rw [hml]; rfl) (argsL := [(.ref b1), (.int (2 : Int32)), (.int v25), (.int v10)]) (rest := [(.int (v50 * v51))]) (lenOf pd_3 rfl) rfl (by show 2 * 0 + _ ≤ _; exact Nat.le_of_eq rfl) (hb hby at_555) (fun _ _ => ⟨rfl, e50, (by decide : 2 + 0 ≤ _), (by decide : 8 + 0 ≤ _)⟩)
  dsimp only [Pt.U, Pt.locs, Pt.cells, Pt.slots] at X51 l51 y51 z51 st51 hQ51
  obtain rfl : k51 = 2 := y51
  obtain rfl : n51 = 8 := z51
  obtain ⟨rfl, N51q, e51⟩ := hQ51
  have N51 : Fr n0 L51 := by rw [l51]; exact Fr.app N50 N51q
  have go161 : Go p e below A0 (T51.setTop (mkF m 558 #[.val (.long q0), .second, .val (.int p1), .val (.int p2), .val (.int p3), .val (.ref b1), .val (.int v9), .val (.int v10), .val (.int v11), .val (.int v12), .val (.int v13), .val (.int v14), .val (.ref b12), .val (.long v19), .second, .val (.int v22), .val (.int v24), .val (.int v25), .val (.int v30), .val (.int v35), .val (.int v40), .val (.int v44), .val (.long v48), .second, .val (.long v49), .second, .unset, .unset, .unset, .unset, .unset, .unset, .unset, .unset] [(.int (Fdig (2 : Int32) v25 v10 (nar .byte v2) (nar .byte v4) (nar .byte v6) (nar .byte v8))), (.int (v50 * v51))])) := by
    intro t k
    refine go160 t ?_
    refine st51 _ ?_
    show Steps p.tables e below (T51.setTop (mkF m 558 #[.val (.long q0), .second, .val (.int p1), .val (.int p2), .val (.int p3), .val (.ref b1), .val (.int v9), .val (.int v10), .val (.int v11), .val (.int v12), .val (.int v13), .val (.int v14), .val (.ref b12), .val (.long v19), .second, .val (.int v22), .val (.int v24), .val (.int v25), .val (.int v30), .val (.int v35), .val (.int v40), .val (.int v44), .val (.long v48), .second, .val (.long v49), .second, .unset, .unset, .unset, .unset, .unset, .unset, .unset, .unset] [(.int (Fdig (2 : Int32) v25 v10 (nar .byte v2) (nar .byte v4) (nar .byte v6) (nar .byte v8))), (.int (v50 * v51))])) _
    exact k
  obtain ⟨v52, hv52, go162⟩ : ∃ v52 : Int32, v52 = (Fdig (2 : Int32) v25 v10 (nar .byte v2) (nar .byte v4) (nar .byte v6) (nar .byte v8)) ∧ Go p e below A0 (T51.setTop (mkF m 558 #[.val (.long q0), .second, .val (.int p1), .val (.int p2), .val (.int p3), .val (.ref b1), .val (.int v9), .val (.int v10), .val (.int v11), .val (.int v12), .val (.int v13), .val (.int v14), .val (.ref b12), .val (.long v19), .second, .val (.int v22), .val (.int v24), .val (.int v25), .val (.int v30), .val (.int v35), .val (.int v40), .val (.int v44), .val (.long v48), .second, .val (.long v49), .second, .unset, .unset, .unset, .unset, .unset, .unset, .unset, .unset] [(.int v52), (.int (v50 * v51))])) := ⟨_, rfl, go161⟩
  have go163 : Go p e below A0 (T51.setTop (mkF m 565 #[.val (.long q0), .second, .val (.int p1), .val (.int p2), .val (.int p3), .val (.ref b1), .val (.int v9), .val (.int v10), .val (.int v11), .val (.int v12), .val (.int v13), .val (.int v14), .val (.ref b12), .val (.long v19), .second, .val (.int v22), .val (.int v24), .val (.int v25), .val (.int v30), .val (.int v35), .val (.int v40), .val (.int v44), .val (.long v48), .second, .val (.long v49), .second, .unset, .unset, .unset, .unset, .unset, .unset, .unset, .unset] [(.int v10), (.int v25), (.int (2 : Int32)), (.ref b1), (.int v52), (.int (v50 * v51))])) := by
    intro t k
    refine go162 t ?_
    refine o_aload X51 hx hby at_558 560 rfl rfl rfl ?_
    refine o_iconst X51 hx hby at_560 561 rfl (v := (2 : Int32)) rfl ?_
    refine o_iload X51 hx hby at_561 563 rfl rfl ?_
    refine o_iload X51 hx hby at_563 565 rfl rfl ?_
    exact k
  obtain ⟨_, _, ⟨T52, L52, k52, n52⟩, -, X52, ⟨Lc52, hQ52, l52, y52, z52⟩, st52⟩ := Jvm.LawKit.callS X51 hx (y := (⟨"com/example/amortine/amortine/cli/DigitsReadPinLaw", "dotsBefore", "([BIII)I"⟩ : MethodName)) hown (mvT hZ (hw _ (List.mem_of_getElem? (i := 23) rfl))) (mvT hZ (hw _ (List.mem_of_getElem? (i := 24) rfl))) (mvT hZ (hw _ (List.mem_of_getElem? (i := 4) rfl))) (mvT hZ (hw _ (List.mem_of_getElem? (i := 25) rfl))) (by decide) (backOf (W := 2) (rm7 l Z aw hw [] b1 (2 : Int32) v25 v10 k1 ((nar .byte v2)) ((nar .byte v4)) ((nar .byte v6)) ((nar .byte v8)) h17 n0 Zp17 (f14)) hZ (hw _ (List.mem_of_getElem? (i := 25) rfl)) (hw _ (List.mem_of_getElem? (i := 4) rfl)) (by decide) (by decide)) (g := (mkF m 565 #[.val (.long q0), .second, .val (.int p1), .val (.int p2), .val (.int p3), .val (.ref b1), .val (.int v9), .val (.int v10), .val (.int v11), .val (.int v12), .val (.int v13), .val (.int v14), .val (.ref b12), .val (.long v19), .second, .val (.int v22), .val (.int v24), .val (.int v25), .val (.int v30), .val (.int v35), .val (.int v40), .val (.int v44), .val (.long v48), .second, .val (.long v49), .second, .unset, .unset, .unset, .unset, .unset, .unset, .unset, .unset] [(.int v10), (.int v25), (.int (2 : Int32)), (.ref b1), (.int v52), (.int (v50 * v51))])) rfl (by rw [hml]; rfl) (argsL := [(.ref b1), (.int (2 : Int32)), (.int v25), (.int v10)]) (rest := [(.int v52), (.int (v50 * v51))]) (lenOf pd_3 rfl) rfl (by show 2 * 0 + _ ≤ _; exact Nat.le_of_eq rfl) (hb hby at_565) (fun _ _ => ⟨rfl, e51, (by decide : 2 + 0 ≤ _), (by decide : 8 + 0 ≤ _)⟩)
  dsimp only [Pt.U, Pt.locs, Pt.cells, Pt.slots] at X52 l52 y52 z52 st52 hQ52
  obtain rfl : k52 = 2 := y52
  obtain rfl : n52 = 8 := z52
  obtain ⟨rfl, N52q, e52⟩ := hQ52
  have N52 : Fr n0 L52 := by rw [l52]; exact Fr.app N51 N52q
  have go164 : Go p e below A0 (T52.setTop (mkF m 568 #[.val (.long q0), .second, .val (.int p1), .val (.int p2), .val (.int p3), .val (.ref b1), .val (.int v9), .val (.int v10), .val (.int v11), .val (.int v12), .val (.int v13), .val (.int v14), .val (.ref b12), .val (.long v19), .second, .val (.int v22), .val (.int v24), .val (.int v25), .val (.int v30), .val (.int v35), .val (.int v40), .val (.int v44), .val (.long v48), .second, .val (.long v49), .second, .unset, .unset, .unset, .unset, .unset, .unset, .unset, .unset] [(.int (Fdb (2 : Int32) v25 v10 (nar .byte v2) (nar .byte v4) (nar .byte v6) (nar .byte v8))), (.int v52), (.int (v50 * v51))])) := by
    intro t k
    refine go163 t ?_
    refine st52 _ ?_
    show Steps p.tables e below (T52.setTop (mkF m 568 #[.val (.long q0), .second, .val (.int p1), .val (.int p2), .val (.int p3), .val (.ref b1), .val (.int v9), .val (.int v10), .val (.int v11), .val (.int v12), .val (.int v13), .val (.int v14), .val (.ref b12), .val (.long v19), .second, .val (.int v22), .val (.int v24), .val (.int v25), .val (.int v30), .val (.int v35), .val (.int v40), .val (.int v44), .val (.long v48), .second, .val (.long v49), .second, .unset, .unset, .unset, .unset, .unset, .unset, .unset, .unset] [(.int (Fdb (2 : Int32) v25 v10 (nar .byte v2) (nar .byte v4) (nar .byte v6) (nar .byte v8))), (.int v52), (.int (v50 * v51))])) _
    exact k
  obtain ⟨v53, hv53, go165⟩ : ∃ v53 : Int32, v53 = (Fdb (2 : Int32) v25 v10 (nar .byte v2) (nar .byte v4) (nar .byte v6) (nar .byte v8)) ∧ Go p e below A0 (T52.setTop (mkF m 568 #[.val (.long q0), .second, .val (.int p1), .val (.int p2), .val (.int p3), .val (.ref b1), .val (.int v9), .val (.int v10), .val (.int v11), .val (.int v12), .val (.int v13), .val (.int v14), .val (.ref b12), .val (.long v19), .second, .val (.int v22), .val (.int v24), .val (.int v25), .val (.int v30), .val (.int v35), .val (.int v40), .val (.int v44), .val (.long v48), .second, .val (.long v49), .second, .unset, .unset, .unset, .unset, .unset, .unset, .unset, .unset] [(.int v53), (.int v52), (.int (v50 * v51))])) := ⟨_, rfl, go164⟩
  have go166 : Go p e below A0 (T52.setTop (mkF m 577 #[.val (.long q0), .second, .val (.int p1), .val (.int p2), .val (.int p3), .val (.ref b1), .val (.int v9), .val (.int v10), .val (.int v11), .val (.int v12), .val (.int v13), .val (.int v14), .val (.ref b12), .val (.long v19), .second, .val (.int v22), .val (.int v24), .val (.int v25), .val (.int v30), .val (.int v35), .val (.int v40), .val (.int v44), .val (.long v48), .second, .val (.long v49), .second, .unset, .unset, .unset, .unset, .unset, .unset, .unset, .unset] [(.int v10), (.int v25), (.int (3 : Int32)), (.ref b1), (.int ((v50 * v51) + (v52 * v53)))])) := by
    intro t k
    refine go165 t ?_
    refine o_imul X52 hx hby at_568 569 rfl ?_
    refine o_iadd X52 hx hby at_569 570 rfl ?_
    refine o_aload X52 hx hby at_570 572 rfl rfl rfl ?_
    refine o_iconst X52 hx hby at_572 573 rfl (v := (3 : Int32)) rfl ?_
    refine o_iload X52 hx hby at_573 575 rfl rfl ?_
    refine o_iload X52 hx hby at_575 577 rfl rfl ?_
    exact k
  obtain ⟨_, _, ⟨T53, L53, k53, n53⟩, -, X53, ⟨Lc53, hQ53, l53, y53, z53⟩, st53⟩ := Jvm.LawKit.callS X52 hx (y := (⟨"com/example/amortine/amortine/cli/DigitsReadPinLaw", "digitAt", "([BIII)I"⟩ : MethodName)) hown (mvT hZ (hw _ (List.mem_of_getElem? (i := 8) rfl))) (mvT hZ (hw _ (List.mem_of_getElem? (i := 9) rfl))) (mvT hZ (hw _ (List.mem_of_getElem? (i := 4) rfl))) (mvT hZ (hw _ (List.mem_of_getElem? (i := 10) rfl))) (by decide) (backOf (W := 1) (rm2 l Z aw hw [] b1 (3 : Int32) v25 v10 k1 ((nar .byte v2)) ((nar .byte v4)) ((nar .byte v6)) ((nar .byte v8)) h17 n0 Zp17 (f14) (by decide)) hZ (hw _ (List.mem_of_getElem? (i := 10) rfl)) (hw _ (List.mem_of_getElem? (i := 4) rfl)) (by decide) (by decide)) (g := (mkF m 577 #[.val (.long q0), .second, .val (.int p1), .val (.int p2), .val (.int p3), .val (.ref b1), .val (.int v9), .val (.int v10), .val (.int v11), .val (.int v12), .val (.int v13), .val (.int v14), .val (.ref b12), .val (.long v19), .second, .val (.int v22), .val (.int v24), .val (.int v25), .val (.int v30), .val (.int v35), .val (.int v40), .val (.int v44), .val (.long v48), .second, .val (.long v49), .second, .unset, .unset, .unset, .unset, .unset, .unset, .unset, .unset] [(.int v10), (.int v25), (.int (3 : Int32)), (.ref b1), (.int ((v50 * v51) + (v52 * v53)))])) rfl (by rw [hml]; rfl) (argsL := [(.ref b1), (.int (3 : Int32)), (.int v25), (.int v10)]) (rest := [(.int ((v50 * v51) + (v52 * v53)))]) (lenOf pd_3 rfl) rfl (by show 2 * 0 + _ ≤ _; exact Nat.le_of_eq rfl) (hb hby at_577) (fun _ _ => ⟨rfl, e52, (by decide : 2 + 0 ≤ _), (by decide : 8 + 0 ≤ _)⟩)
  dsimp only [Pt.U, Pt.locs, Pt.cells, Pt.slots] at X53 l53 y53 z53 st53 hQ53
  obtain rfl : k53 = 2 := y53
  obtain rfl : n53 = 8 := z53
  obtain ⟨rfl, N53q, e53⟩ := hQ53
  have N53 : Fr n0 L53 := by rw [l53]; exact Fr.app N52 N53q
  have go167 : Go p e below A0 (T53.setTop (mkF m 580 #[.val (.long q0), .second, .val (.int p1), .val (.int p2), .val (.int p3), .val (.ref b1), .val (.int v9), .val (.int v10), .val (.int v11), .val (.int v12), .val (.int v13), .val (.int v14), .val (.ref b12), .val (.long v19), .second, .val (.int v22), .val (.int v24), .val (.int v25), .val (.int v30), .val (.int v35), .val (.int v40), .val (.int v44), .val (.long v48), .second, .val (.long v49), .second, .unset, .unset, .unset, .unset, .unset, .unset, .unset, .unset] [(.int (Fdig (3 : Int32) v25 v10 (nar .byte v2) (nar .byte v4) (nar .byte v6) (nar .byte v8))), (.int ((v50 * v51) + (v52 * v53)))])) := by
    intro t k
    refine go166 t ?_
    refine st53 _ ?_
    show Steps p.tables e below (T53.setTop (mkF m 580 #[.val (.long q0), .second, .val (.int p1), .val (.int p2), .val (.int p3), .val (.ref b1), .val (.int v9), .val (.int v10), .val (.int v11), .val (.int v12), .val (.int v13), .val (.int v14), .val (.ref b12), .val (.long v19), .second, .val (.int v22), .val (.int v24), .val (.int v25), .val (.int v30), .val (.int v35), .val (.int v40), .val (.int v44), .val (.long v48), .second, .val (.long v49), .second, .unset, .unset, .unset, .unset, .unset, .unset, .unset, .unset] [(.int (Fdig (3 : Int32) v25 v10 (nar .byte v2) (nar .byte v4) (nar .byte v6) (nar .byte v8))), (.int ((v50 * v51) + (v52 * v53)))])) _
    exact k
  obtain ⟨v54, hv54, go168⟩ : ∃ v54 : Int32, v54 = (Fdig (3 : Int32) v25 v10 (nar .byte v2) (nar .byte v4) (nar .byte v6) (nar .byte v8)) ∧ Go p e below A0 (T53.setTop (mkF m 580 #[.val (.long q0), .second, .val (.int p1), .val (.int p2), .val (.int p3), .val (.ref b1), .val (.int v9), .val (.int v10), .val (.int v11), .val (.int v12), .val (.int v13), .val (.int v14), .val (.ref b12), .val (.long v19), .second, .val (.int v22), .val (.int v24), .val (.int v25), .val (.int v30), .val (.int v35), .val (.int v40), .val (.int v44), .val (.long v48), .second, .val (.long v49), .second, .unset, .unset, .unset, .unset, .unset, .unset, .unset, .unset] [(.int v54), (.int ((v50 * v51) + (v52 * v53)))])) := ⟨_, rfl, go167⟩
  have go169 : Go p e below A0 (T53.setTop (mkF m 587 #[.val (.long q0), .second, .val (.int p1), .val (.int p2), .val (.int p3), .val (.ref b1), .val (.int v9), .val (.int v10), .val (.int v11), .val (.int v12), .val (.int v13), .val (.int v14), .val (.ref b12), .val (.long v19), .second, .val (.int v22), .val (.int v24), .val (.int v25), .val (.int v30), .val (.int v35), .val (.int v40), .val (.int v44), .val (.long v48), .second, .val (.long v49), .second, .unset, .unset, .unset, .unset, .unset, .unset, .unset, .unset] [(.int v10), (.int v25), (.int (3 : Int32)), (.ref b1), (.int v54), (.int ((v50 * v51) + (v52 * v53)))])) := by
    intro t k
    refine go168 t ?_
    refine o_aload X53 hx hby at_580 582 rfl rfl rfl ?_
    refine o_iconst X53 hx hby at_582 583 rfl (v := (3 : Int32)) rfl ?_
    refine o_iload X53 hx hby at_583 585 rfl rfl ?_
    refine o_iload X53 hx hby at_585 587 rfl rfl ?_
    exact k
  obtain ⟨_, _, ⟨T54, L54, k54, n54⟩, -, X54, ⟨Lc54, hQ54, l54, y54, z54⟩, st54⟩ := Jvm.LawKit.callS X53 hx (y := (⟨"com/example/amortine/amortine/cli/DigitsReadPinLaw", "dotsBefore", "([BIII)I"⟩ : MethodName)) hown (mvT hZ (hw _ (List.mem_of_getElem? (i := 23) rfl))) (mvT hZ (hw _ (List.mem_of_getElem? (i := 24) rfl))) (mvT hZ (hw _ (List.mem_of_getElem? (i := 4) rfl))) (mvT hZ (hw _ (List.mem_of_getElem? (i := 25) rfl))) (by decide) (backOf (W := 2) (rm7 l Z aw hw [] b1 (3 : Int32) v25 v10 k1 ((nar .byte v2)) ((nar .byte v4)) ((nar .byte v6)) ((nar .byte v8)) h17 n0 Zp17 (f14)) hZ (hw _ (List.mem_of_getElem? (i := 25) rfl)) (hw _ (List.mem_of_getElem? (i := 4) rfl)) (by decide) (by decide)) (g := (mkF m 587 #[.val (.long q0), .second, .val (.int p1), .val (.int p2), .val (.int p3), .val (.ref b1), .val (.int v9), .val (.int v10), .val (.int v11), .val (.int v12), .val (.int v13), .val (.int v14), .val (.ref b12), .val (.long v19), .second, .val (.int v22), .val (.int v24), .val (.int v25), .val (.int v30), .val (.int v35), .val (.int v40), .val (.int v44), .val (.long v48), .second, .val (.long v49), .second, .unset, .unset, .unset, .unset, .unset, .unset, .unset, .unset] [(.int v10), (.int v25), (.int (3 : Int32)), (.ref b1), (.int v54), (.int ((v50 * v51) + (v52 * v53)))])) rfl (by rw [hml]; rfl) (argsL := [(.ref b1), (.int (3 : Int32)), (.int v25), (.int v10)]) (rest := [(.int v54), (.int ((v50 * v51) + (v52 * v53)))]) (lenOf pd_3 rfl) rfl (by show 2 * 0 + _ ≤ _; exact Nat.le_of_eq rfl) (hb hby at_587) (fun _ _ => ⟨rfl, e53, (by decide : 2 + 0 ≤ _), (by decide : 8 + 0 ≤ _)⟩)
  dsimp only [Pt.U, Pt.locs, Pt.cells, Pt.slots] at X54 l54 y54 z54 st54 hQ54
  obtain rfl : k54 = 2 := y54
  obtain rfl : n54 = 8 := z54
  obtain ⟨rfl, N54q, e54⟩ := hQ54
  have N54 : Fr n0 L54 := by rw [l54]; exact Fr.app N53 N54q
  have go170 : Go p e below A0 (T54.setTop (mkF m 590 #[.val (.long q0), .second, .val (.int p1), .val (.int p2), .val (.int p3), .val (.ref b1), .val (.int v9), .val (.int v10), .val (.int v11), .val (.int v12), .val (.int v13), .val (.int v14), .val (.ref b12), .val (.long v19), .second, .val (.int v22), .val (.int v24), .val (.int v25), .val (.int v30), .val (.int v35), .val (.int v40), .val (.int v44), .val (.long v48), .second, .val (.long v49), .second, .unset, .unset, .unset, .unset, .unset, .unset, .unset, .unset] [(.int (Fdb (3 : Int32) v25 v10 (nar .byte v2) (nar .byte v4) (nar .byte v6) (nar .byte v8))), (.int v54), (.int ((v50 * v51) + (v52 * v53)))])) := by
    intro t k
    refine go169 t ?_
    refine st54 _ ?_
    show Steps p.tables e below (T54.setTop (mkF m 590 #[.val (.long q0), .second, .val (.int p1), .val (.int p2), .val (.int p3), .val (.ref b1), .val (.int v9), .val (.int v10), .val (.int v11), .val (.int v12), .val (.int v13), .val (.int v14), .val (.ref b12), .val (.long v19), .second, .val (.int v22), .val (.int v24), .val (.int v25), .val (.int v30), .val (.int v35), .val (.int v40), .val (.int v44), .val (.long v48), .second, .val (.long v49), .second, .unset, .unset, .unset, .unset, .unset, .unset, .unset, .unset] [(.int (Fdb (3 : Int32) v25 v10 (nar .byte v2) (nar .byte v4) (nar .byte v6) (nar .byte v8))), (.int v54), (.int ((v50 * v51) + (v52 * v53)))])) _
    exact k
  obtain ⟨v55, hv55, go171⟩ : ∃ v55 : Int32, v55 = (Fdb (3 : Int32) v25 v10 (nar .byte v2) (nar .byte v4) (nar .byte v6) (nar .byte v8)) ∧ Go p e below A0 (T54.setTop (mkF m 590 #[.val (.long q0), .second, .val (.int p1), .val (.int p2), .val (.int p3), .val (.ref b1), .val (.int v9), .val (.int v10), .val (.int v11), .val (.int v12), .val (.int v13), .val (.int v14), .val (.ref b12), .val (.long v19), .second, .val (.int v22), .val (.int v24), .val (.int v25), .val (.int v30), .val (.int v35), .val (.int v40), .val (.int v44), .val (.long v48), .second, .val (.long v49), .second, .unset, .unset, .unset, .unset, .unset, .unset, .unset, .unset] [(.int v55), (.int v54), (.int ((v50 * v51) + (v52 * v53)))])) := ⟨_, rfl, go170⟩
  have go172 : Go p e below A0 (T54.setTop (mkF m 594 #[.val (.long q0), .second, .val (.int p1), .val (.int p2), .val (.int p3), .val (.ref b1), .val (.int v9), .val (.int v10), .val (.int v11), .val (.int v12), .val (.int v13), .val (.int v14), .val (.ref b12), .val (.long v19), .second, .val (.int v22), .val (.int v24), .val (.int v25), .val (.int v30), .val (.int v35), .val (.int v40), .val (.int v44), .val (.long v48), .second, .val (.long v49), .second, .val (.int (((v50 * v51) + (v52 * v53)) + (v54 * v55))), .unset, .unset, .unset, .unset, .unset, .unset, .unset] [])) := by
    intro t k
    refine go171 t ?_
    refine o_imul X54 hx hby at_590 591 rfl ?_
    refine o_iadd X54 hx hby at_591 592 rfl ?_
    refine o_istore X54 hx hby at_592 594 rfl (l' := #[.val (.long q0), .second, .val (.int p1), .val (.int p2), .val (.int p3), .val (.ref b1), .val (.int v9), .val (.int v10), .val (.int v11), .val (.int v12), .val (.int v13), .val (.int v14), .val (.ref b12), .val (.long v19), .second, .val (.int v22), .val (.int v24), .val (.int v25), .val (.int v30), .val (.int v35), .val (.int v40), .val (.int v44), .val (.long v48), .second, .val (.long v49), .second, .val (.int (((v50 * v51) + (v52 * v53)) + (v54 * v55))), .unset, .unset, .unset, .unset, .unset, .unset, .unset]) rfl ?_
    exact k
  obtain ⟨v56, hv56, go173⟩ : ∃ v56 : Int32, v56 = (((v50 * v51) + (v52 * v53)) + (v54 * v55)) ∧ Go p e below A0 (T54.setTop (mkF m 594 #[.val (.long q0), .second, .val (.int p1), .val (.int p2), .val (.int p3), .val (.ref b1), .val (.int v9), .val (.int v10), .val (.int v11), .val (.int v12), .val (.int v13), .val (.int v14), .val (.ref b12), .val (.long v19), .second, .val (.int v22), .val (.int v24), .val (.int v25), .val (.int v30), .val (.int v35), .val (.int v40), .val (.int v44), .val (.long v48), .second, .val (.long v49), .second, .val (.int v56), .unset, .unset, .unset, .unset, .unset, .unset, .unset] [])) := ⟨_, rfl, go172⟩
  obtain ⟨T55, h55, X55, e55, E55, A55, D55, -, st55⟩ := newO X54 hx hZ hown (hw _ (List.mem_of_getElem? (i := 26) rfl)) (hw _ (List.mem_of_getElem? (i := 27) rfl)) (hw _ (List.mem_of_getElem? (i := 28) rfl)) e54 (g := (mkF m 594 #[.val (.long q0), .second, .val (.int p1), .val (.int p2), .val (.int p3), .val (.ref b1), .val (.int v9), .val (.int v10), .val (.int v11), .val (.int v12), .val (.int v13), .val (.int v14), .val (.ref b12), .val (.long v19), .second, .val (.int v22), .val (.int v24), .val (.int v25), .val (.int v30), .val (.int v35), .val (.int v40), .val (.int v44), .val (.long v48), .second, .val (.long v49), .second, .val (.int v56), .unset, .unset, .unset, .unset, .unset, .unset, .unset] [])) rfl (hb hby at_594) (by decide) (by decide)
  obtain ⟨b55, g55⟩ : ∃ z, z = h17.size := ⟨_, rfl⟩
  rw [← g55] at A55 D55 st55
  have ne_b1_b55 : b1 ≠ b55 := Nat.ne_of_lt (Nat.lt_of_lt_of_le f14.lt (Nat.le_of_eq g55.symm))
  have ne_b12_b55 : b12 ≠ b55 := Nat.ne_of_lt (Nat.lt_of_lt_of_le f15.lt (Nat.le_of_eq g55.symm))
  have g_b55 : n0 ≤ b55 := Nat.le_trans Zp17 (Nat.le_of_eq g55.symm)
  have f16 : Arv Z h55 b1 k1 .byte (4 : Int32) [(.int (nar .byte v2)), (.int (nar .byte v4)), (.int (nar .byte v6)), (.int (nar .byte v8))] (.int (0 : Int32)) := f14.ext E55
  have f17 : Arv Z h55 b12 k12 .byte (4 : Int32) [(.int (nar .byte v16)), (.int (nar .byte v17)), (.int (nar .byte (46 : Int32))), (.int (nar .byte v18))] (.int (0 : Int32)) := f15.ext E55
  have Zp55 : n0 ≤ h55.size := Nat.le_trans Zp17 E55.1
  have f18 : Exa Z h55 b55 "com/example/amortine/amortine/cli/Options$Digits" := A55
  have f19 : Fld Z h55 b55 "com/example/amortine/amortine/cli/Options$Digits" "digits" "J" (.long (0 : Int64)) := D55 (Or.inl (hw _ (List.mem_of_getElem? (i := 42) rfl))) (ty := .long) (by decide)
  have f20 : Fld Z h55 b55 "com/example/amortine/amortine/cli/Options$Digits" "decimals" "I" (.int (0 : Int32)) := D55 (Or.inl (hw _ (List.mem_of_getElem? (i := 44) rfl))) (ty := .int) (by decide)
  obtain ⟨_, _, ⟨T56, L56, k56, n56⟩, -, X56, ⟨Lc56, hQ56, l56, y56, z56⟩, st56⟩ := X55.specialBack hx (y := (⟨"com/example/amortine/amortine/cli/Options$Digits", "<init>", "()V"⟩ : MethodName)) rfl hown (mvT hZ (hw _ (List.mem_of_getElem? (i := 29) rfl))) (mvT hZ (hw _ (List.mem_of_getElem? (i := 30) rfl))) (mvT hZ (hw _ (List.mem_of_getElem? (i := 31) rfl))) (by decide) (backOf (W := 1) (rm8 l Z aw hw [] b55 h55 n0 Zp55 (f18)) hZ (hw _ (List.mem_of_getElem? (i := 31) rfl)) (hw _ (List.mem_of_getElem? (i := 28) rfl)) (by decide) (by decide)) (g := (mkF m 598 #[.val (.long q0), .second, .val (.int p1), .val (.int p2), .val (.int p3), .val (.ref b1), .val (.int v9), .val (.int v10), .val (.int v11), .val (.int v12), .val (.int v13), .val (.int v14), .val (.ref b12), .val (.long v19), .second, .val (.int v22), .val (.int v24), .val (.int v25), .val (.int v30), .val (.int v35), .val (.int v40), .val (.int v44), .val (.long v48), .second, .val (.long v49), .second, .val (.int v56), .unset, .unset, .unset, .unset, .unset, .unset, .unset] [(.ref b55), (.ref b55)])) rfl (by rw [hml]; rfl) (Steps.refl _) (a := b55) (argsL := []) (rest := [(.ref b55)]) (lenOf pd_7 rfl) rfl (by show 2 * 0 + _ ≤ _; exact Nat.le_of_eq rfl) (hb hby at_598) (fun _ _ => ⟨rfl, e55, (by decide : 3 + 0 ≤ _), (by decide : 10 + 0 ≤ _)⟩)
  dsimp only [Pt.U, Pt.locs, Pt.cells, Pt.slots] at X56 l56 y56 z56 st56 hQ56
  obtain rfl : k56 = 3 := y56
  obtain rfl : n56 = 10 := z56
  obtain ⟨rfl, N56q, e56⟩ := hQ56
  have N56 : Fr n0 L56 := by rw [l56]; exact Fr.app N54 N56q
  have go174 : Go p e below A0 (T56.setTop (mkF m 610 #[.val (.long q0), .second, .val (.int p1), .val (.int p2), .val (.int p3), .val (.ref b1), .val (.int v9), .val (.int v10), .val (.int v11), .val (.int v12), .val (.int v13), .val (.int v14), .val (.ref b12), .val (.long v19), .second, .val (.int v22), .val (.int v24), .val (.int v25), .val (.int v30), .val (.int v35), .val (.int v40), .val (.int v44), .val (.long v48), .second, .val (.long v49), .second, .val (.int v56), .val (.ref b55), .unset, .unset, .unset, .unset, .unset, .unset] [(.int (1 : Int32)), (.int (4 : Int32)), (.int (0 : Int32)), (.ref b12), (.ref b55)])) := by
    intro t k
    refine go173 t ?_
    refine st55 _ ?_
    show Steps p.tables e below (T55.setTop (mkF m 597 #[.val (.long q0), .second, .val (.int p1), .val (.int p2), .val (.int p3), .val (.ref b1), .val (.int v9), .val (.int v10), .val (.int v11), .val (.int v12), .val (.int v13), .val (.int v14), .val (.ref b12), .val (.long v19), .second, .val (.int v22), .val (.int v24), .val (.int v25), .val (.int v30), .val (.int v35), .val (.int v40), .val (.int v44), .val (.long v48), .second, .val (.long v49), .second, .val (.int v56), .unset, .unset, .unset, .unset, .unset, .unset, .unset] [(.ref b55)])) _
    refine o_dup X55 hx hby at_597 598 rfl rfl ?_
    refine st56.trans ?_
    show Steps p.tables e below (T56.setTop (mkF m 601 #[.val (.long q0), .second, .val (.int p1), .val (.int p2), .val (.int p3), .val (.ref b1), .val (.int v9), .val (.int v10), .val (.int v11), .val (.int v12), .val (.int v13), .val (.int v14), .val (.ref b12), .val (.long v19), .second, .val (.int v22), .val (.int v24), .val (.int v25), .val (.int v30), .val (.int v35), .val (.int v40), .val (.int v44), .val (.long v48), .second, .val (.long v49), .second, .val (.int v56), .unset, .unset, .unset, .unset, .unset, .unset, .unset] [(.ref b55)])) _
    refine o_astore X56 hx hby at_601 603 rfl rfl (l' := #[.val (.long q0), .second, .val (.int p1), .val (.int p2), .val (.int p3), .val (.ref b1), .val (.int v9), .val (.int v10), .val (.int v11), .val (.int v12), .val (.int v13), .val (.int v14), .val (.ref b12), .val (.long v19), .second, .val (.int v22), .val (.int v24), .val (.int v25), .val (.int v30), .val (.int v35), .val (.int v40), .val (.int v44), .val (.long v48), .second, .val (.long v49), .second, .val (.int v56), .val (.ref b55), .unset, .unset, .unset, .unset, .unset, .unset]) rfl ?_
    refine o_aload X56 hx hby at_603 605 rfl rfl rfl ?_
    refine o_aload X56 hx hby at_605 607 rfl rfl rfl ?_
    refine o_iconst X56 hx hby at_607 608 rfl (v := (0 : Int32)) rfl ?_
    refine o_iconst X56 hx hby at_608 609 rfl (v := (4 : Int32)) rfl ?_
    refine o_iconst X56 hx hby at_609 610 rfl (v := (1 : Int32)) rfl ?_
    exact k
  obtain ⟨cq57, kq57, q57a, q57b, q57c⟩ := isOf hZ e56 f18
  obtain ⟨_, _, ⟨T57, L57, k57, n57⟩, -, X57, ⟨Lc57, hQ57, l57, y57, z57⟩, st57⟩ := X56.virtualBack hx (y := (⟨"com/example/amortine/amortine/cli/Options$Digits", "read", "([BIIZ)Z"⟩ : MethodName)) (z := (⟨"com/example/amortine/amortine/cli/Options$Digits", "read", "([BIIZ)Z"⟩ : MethodName)) hown (mvT hZ (hw _ (List.mem_of_getElem? (i := 35) rfl))) (mvT hZ (hw _ (List.mem_of_getElem? (i := 36) rfl))) (notFace_of_selects (args := #[]) (mvT hZ (hw _ (List.mem_of_getElem? (i := 38) rfl)))) (mvT hZ (hw _ (List.mem_of_getElem? (i := 38) rfl))) (mvT hZ (hw _ (List.mem_of_getElem? (i := 37) rfl))) (by decide) (backOf (W := 0) (rm10 l Z aw hw [] b55 b12 (0 : Int32) (4 : Int32) (1 : Int32) k12 ((nar .byte v16)) ((nar .byte v17)) ((nar .byte (46 : Int32))) ((nar .byte v18)) (0 : Int64) (0 : Int32) h55 n0 Zp55 (f18) (g_b55) (f19) (f20) (f17) ((Ne.symm ne_b12_b55)) (by decide) (by decide)) hZ (hw _ (List.mem_of_getElem? (i := 39) rfl)) (hw _ (List.mem_of_getElem? (i := 28) rfl)) (by decide) (by decide)) q57a q57c (g := (mkF m 610 #[.val (.long q0), .second, .val (.int p1), .val (.int p2), .val (.int p3), .val (.ref b1), .val (.int v9), .val (.int v10), .val (.int v11), .val (.int v12), .val (.int v13), .val (.int v14), .val (.ref b12), .val (.long v19), .second, .val (.int v22), .val (.int v24), .val (.int v25), .val (.int v30), .val (.int v35), .val (.int v40), .val (.int v44), .val (.long v48), .second, .val (.long v49), .second, .val (.int v56), .val (.ref b55), .unset, .unset, .unset, .unset, .unset, .unset] [(.int (1 : Int32)), (.int (4 : Int32)), (.int (0 : Int32)), (.ref b12), (.ref b55)])) rfl (by rw [hml]; rfl) (Steps.refl _) (argsL := [(.ref b12), (.int (0 : Int32)), (.int (4 : Int32)), (.int (1 : Int32))]) (rest := []) (lenOf pd_8 rfl) rfl (by show 2 * 0 + _ ≤ _; exact Nat.le_of_eq rfl) (hb hby at_610) (fun _ _ => ⟨rfl, e56, (by decide : 3 + 0 ≤ _), (by decide : 10 + 0 ≤ _)⟩)
  dsimp only [Pt.U, Pt.locs, Pt.cells, Pt.slots] at X57 l57 y57 z57 st57 hQ57
  obtain rfl : k57 = 3 := y57
  obtain rfl : n57 = 10 := z57
  obtain ⟨r57_r, r57_dg, r57_dc, rfl, N57q, K57q, qf57_0, qf57_1, qf57_2, -⟩ := hQ57
  have f21 : Arv Z T57.heap b1 k1 .byte (4 : Int32) [(.int (nar .byte v2)), (.int (nar .byte v4)), (.int (nar .byte v6)), (.int (nar .byte v8))] (.int (0 : Int32)) := f16.keep K57q (ninS ne_b1_b55 nin0)
  have f22 : Arv Z T57.heap b12 k12 .byte (4 : Int32) [(.int (nar .byte v16)), (.int (nar .byte v17)), (.int (nar .byte (46 : Int32))), (.int (nar .byte v18))] (.int (0 : Int32)) := f17.keep K57q (ninS ne_b12_b55 nin0)
  have f23 : Exa Z T57.heap b55 "com/example/amortine/amortine/cli/Options$Digits" := f18.keep K57q
  have Zp57 : n0 ≤ T57.heap.size := Nat.le_trans Zp55 K57q.1
  have f24 : Fld Z T57.heap b55 "com/example/amortine/amortine/cli/Options$Digits" "digits" "J" (.long r57_dg) := qf57_0
  have f25 : Fld Z T57.heap b55 "com/example/amortine/amortine/cli/Options$Digits" "decimals" "I" (.int r57_dc) := qf57_1
  have N57 : Fr n0 L57 := by rw [l57]; exact Fr.app N56 N57q
  have go175 : Go p e below A0 (T57.setTop (mkF m 613 #[.val (.long q0), .second, .val (.int p1), .val (.int p2), .val (.int p3), .val (.ref b1), .val (.int v9), .val (.int v10), .val (.int v11), .val (.int v12), .val (.int v13), .val (.int v14), .val (.ref b12), .val (.long v19), .second, .val (.int v22), .val (.int v24), .val (.int v25), .val (.int v30), .val (.int v35), .val (.int v40), .val (.int v44), .val (.long v48), .second, .val (.long v49), .second, .val (.int v56), .val (.ref b55), .unset, .unset, .unset, .unset, .unset, .unset] [(.int r57_r)])) := by
    intro t k
    refine go174 t ?_
    refine st57.trans ?_
    show Steps p.tables e below (T57.setTop (mkF m 613 #[.val (.long q0), .second, .val (.int p1), .val (.int p2), .val (.int p3), .val (.ref b1), .val (.int v9), .val (.int v10), .val (.int v11), .val (.int v12), .val (.int v13), .val (.int v14), .val (.ref b12), .val (.long v19), .second, .val (.int v22), .val (.int v24), .val (.int v25), .val (.int v30), .val (.int v35), .val (.int v40), .val (.int v44), .val (.long v48), .second, .val (.long v49), .second, .val (.int v56), .val (.ref b55), .unset, .unset, .unset, .unset, .unset, .unset] [(.int r57_r)])) _
    exact k
  have go176 : Go p e below A0 (T57.setTop (mkF m 615 #[.val (.long q0), .second, .val (.int p1), .val (.int p2), .val (.int p3), .val (.ref b1), .val (.int v9), .val (.int v10), .val (.int v11), .val (.int v12), .val (.int v13), .val (.int v14), .val (.ref b12), .val (.long v19), .second, .val (.int v22), .val (.int v24), .val (.int v25), .val (.int v30), .val (.int v35), .val (.int v40), .val (.int v44), .val (.long v48), .second, .val (.long v49), .second, .val (.int v56), .val (.ref b55), .val (.int r57_r), .unset, .unset, .unset, .unset, .unset] [])) := by
    intro t k
    refine go175 t ?_
    refine o_istore X57 hx hby at_613 615 rfl (l' := #[.val (.long q0), .second, .val (.int p1), .val (.int p2), .val (.int p3), .val (.ref b1), .val (.int v9), .val (.int v10), .val (.int v11), .val (.int v12), .val (.int v13), .val (.int v14), .val (.ref b12), .val (.long v19), .second, .val (.int v22), .val (.int v24), .val (.int v25), .val (.int v30), .val (.int v35), .val (.int v40), .val (.int v44), .val (.long v48), .second, .val (.long v49), .second, .val (.int v56), .val (.ref b55), .val (.int r57_r), .unset, .unset, .unset, .unset, .unset]) rfl ?_
    exact k
  have go177 : Go p e below A0 (T57.setTop (mkF m 617 #[.val (.long q0), .second, .val (.int p1), .val (.int p2), .val (.int p3), .val (.ref b1), .val (.int v9), .val (.int v10), .val (.int v11), .val (.int v12), .val (.int v13), .val (.int v14), .val (.ref b12), .val (.long v19), .second, .val (.int v22), .val (.int v24), .val (.int v25), .val (.int v30), .val (.int v35), .val (.int v40), .val (.int v44), .val (.long v48), .second, .val (.long v49), .second, .val (.int v56), .val (.ref b55), .val (.int r57_r), .unset, .unset, .unset, .unset, .unset] [(.int r57_r)])) := by
    intro t k
    refine go176 t ?_
    refine o_iload X57 hx hby at_615 617 rfl rfl ?_
    exact k
  obtain ⟨T64, l64, v59, X64, N64, e64, hv59, go186⟩ : ∃ (T64 : State) (l64 : List Loc) (v59 : Int32), Stand p l e room_1 s m #[(.long q0), (.int p1), (.int p2), (.int p3)] below meth c T64 l64 3 10 ∧ Fr n0 l64 ∧ T64.heap = T57.heap ∧ v59 = (if r57_r = (0 : Int32) then (0 : Int32) else (if r57_dg = v19 then (if r57_dc = (1 : Int32) then (1 : Int32) else (0 : Int32)) else (0 : Int32))) ∧ Go p e below A0 (T64.setTop (mkF m 645 #[.val (.long q0), .second, .val (.int p1), .val (.int p2), .val (.int p3), .val (.ref b1), .val (.int v9), .val (.int v10), .val (.int v11), .val (.int v12), .val (.int v13), .val (.int v14), .val (.ref b12), .val (.long v19), .second, .val (.int v22), .val (.int v24), .val (.int v25), .val (.int v30), .val (.int v35), .val (.int v40), .val (.int v44), .val (.long v48), .second, .val (.long v49), .second, .val (.int v56), .val (.ref b55), .val (.int r57_r), .unset, .unset, .unset, .unset, .unset] [(.int v59)])) := by
    by_cases hc617_58 : r57_r = (0 : Int32)
    · have go178 : Go p e below A0 (T57.setTop (mkF m 645 #[.val (.long q0), .second, .val (.int p1), .val (.int p2), .val (.int p3), .val (.ref b1), .val (.int v9), .val (.int v10), .val (.int v11), .val (.int v12), .val (.int v13), .val (.int v14), .val (.ref b12), .val (.long v19), .second, .val (.int v22), .val (.int v24), .val (.int v25), .val (.int v30), .val (.int v35), .val (.int v40), .val (.int v44), .val (.long v48), .second, .val (.long v49), .second, .val (.int v56), .val (.ref b55), .val (.int r57_r), .unset, .unset, .unset, .unset, .unset] [(.int (0 : Int32))])) := by
        intro t k
        refine go177 t ?_
        refine o_ifY X57 hx hby at_617 644 rfl (teq hc617_58).1 ?_
        refine o_iconst X57 hx hby at_644 645 rfl (v := (0 : Int32)) rfl ?_
        exact k
      exact ⟨T57, _, (0 : Int32), X57, N57, rfl, (if_pos hc617_58).symm, go178⟩
    · obtain ⟨cq59, kq59, q59a, q59b, q59c⟩ := isOf hZ rfl f23
      obtain ⟨_, _, ⟨T59, L59, k59, n59⟩, -, X59, ⟨Lc59, hQ59, l59, y59, z59⟩, st59⟩ := X57.virtualBack hx (y := (⟨"com/example/amortine/amortine/cli/Options$Digits", "digits", "()J"⟩ : MethodName)) (z := (⟨"com/example/amortine/amortine/cli/Options$Digits", "digits", "()J"⟩ : MethodName)) hown (mvT hZ (hw _ (List.mem_of_getElem? (i := 45) rfl))) (mvT hZ (hw _ (List.mem_of_getElem? (i := 46) rfl))) (notFace_of_selects (args := #[]) (mvT hZ (hw _ (List.mem_of_getElem? (i := 48) rfl)))) (mvT hZ (hw _ (List.mem_of_getElem? (i := 48) rfl))) (mvT hZ (hw _ (List.mem_of_getElem? (i := 47) rfl))) (by decide) (backOf (W := 0) (rm11 l Z aw hw [] b55 r57_dg T57.heap n0 Zp57 (f24)) hZ (hw _ (List.mem_of_getElem? (i := 49) rfl)) (hw _ (List.mem_of_getElem? (i := 28) rfl)) (by decide) (by decide)) q59a q59c (g := (mkF m 622 #[.val (.long q0), .second, .val (.int p1), .val (.int p2), .val (.int p3), .val (.ref b1), .val (.int v9), .val (.int v10), .val (.int v11), .val (.int v12), .val (.int v13), .val (.int v14), .val (.ref b12), .val (.long v19), .second, .val (.int v22), .val (.int v24), .val (.int v25), .val (.int v30), .val (.int v35), .val (.int v40), .val (.int v44), .val (.long v48), .second, .val (.long v49), .second, .val (.int v56), .val (.ref b55), .val (.int r57_r), .unset, .unset, .unset, .unset, .unset] [(.ref b55)])) rfl (by rw [hml]; rfl) (Steps.refl _) (argsL := []) (rest := []) (lenOf pd_9 rfl) rfl (by show 2 * 0 + _ ≤ _; exact Nat.le_of_eq rfl) (hb hby at_622) (fun _ _ => ⟨rfl, rfl, (by decide : 3 + 0 ≤ _), (by decide : 10 + 0 ≤ _)⟩)
      dsimp only [Pt.U, Pt.locs, Pt.cells, Pt.slots] at X59 l59 y59 z59 st59 hQ59
      obtain rfl : k59 = 3 := y59
      obtain rfl : n59 = 10 := z59
      obtain ⟨rfl, N59q, e59⟩ := hQ59
      have N59 : Fr n0 L59 := by rw [l59]; exact Fr.app N57 N59q
      have go179 : Go p e below A0 (T59.setTop (mkF m 628 #[.val (.long q0), .second, .val (.int p1), .val (.int p2), .val (.int p3), .val (.ref b1), .val (.int v9), .val (.int v10), .val (.int v11), .val (.int v12), .val (.int v13), .val (.int v14), .val (.ref b12), .val (.long v19), .second, .val (.int v22), .val (.int v24), .val (.int v25), .val (.int v30), .val (.int v35), .val (.int v40), .val (.int v44), .val (.long v48), .second, .val (.long v49), .second, .val (.int v56), .val (.ref b55), .val (.int r57_r), .unset, .unset, .unset, .unset, .unset] [(.int (lcmpW r57_dg v19))])) := by
        intro t k
        refine go177 t ?_
        refine o_ifN X57 hx hby at_617 620 rfl (feq hc617_58).1 ?_
        refine o_aload X57 hx hby at_620 622 rfl rfl rfl ?_
        refine st59.trans ?_
        show Steps p.tables e below (T59.setTop (mkF m 625 #[.val (.long q0), .second, .val (.int p1), .val (.int p2), .val (.int p3), .val (.ref b1), .val (.int v9), .val (.int v10), .val (.int v11), .val (.int v12), .val (.int v13), .val (.int v14), .val (.ref b12), .val (.long v19), .second, .val (.int v22), .val (.int v24), .val (.int v25), .val (.int v30), .val (.int v35), .val (.int v40), .val (.int v44), .val (.long v48), .second, .val (.long v49), .second, .val (.int v56), .val (.ref b55), .val (.int r57_r), .unset, .unset, .unset, .unset, .unset] [(.long r57_dg)])) _
        refine o_lload X59 hx hby at_625 627 rfl rfl ?_
        refine o_lcmp X59 hx hby at_627 628 rfl ?_
        exact k
      obtain ⟨T63, l63, v58, X63, N63, e63, hv58, go185⟩ : ∃ (T63 : State) (l63 : List Loc) (v58 : Int32), Stand p l e room_1 s m #[(.long q0), (.int p1), (.int p2), (.int p3)] below meth c T63 l63 3 10 ∧ Fr n0 l63 ∧ T63.heap = T57.heap ∧ v58 = (if r57_dg = v19 then (if r57_dc = (1 : Int32) then (1 : Int32) else (0 : Int32)) else (0 : Int32)) ∧ Go p e below A0 (T63.setTop (mkF m 645 #[.val (.long q0), .second, .val (.int p1), .val (.int p2), .val (.int p3), .val (.ref b1), .val (.int v9), .val (.int v10), .val (.int v11), .val (.int v12), .val (.int v13), .val (.int v14), .val (.ref b12), .val (.long v19), .second, .val (.int v22), .val (.int v24), .val (.int v25), .val (.int v30), .val (.int v35), .val (.int v40), .val (.int v44), .val (.long v48), .second, .val (.long v49), .second, .val (.int v56), .val (.ref b55), .val (.int r57_r), .unset, .unset, .unset, .unset, .unset] [(.int v58)])) := by
        by_cases hc628_60 : r57_dg = v19
        · obtain ⟨cq61, kq61, q61a, q61b, q61c⟩ := isOf hZ e59 f23
          obtain ⟨_, _, ⟨T61, L61, k61, n61⟩, -, X61, ⟨Lc61, hQ61, l61, y61, z61⟩, st61⟩ := X59.virtualBack hx (y := (⟨"com/example/amortine/amortine/cli/Options$Digits", "decimals", "()I"⟩ : MethodName)) (z := (⟨"com/example/amortine/amortine/cli/Options$Digits", "decimals", "()I"⟩ : MethodName)) hown (mvT hZ (hw _ (List.mem_of_getElem? (i := 50) rfl))) (mvT hZ (hw _ (List.mem_of_getElem? (i := 51) rfl))) (notFace_of_selects (args := #[]) (mvT hZ (hw _ (List.mem_of_getElem? (i := 53) rfl)))) (mvT hZ (hw _ (List.mem_of_getElem? (i := 53) rfl))) (mvT hZ (hw _ (List.mem_of_getElem? (i := 52) rfl))) (by decide) (backOf (W := 0) (rm12 l Z aw hw [] b55 r57_dc T57.heap n0 Zp57 (f25)) hZ (hw _ (List.mem_of_getElem? (i := 54) rfl)) (hw _ (List.mem_of_getElem? (i := 28) rfl)) (by decide) (by decide)) q61a q61c (g := (mkF m 633 #[.val (.long q0), .second, .val (.int p1), .val (.int p2), .val (.int p3), .val (.ref b1), .val (.int v9), .val (.int v10), .val (.int v11), .val (.int v12), .val (.int v13), .val (.int v14), .val (.ref b12), .val (.long v19), .second, .val (.int v22), .val (.int v24), .val (.int v25), .val (.int v30), .val (.int v35), .val (.int v40), .val (.int v44), .val (.long v48), .second, .val (.long v49), .second, .val (.int v56), .val (.ref b55), .val (.int r57_r), .unset, .unset, .unset, .unset, .unset] [(.ref b55)])) rfl (by rw [hml]; rfl) (Steps.refl _) (argsL := []) (rest := []) (lenOf pd_10 rfl) rfl (by show 2 * 0 + _ ≤ _; exact Nat.le_of_eq rfl) (hb hby at_633) (fun _ _ => ⟨rfl, e59, (by decide : 3 + 0 ≤ _), (by decide : 10 + 0 ≤ _)⟩)
          dsimp only [Pt.U, Pt.locs, Pt.cells, Pt.slots] at X61 l61 y61 z61 st61 hQ61
          obtain rfl : k61 = 3 := y61
          obtain rfl : n61 = 10 := z61
          obtain ⟨rfl, N61q, e61⟩ := hQ61
          have N61 : Fr n0 L61 := by rw [l61]; exact Fr.app N59 N61q
          have go180 : Go p e below A0 (T61.setTop (mkF m 637 #[.val (.long q0), .second, .val (.int p1), .val (.int p2), .val (.int p3), .val (.ref b1), .val (.int v9), .val (.int v10), .val (.int v11), .val (.int v12), .val (.int v13), .val (.int v14), .val (.ref b12), .val (.long v19), .second, .val (.int v22), .val (.int v24), .val (.int v25), .val (.int v30), .val (.int v35), .val (.int v40), .val (.int v44), .val (.long v48), .second, .val (.long v49), .second, .val (.int v56), .val (.ref b55), .val (.int r57_r), .unset, .unset, .unset, .unset, .unset] [(.int (1 : Int32)), (.int r57_dc)])) := by
            intro t k
            refine go179 t ?_
            refine o_ifN X59 hx hby at_628 631 rfl (teq ((lw_eq r57_dg v19).mpr hc628_60)).2 ?_
            refine o_aload X59 hx hby at_631 633 rfl rfl rfl ?_
            refine st61.trans ?_
            show Steps p.tables e below (T61.setTop (mkF m 636 #[.val (.long q0), .second, .val (.int p1), .val (.int p2), .val (.int p3), .val (.ref b1), .val (.int v9), .val (.int v10), .val (.int v11), .val (.int v12), .val (.int v13), .val (.int v14), .val (.ref b12), .val (.long v19), .second, .val (.int v22), .val (.int v24), .val (.int v25), .val (.int v30), .val (.int v35), .val (.int v40), .val (.int v44), .val (.long v48), .second, .val (.long v49), .second, .val (.int v56), .val (.ref b55), .val (.int r57_r), .unset, .unset, .unset, .unset, .unset] [(.int r57_dc)])) _
            refine o_iconst X61 hx hby at_636 637 rfl (v := (1 : Int32)) rfl ?_
            exact k
          obtain ⟨v57, hv57, go183⟩ : ∃ (v57 : Int32), v57 = (if r57_dc = (1 : Int32) then (1 : Int32) else (0 : Int32)) ∧ Go p e below A0 (T61.setTop (mkF m 645 #[.val (.long q0), .second, .val (.int p1), .val (.int p2), .val (.int p3), .val (.ref b1), .val (.int v9), .val (.int v10), .val (.int v11), .val (.int v12), .val (.int v13), .val (.int v14), .val (.ref b12), .val (.long v19), .second, .val (.int v22), .val (.int v24), .val (.int v25), .val (.int v30), .val (.int v35), .val (.int v40), .val (.int v44), .val (.long v48), .second, .val (.long v49), .second, .val (.int v56), .val (.ref b55), .val (.int r57_r), .unset, .unset, .unset, .unset, .unset] [(.int v57)])) := by
            by_cases hc637_62 : r57_dc = (1 : Int32)
            · have go181 : Go p e below A0 (T61.setTop (mkF m 645 #[.val (.long q0), .second, .val (.int p1), .val (.int p2), .val (.int p3), .val (.ref b1), .val (.int v9), .val (.int v10), .val (.int v11), .val (.int v12), .val (.int v13), .val (.int v14), .val (.ref b12), .val (.long v19), .second, .val (.int v22), .val (.int v24), .val (.int v25), .val (.int v30), .val (.int v35), .val (.int v40), .val (.int v44), .val (.long v48), .second, .val (.long v49), .second, .val (.int v56), .val (.ref b55), .val (.int r57_r), .unset, .unset, .unset, .unset, .unset] [(.int (1 : Int32))])) := by
                intro t k
                refine go180 t ?_
                refine o_icmpN X61 hx hby at_637 640 rfl (teq hc637_62).2 ?_
                refine o_iconst X61 hx hby at_640 641 rfl (v := (1 : Int32)) rfl ?_
                refine o_goto X61 hx hby at_641 645 rfl ?_
                exact k
              exact ⟨(1 : Int32), (if_pos hc637_62).symm, go181⟩
            · have go182 : Go p e below A0 (T61.setTop (mkF m 645 #[.val (.long q0), .second, .val (.int p1), .val (.int p2), .val (.int p3), .val (.ref b1), .val (.int v9), .val (.int v10), .val (.int v11), .val (.int v12), .val (.int v13), .val (.int v14), .val (.ref b12), .val (.long v19), .second, .val (.int v22), .val (.int v24), .val (.int v25), .val (.int v30), .val (.int v35), .val (.int v40), .val (.int v44), .val (.long v48), .second, .val (.long v49), .second, .val (.int v56), .val (.ref b55), .val (.int r57_r), .unset, .unset, .unset, .unset, .unset] [(.int (0 : Int32))])) := by
                intro t k
                refine go180 t ?_
                refine o_icmpY X61 hx hby at_637 644 rfl (feq hc637_62).2 ?_
                refine o_iconst X61 hx hby at_644 645 rfl (v := (0 : Int32)) rfl ?_
                exact k
              exact ⟨(0 : Int32), (if_neg hc637_62).symm, go182⟩
          rw [hv57] at go183
          exact ⟨T61, _, (if r57_dc = (1 : Int32) then (1 : Int32) else (0 : Int32)), X61, N61, e61, (if_pos hc628_60).symm, go183⟩
        · have go184 : Go p e below A0 (T59.setTop (mkF m 645 #[.val (.long q0), .second, .val (.int p1), .val (.int p2), .val (.int p3), .val (.ref b1), .val (.int v9), .val (.int v10), .val (.int v11), .val (.int v12), .val (.int v13), .val (.int v14), .val (.ref b12), .val (.long v19), .second, .val (.int v22), .val (.int v24), .val (.int v25), .val (.int v30), .val (.int v35), .val (.int v40), .val (.int v44), .val (.long v48), .second, .val (.long v49), .second, .val (.int v56), .val (.ref b55), .val (.int r57_r), .unset, .unset, .unset, .unset, .unset] [(.int (0 : Int32))])) := by
            intro t k
            refine go179 t ?_
            refine o_ifY X59 hx hby at_628 644 rfl (feq (fun q => hc628_60 ((lw_eq r57_dg v19).mp q))).2 ?_
            refine o_iconst X59 hx hby at_644 645 rfl (v := (0 : Int32)) rfl ?_
            exact k
          exact ⟨T59, _, (0 : Int32), X59, N59, e59, (if_neg hc628_60).symm, go184⟩
      rw [hv58] at go185
      exact ⟨T63, _, (if r57_dg = v19 then (if r57_dc = (1 : Int32) then (1 : Int32) else (0 : Int32)) else (0 : Int32)), X63, N63, e63, (if_neg hc617_58).symm, go185⟩
  have go187 : Go p e below A0 (T64.setTop (mkF m 647 #[.val (.long q0), .second, .val (.int p1), .val (.int p2), .val (.int p3), .val (.ref b1), .val (.int v9), .val (.int v10), .val (.int v11), .val (.int v12), .val (.int v13), .val (.int v14), .val (.ref b12), .val (.long v19), .second, .val (.int v22), .val (.int v24), .val (.int v25), .val (.int v30), .val (.int v35), .val (.int v40), .val (.int v44), .val (.long v48), .second, .val (.long v49), .second, .val (.int v56), .val (.ref b55), .val (.int r57_r), .val (.int v59), .unset, .unset, .unset, .unset] [])) := by
    intro t k
    refine go186 t ?_
    refine o_istore X64 hx hby at_645 647 rfl (l' := #[.val (.long q0), .second, .val (.int p1), .val (.int p2), .val (.int p3), .val (.ref b1), .val (.int v9), .val (.int v10), .val (.int v11), .val (.int v12), .val (.int v13), .val (.int v14), .val (.ref b12), .val (.long v19), .second, .val (.int v22), .val (.int v24), .val (.int v25), .val (.int v30), .val (.int v35), .val (.int v40), .val (.int v44), .val (.long v48), .second, .val (.long v49), .second, .val (.int v56), .val (.ref b55), .val (.int r57_r), .val (.int v59), .unset, .unset, .unset, .unset]) rfl ?_
    exact k
  have go188 : Go p e below A0 (T64.setTop (mkF m 657 #[.val (.long q0), .second, .val (.int p1), .val (.int p2), .val (.int p3), .val (.ref b1), .val (.int v9), .val (.int v10), .val (.int v11), .val (.int v12), .val (.int v13), .val (.int v14), .val (.ref b12), .val (.long v19), .second, .val (.int v22), .val (.int v24), .val (.int v25), .val (.int v30), .val (.int v35), .val (.int v40), .val (.int v44), .val (.long v48), .second, .val (.long v49), .second, .val (.int v56), .val (.ref b55), .val (.int r57_r), .val (.int v59), .unset, .unset, .unset, .unset] [(.int v11), (.int v10), (.int v9), (.ref b1), (.ref b55)])) := by
    intro t k
    refine go187 t ?_
    refine o_aload X64 hx hby at_647 649 rfl rfl rfl ?_
    refine o_aload X64 hx hby at_649 651 rfl rfl rfl ?_
    refine o_iload X64 hx hby at_651 653 rfl rfl ?_
    refine o_iload X64 hx hby at_653 655 rfl rfl ?_
    refine o_iload X64 hx hby at_655 657 rfl rfl ?_
    exact k
  have f_fr0_5 : ¬ v9 < 0 := pf0_fr0_4 q0 p1 p2 p3 v1 v2 v3 v4 v5 v6 v7 v8 v9 v10 v11 v12 v13 v14 v15 v16 v17 v18 v19 v22 v24 v25 v26 v27 v28 v29 v30 v31 v32 v33 v34 v35 v36 v37 v38 v39 v40 v44 v45 v46 v47 v48 v49 v50 v51 v52 v53 v54 v55 v56 r57_r r57_dg r57_dc v59 hv1 hv2 hv3 hv4 hv5 hv6 hv7 hv8 hv9 hv10 hv11 hv12 hv13 hv14 hv15 hv16 hv17 hv18 hv19 hv22 hv24 hv25 hv26 hv27 hv28 hv29 hv30 hv31 hv32 hv33 hv34 hv35 hv36 hv37 hv38 hv39 hv40 hv44 hv45 hv46 hv47 hv48 hv49 hv50 hv51 hv52 hv53 hv54 hv55 hv56 hv59 qf57_2
  have f_to4_6 : v10.toInt ≤ 4 := pf0_to4_5 q0 p1 p2 p3 v1 v2 v3 v4 v5 v6 v7 v8 v9 v10 v11 v12 v13 v14 v15 v16 v17 v18 v19 v22 v24 v25 v26 v27 v28 v29 v30 v31 v32 v33 v34 v35 v36 v37 v38 v39 v40 v44 v45 v46 v47 v48 v49 v50 v51 v52 v53 v54 v55 v56 r57_r r57_dg r57_dc v59 hv1 hv2 hv3 hv4 hv5 hv6 hv7 hv8 hv9 hv10 hv11 hv12 hv13 hv14 hv15 hv16 hv17 hv18 hv19 hv22 hv24 hv25 hv26 hv27 hv28 hv29 hv30 hv31 hv32 hv33 hv34 hv35 hv36 hv37 hv38 hv39 hv40 hv44 hv45 hv46 hv47 hv48 hv49 hv50 hv51 hv52 hv53 hv54 hv55 hv56 hv59 qf57_2
  obtain ⟨cq65, kq65, q65a, q65b, q65c⟩ := isOf hZ e64 f23
  obtain ⟨_, _, ⟨T65, L65, k65, n65⟩, -, X65, ⟨Lc65, hQ65, l65, y65, z65⟩, st65⟩ := X64.virtualBack hx (y := (⟨"com/example/amortine/amortine/cli/Options$Digits", "read", "([BIIZ)Z"⟩ : MethodName)) (z := (⟨"com/example/amortine/amortine/cli/Options$Digits", "read", "([BIIZ)Z"⟩ : MethodName)) hown (mvT hZ (hw _ (List.mem_of_getElem? (i := 35) rfl))) (mvT hZ (hw _ (List.mem_of_getElem? (i := 36) rfl))) (notFace_of_selects (args := #[]) (mvT hZ (hw _ (List.mem_of_getElem? (i := 38) rfl)))) (mvT hZ (hw _ (List.mem_of_getElem? (i := 38) rfl))) (mvT hZ (hw _ (List.mem_of_getElem? (i := 37) rfl))) (by decide) (backOf (W := 0) (rm10 l Z aw hw [] b55 b1 v9 v10 v11 k1 ((nar .byte v2)) ((nar .byte v4)) ((nar .byte v6)) ((nar .byte v8)) r57_dg r57_dc T57.heap n0 Zp57 (f23) (g_b55) (f24) (f25) (f21) ((Ne.symm ne_b1_b55)) (f_fr0_5) (f_to4_6)) hZ (hw _ (List.mem_of_getElem? (i := 39) rfl)) (hw _ (List.mem_of_getElem? (i := 28) rfl)) (by decide) (by decide)) q65a q65c (g := (mkF m 657 #[.val (.long q0), .second, .val (.int p1), .val (.int p2), .val (.int p3), .val (.ref b1), .val (.int v9), .val (.int v10), .val (.int v11), .val (.int v12), .val (.int v13), .val (.int v14), .val (.ref b12), .val (.long v19), .second, .val (.int v22), .val (.int v24), .val (.int v25), .val (.int v30), .val (.int v35), .val (.int v40), .val (.int v44), .val (.long v48), .second, .val (.long v49), .second, .val (.int v56), .val (.ref b55), .val (.int r57_r), .val (.int v59), .unset, .unset, .unset, .unset] [(.int v11), (.int v10), (.int v9), (.ref b1), (.ref b55)])) rfl (by rw [hml]; rfl) (Steps.refl _) (argsL := [(.ref b1), (.int v9), (.int v10), (.int v11)]) (rest := []) (lenOf pd_8 rfl) rfl (by show 2 * 0 + _ ≤ _; exact Nat.le_of_eq rfl) (hb hby at_657) (fun _ _ => ⟨rfl, e64, (by decide : 3 + 0 ≤ _), (by decide : 10 + 0 ≤ _)⟩)
  dsimp only [Pt.U, Pt.locs, Pt.cells, Pt.slots] at X65 l65 y65 z65 st65 hQ65
  obtain rfl : k65 = 3 := y65
  obtain rfl : n65 = 10 := z65
  obtain ⟨r65_r, r65_dg, r65_dc, rfl, N65q, K65q, qf65_0, qf65_1, qf65_2, -⟩ := hQ65
  have f26 : Arv Z T65.heap b1 k1 .byte (4 : Int32) [(.int (nar .byte v2)), (.int (nar .byte v4)), (.int (nar .byte v6)), (.int (nar .byte v8))] (.int (0 : Int32)) := f21.keep K65q (ninS ne_b1_b55 nin0)
  have f27 : Arv Z T65.heap b12 k12 .byte (4 : Int32) [(.int (nar .byte v16)), (.int (nar .byte v17)), (.int (nar .byte (46 : Int32))), (.int (nar .byte v18))] (.int (0 : Int32)) := f22.keep K65q (ninS ne_b12_b55 nin0)
  have f28 : Exa Z T65.heap b55 "com/example/amortine/amortine/cli/Options$Digits" := f23.keep K65q
  have Zp65 : n0 ≤ T65.heap.size := Nat.le_trans Zp57 K65q.1
  have f29 : Fld Z T65.heap b55 "com/example/amortine/amortine/cli/Options$Digits" "digits" "J" (.long r65_dg) := qf65_0
  have f30 : Fld Z T65.heap b55 "com/example/amortine/amortine/cli/Options$Digits" "decimals" "I" (.int r65_dc) := qf65_1
  have N65 : Fr n0 L65 := by rw [l65]; exact Fr.app N64 N65q
  have go189 : Go p e below A0 (T65.setTop (mkF m 660 #[.val (.long q0), .second, .val (.int p1), .val (.int p2), .val (.int p3), .val (.ref b1), .val (.int v9), .val (.int v10), .val (.int v11), .val (.int v12), .val (.int v13), .val (.int v14), .val (.ref b12), .val (.long v19), .second, .val (.int v22), .val (.int v24), .val (.int v25), .val (.int v30), .val (.int v35), .val (.int v40), .val (.int v44), .val (.long v48), .second, .val (.long v49), .second, .val (.int v56), .val (.ref b55), .val (.int r57_r), .val (.int v59), .unset, .unset, .unset, .unset] [(.int r65_r)])) := by
    intro t k
    refine go188 t ?_
    refine st65.trans ?_
    show Steps p.tables e below (T65.setTop (mkF m 660 #[.val (.long q0), .second, .val (.int p1), .val (.int p2), .val (.int p3), .val (.ref b1), .val (.int v9), .val (.int v10), .val (.int v11), .val (.int v12), .val (.int v13), .val (.int v14), .val (.ref b12), .val (.long v19), .second, .val (.int v22), .val (.int v24), .val (.int v25), .val (.int v30), .val (.int v35), .val (.int v40), .val (.int v44), .val (.long v48), .second, .val (.long v49), .second, .val (.int v56), .val (.ref b55), .val (.int r57_r), .val (.int v59), .unset, .unset, .unset, .unset] [(.int r65_r)])) _
    exact k
  have go190 : Go p e below A0 (T65.setTop (mkF m 662 #[.val (.long q0), .second, .val (.int p1), .val (.int p2), .val (.int p3), .val (.ref b1), .val (.int v9), .val (.int v10), .val (.int v11), .val (.int v12), .val (.int v13), .val (.int v14), .val (.ref b12), .val (.long v19), .second, .val (.int v22), .val (.int v24), .val (.int v25), .val (.int v30), .val (.int v35), .val (.int v40), .val (.int v44), .val (.long v48), .second, .val (.long v49), .second, .val (.int v56), .val (.ref b55), .val (.int r57_r), .val (.int v59), .val (.int r65_r), .unset, .unset, .unset] [])) := by
    intro t k
    refine go189 t ?_
    refine o_istore X65 hx hby at_660 662 rfl (l' := #[.val (.long q0), .second, .val (.int p1), .val (.int p2), .val (.int p3), .val (.ref b1), .val (.int v9), .val (.int v10), .val (.int v11), .val (.int v12), .val (.int v13), .val (.int v14), .val (.ref b12), .val (.long v19), .second, .val (.int v22), .val (.int v24), .val (.int v25), .val (.int v30), .val (.int v35), .val (.int v40), .val (.int v44), .val (.long v48), .second, .val (.long v49), .second, .val (.int v56), .val (.ref b55), .val (.int r57_r), .val (.int v59), .val (.int r65_r), .unset, .unset, .unset]) rfl ?_
    exact k
  obtain ⟨cq66, kq66, q66a, q66b, q66c⟩ := isOf hZ rfl f28
  obtain ⟨_, _, ⟨T66, L66, k66, n66⟩, -, X66, ⟨Lc66, hQ66, l66, y66, z66⟩, st66⟩ := X65.virtualBack hx (y := (⟨"com/example/amortine/amortine/cli/Options$Digits", "digits", "()J"⟩ : MethodName)) (z := (⟨"com/example/amortine/amortine/cli/Options$Digits", "digits", "()J"⟩ : MethodName)) hown (mvT hZ (hw _ (List.mem_of_getElem? (i := 45) rfl))) (mvT hZ (hw _ (List.mem_of_getElem? (i := 46) rfl))) (notFace_of_selects (args := #[]) (mvT hZ (hw _ (List.mem_of_getElem? (i := 48) rfl)))) (mvT hZ (hw _ (List.mem_of_getElem? (i := 48) rfl))) (mvT hZ (hw _ (List.mem_of_getElem? (i := 47) rfl))) (by decide) (backOf (W := 0) (rm11 l Z aw hw [] b55 r65_dg T65.heap n0 Zp65 (f29)) hZ (hw _ (List.mem_of_getElem? (i := 49) rfl)) (hw _ (List.mem_of_getElem? (i := 28) rfl)) (by decide) (by decide)) q66a q66c (g := (mkF m 664 #[.val (.long q0), .second, .val (.int p1), .val (.int p2), .val (.int p3), .val (.ref b1), .val (.int v9), .val (.int v10), .val (.int v11), .val (.int v12), .val (.int v13), .val (.int v14), .val (.ref b12), .val (.long v19), .second, .val (.int v22), .val (.int v24), .val (.int v25), .val (.int v30), .val (.int v35), .val (.int v40), .val (.int v44), .val (.long v48), .second, .val (.long v49), .second, .val (.int v56), .val (.ref b55), .val (.int r57_r), .val (.int v59), .val (.int r65_r), .unset, .unset, .unset] [(.ref b55)])) rfl (by rw [hml]; rfl) (Steps.refl _) (argsL := []) (rest := []) (lenOf pd_9 rfl) rfl (by show 2 * 0 + _ ≤ _; exact Nat.le_of_eq rfl) (hb hby at_664) (fun _ _ => ⟨rfl, rfl, (by decide : 3 + 0 ≤ _), (by decide : 10 + 0 ≤ _)⟩)
  dsimp only [Pt.U, Pt.locs, Pt.cells, Pt.slots] at X66 l66 y66 z66 st66 hQ66
  obtain rfl : k66 = 3 := y66
  obtain rfl : n66 = 10 := z66
  obtain ⟨rfl, N66q, e66⟩ := hQ66
  have N66 : Fr n0 L66 := by rw [l66]; exact Fr.app N65 N66q
  have go191 : Go p e below A0 (T66.setTop (mkF m 667 #[.val (.long q0), .second, .val (.int p1), .val (.int p2), .val (.int p3), .val (.ref b1), .val (.int v9), .val (.int v10), .val (.int v11), .val (.int v12), .val (.int v13), .val (.int v14), .val (.ref b12), .val (.long v19), .second, .val (.int v22), .val (.int v24), .val (.int v25), .val (.int v30), .val (.int v35), .val (.int v40), .val (.int v44), .val (.long v48), .second, .val (.long v49), .second, .val (.int v56), .val (.ref b55), .val (.int r57_r), .val (.int v59), .val (.int r65_r), .unset, .unset, .unset] [(.long r65_dg)])) := by
    intro t k
    refine go190 t ?_
    refine o_aload X65 hx hby at_662 664 rfl rfl rfl ?_
    refine st66.trans ?_
    show Steps p.tables e below (T66.setTop (mkF m 667 #[.val (.long q0), .second, .val (.int p1), .val (.int p2), .val (.int p3), .val (.ref b1), .val (.int v9), .val (.int v10), .val (.int v11), .val (.int v12), .val (.int v13), .val (.int v14), .val (.ref b12), .val (.long v19), .second, .val (.int v22), .val (.int v24), .val (.int v25), .val (.int v30), .val (.int v35), .val (.int v40), .val (.int v44), .val (.long v48), .second, .val (.long v49), .second, .val (.int v56), .val (.ref b55), .val (.int r57_r), .val (.int v59), .val (.int r65_r), .unset, .unset, .unset] [(.long r65_dg)])) _
    exact k
  have go192 : Go p e below A0 (T66.setTop (mkF m 669 #[.val (.long q0), .second, .val (.int p1), .val (.int p2), .val (.int p3), .val (.ref b1), .val (.int v9), .val (.int v10), .val (.int v11), .val (.int v12), .val (.int v13), .val (.int v14), .val (.ref b12), .val (.long v19), .second, .val (.int v22), .val (.int v24), .val (.int v25), .val (.int v30), .val (.int v35), .val (.int v40), .val (.int v44), .val (.long v48), .second, .val (.long v49), .second, .val (.int v56), .val (.ref b55), .val (.int r57_r), .val (.int v59), .val (.int r65_r), .val (.long r65_dg), .second, .unset] [])) := by
    intro t k
    refine go191 t ?_
    refine o_lstore X66 hx hby at_667 669 rfl (l' := #[.val (.long q0), .second, .val (.int p1), .val (.int p2), .val (.int p3), .val (.ref b1), .val (.int v9), .val (.int v10), .val (.int v11), .val (.int v12), .val (.int v13), .val (.int v14), .val (.ref b12), .val (.long v19), .second, .val (.int v22), .val (.int v24), .val (.int v25), .val (.int v30), .val (.int v35), .val (.int v40), .val (.int v44), .val (.long v48), .second, .val (.long v49), .second, .val (.int v56), .val (.ref b55), .val (.int r57_r), .val (.int v59), .val (.int r65_r), .val (.long r65_dg), .second, .unset]) rfl ?_
    exact k
  obtain ⟨cq67, kq67, q67a, q67b, q67c⟩ := isOf hZ e66 f28
  obtain ⟨_, _, ⟨T67, L67, k67, n67⟩, -, X67, ⟨Lc67, hQ67, l67, y67, z67⟩, st67⟩ := X66.virtualBack hx (y := (⟨"com/example/amortine/amortine/cli/Options$Digits", "decimals", "()I"⟩ : MethodName)) (z := (⟨"com/example/amortine/amortine/cli/Options$Digits", "decimals", "()I"⟩ : MethodName)) hown (mvT hZ (hw _ (List.mem_of_getElem? (i := 50) rfl))) (mvT hZ (hw _ (List.mem_of_getElem? (i := 51) rfl))) (notFace_of_selects (args := #[]) (mvT hZ (hw _ (List.mem_of_getElem? (i := 53) rfl)))) (mvT hZ (hw _ (List.mem_of_getElem? (i := 53) rfl))) (mvT hZ (hw _ (List.mem_of_getElem? (i := 52) rfl))) (by decide) (backOf (W := 0) (rm12 l Z aw hw [] b55 r65_dc T65.heap n0 Zp65 (f30)) hZ (hw _ (List.mem_of_getElem? (i := 54) rfl)) (hw _ (List.mem_of_getElem? (i := 28) rfl)) (by decide) (by decide)) q67a q67c (g := (mkF m 671 #[.val (.long q0), .second, .val (.int p1), .val (.int p2), .val (.int p3), .val (.ref b1), .val (.int v9), .val (.int v10), .val (.int v11), .val (.int v12), .val (.int v13), .val (.int v14), .val (.ref b12), .val (.long v19), .second, .val (.int v22), .val (.int v24), .val (.int v25), .val (.int v30), .val (.int v35), .val (.int v40), .val (.int v44), .val (.long v48), .second, .val (.long v49), .second, .val (.int v56), .val (.ref b55), .val (.int r57_r), .val (.int v59), .val (.int r65_r), .val (.long r65_dg), .second, .unset] [(.ref b55)])) rfl (by rw [hml]; rfl) (Steps.refl _) (argsL := []) (rest := []) (lenOf pd_10 rfl) rfl (by show 2 * 0 + _ ≤ _; exact Nat.le_of_eq rfl) (hb hby at_671) (fun _ _ => ⟨rfl, e66, (by decide : 3 + 0 ≤ _), (by decide : 10 + 0 ≤ _)⟩)
  dsimp only [Pt.U, Pt.locs, Pt.cells, Pt.slots] at X67 l67 y67 z67 st67 hQ67
  obtain rfl : k67 = 3 := y67
  obtain rfl : n67 = 10 := z67
  obtain ⟨rfl, N67q, e67⟩ := hQ67
  have N67 : Fr n0 L67 := by rw [l67]; exact Fr.app N66 N67q
  have go193 : Go p e below A0 (T67.setTop (mkF m 674 #[.val (.long q0), .second, .val (.int p1), .val (.int p2), .val (.int p3), .val (.ref b1), .val (.int v9), .val (.int v10), .val (.int v11), .val (.int v12), .val (.int v13), .val (.int v14), .val (.ref b12), .val (.long v19), .second, .val (.int v22), .val (.int v24), .val (.int v25), .val (.int v30), .val (.int v35), .val (.int v40), .val (.int v44), .val (.long v48), .second, .val (.long v49), .second, .val (.int v56), .val (.ref b55), .val (.int r57_r), .val (.int v59), .val (.int r65_r), .val (.long r65_dg), .second, .unset] [(.int r65_dc)])) := by
    intro t k
    refine go192 t ?_
    refine o_aload X66 hx hby at_669 671 rfl rfl rfl ?_
    refine st67.trans ?_
    show Steps p.tables e below (T67.setTop (mkF m 674 #[.val (.long q0), .second, .val (.int p1), .val (.int p2), .val (.int p3), .val (.ref b1), .val (.int v9), .val (.int v10), .val (.int v11), .val (.int v12), .val (.int v13), .val (.int v14), .val (.ref b12), .val (.long v19), .second, .val (.int v22), .val (.int v24), .val (.int v25), .val (.int v30), .val (.int v35), .val (.int v40), .val (.int v44), .val (.long v48), .second, .val (.long v49), .second, .val (.int v56), .val (.ref b55), .val (.int r57_r), .val (.int v59), .val (.int r65_r), .val (.long r65_dg), .second, .unset] [(.int r65_dc)])) _
    exact k
  have go194 : Go p e below A0 (T67.setTop (mkF m 676 #[.val (.long q0), .second, .val (.int p1), .val (.int p2), .val (.int p3), .val (.ref b1), .val (.int v9), .val (.int v10), .val (.int v11), .val (.int v12), .val (.int v13), .val (.int v14), .val (.ref b12), .val (.long v19), .second, .val (.int v22), .val (.int v24), .val (.int v25), .val (.int v30), .val (.int v35), .val (.int v40), .val (.int v44), .val (.long v48), .second, .val (.long v49), .second, .val (.int v56), .val (.ref b55), .val (.int r57_r), .val (.int v59), .val (.int r65_r), .val (.long r65_dg), .second, .val (.int r65_dc)] [])) := by
    intro t k
    refine go193 t ?_
    refine o_istore X67 hx hby at_674 676 rfl (l' := #[.val (.long q0), .second, .val (.int p1), .val (.int p2), .val (.int p3), .val (.ref b1), .val (.int v9), .val (.int v10), .val (.int v11), .val (.int v12), .val (.int v13), .val (.int v14), .val (.ref b12), .val (.long v19), .second, .val (.int v22), .val (.int v24), .val (.int v25), .val (.int v30), .val (.int v35), .val (.int v40), .val (.int v44), .val (.long v48), .second, .val (.long v49), .second, .val (.int v56), .val (.ref b55), .val (.int r57_r), .val (.int v59), .val (.int r65_r), .val (.long r65_dg), .second, .val (.int r65_dc)]) rfl ?_
    exact k
  have go195 : Go p e below A0 (T67.setTop (mkF m 678 #[.val (.long q0), .second, .val (.int p1), .val (.int p2), .val (.int p3), .val (.ref b1), .val (.int v9), .val (.int v10), .val (.int v11), .val (.int v12), .val (.int v13), .val (.int v14), .val (.ref b12), .val (.long v19), .second, .val (.int v22), .val (.int v24), .val (.int v25), .val (.int v30), .val (.int v35), .val (.int v40), .val (.int v44), .val (.long v48), .second, .val (.long v49), .second, .val (.int v56), .val (.ref b55), .val (.int r57_r), .val (.int v59), .val (.int r65_r), .val (.long r65_dg), .second, .val (.int r65_dc)] [(.int v59)])) := by
    intro t k
    refine go194 t ?_
    refine o_iload X67 hx hby at_676 678 rfl rfl ?_
    exact k
  obtain ⟨v66, pcr77, Lr77, Sr77, hv66, hd77, go216⟩ : ∃ (v66 : Int32) (pcr77 : Nat) (Lr77 : Array Slot) (Sr77 : List Value), v66 = (if v59 = (0 : Int32) then (0 : Int32) else (if r65_r = v44 then (if v44 = (0 : Int32) then (if r65_dg = v19 then (if r65_dc = (1 : Int32) then (1 : Int32) else (0 : Int32)) else (0 : Int32)) else (if r65_dg = v49 then (if r65_dc = v56 then (1 : Int32) else (0 : Int32)) else (0 : Int32))) else (0 : Int32))) ∧ decode c.code pcr77 = .ok (.ireturn, 1) ∧ Go p e below A0 (T67.setTop (mkF m pcr77 Lr77 ((.int v66) :: Sr77))) := by
    by_cases hc678_68 : v59 = (0 : Int32)
    · have go196 : Go p e below A0 (T67.setTop (mkF m 689 #[.val (.long q0), .second, .val (.int p1), .val (.int p2), .val (.int p3), .val (.ref b1), .val (.int v9), .val (.int v10), .val (.int v11), .val (.int v12), .val (.int v13), .val (.int v14), .val (.ref b12), .val (.long v19), .second, .val (.int v22), .val (.int v24), .val (.int v25), .val (.int v30), .val (.int v35), .val (.int v40), .val (.int v44), .val (.long v48), .second, .val (.long v49), .second, .val (.int v56), .val (.ref b55), .val (.int r57_r), .val (.int v59), .val (.int r65_r), .val (.long r65_dg), .second, .val (.int r65_dc)] [(.int (0 : Int32))])) := by
        intro t k
        refine go195 t ?_
        refine o_ifY X67 hx hby at_678 688 rfl (teq hc678_68).1 ?_
        refine o_iconst X67 hx hby at_688 689 rfl (v := (0 : Int32)) rfl ?_
        exact k
      exact ⟨(0 : Int32), _, _, _, (if_pos hc678_68).symm, (hb hby at_689), go196⟩
    · have go197 : Go p e below A0 (T67.setTop (mkF m 685 #[.val (.long q0), .second, .val (.int p1), .val (.int p2), .val (.int p3), .val (.ref b1), .val (.int v9), .val (.int v10), .val (.int v11), .val (.int v12), .val (.int v13), .val (.int v14), .val (.ref b12), .val (.long v19), .second, .val (.int v22), .val (.int v24), .val (.int v25), .val (.int v30), .val (.int v35), .val (.int v40), .val (.int v44), .val (.long v48), .second, .val (.long v49), .second, .val (.int v56), .val (.ref b55), .val (.int r57_r), .val (.int v59), .val (.int r65_r), .val (.long r65_dg), .second, .val (.int r65_dc)] [(.int v44), (.int r65_r)])) := by
        intro t k
        refine go195 t ?_
        refine o_ifN X67 hx hby at_678 681 rfl (feq hc678_68).1 ?_
        refine o_iload X67 hx hby at_681 683 rfl rfl ?_
        refine o_iload X67 hx hby at_683 685 rfl rfl ?_
        exact k
      obtain ⟨v65, pcr76, Lr76, Sr76, hv65, hd76, go215⟩ : ∃ (v65 : Int32) (pcr76 : Nat) (Lr76 : Array Slot) (Sr76 : List Value), v65 = (if r65_r = v44 then (if v44 = (0 : Int32) then (if r65_dg = v19 then (if r65_dc = (1 : Int32) then (1 : Int32) else (0 : Int32)) else (0 : Int32)) else (if r65_dg = v49 then (if r65_dc = v56 then (1 : Int32) else (0 : Int32)) else (0 : Int32))) else (0 : Int32)) ∧ decode c.code pcr76 = .ok (.ireturn, 1) ∧ Go p e below A0 (T67.setTop (mkF m pcr76 Lr76 ((.int v65) :: Sr76))) := by
        by_cases hc685_69 : r65_r = v44
        · have go198 : Go p e below A0 (T67.setTop (mkF m 692 #[.val (.long q0), .second, .val (.int p1), .val (.int p2), .val (.int p3), .val (.ref b1), .val (.int v9), .val (.int v10), .val (.int v11), .val (.int v12), .val (.int v13), .val (.int v14), .val (.ref b12), .val (.long v19), .second, .val (.int v22), .val (.int v24), .val (.int v25), .val (.int v30), .val (.int v35), .val (.int v40), .val (.int v44), .val (.long v48), .second, .val (.long v49), .second, .val (.int v56), .val (.ref b55), .val (.int r57_r), .val (.int v59), .val (.int r65_r), .val (.long r65_dg), .second, .val (.int r65_dc)] [(.int v44)])) := by
            intro t k
            refine go197 t ?_
            refine o_icmpY X67 hx hby at_685 690 rfl (teq hc685_69).1 ?_
            refine o_iload X67 hx hby at_690 692 rfl rfl ?_
            exact k
          obtain ⟨v64, pcr75, Lr75, Sr75, hv64, hd75, go213⟩ : ∃ (v64 : Int32) (pcr75 : Nat) (Lr75 : Array Slot) (Sr75 : List Value), v64 = (if v44 = (0 : Int32) then (if r65_dg = v19 then (if r65_dc = (1 : Int32) then (1 : Int32) else (0 : Int32)) else (0 : Int32)) else (if r65_dg = v49 then (if r65_dc = v56 then (1 : Int32) else (0 : Int32)) else (0 : Int32))) ∧ decode c.code pcr75 = .ok (.ireturn, 1) ∧ Go p e below A0 (T67.setTop (mkF m pcr75 Lr75 ((.int v64) :: Sr75))) := by
            by_cases hc692_70 : v44 = (0 : Int32)
            · have go199 : Go p e below A0 (T67.setTop (mkF m 721 #[.val (.long q0), .second, .val (.int p1), .val (.int p2), .val (.int p3), .val (.ref b1), .val (.int v9), .val (.int v10), .val (.int v11), .val (.int v12), .val (.int v13), .val (.int v14), .val (.ref b12), .val (.long v19), .second, .val (.int v22), .val (.int v24), .val (.int v25), .val (.int v30), .val (.int v35), .val (.int v40), .val (.int v44), .val (.long v48), .second, .val (.long v49), .second, .val (.int v56), .val (.ref b55), .val (.int r57_r), .val (.int v59), .val (.int r65_r), .val (.long r65_dg), .second, .val (.int r65_dc)] [(.int (lcmpW r65_dg v19))])) := by
                intro t k
                refine go198 t ?_
                refine o_ifY X67 hx hby at_692 716 rfl (teq hc692_70).1 ?_
                refine o_lload X67 hx hby at_716 718 rfl rfl ?_
                refine o_lload X67 hx hby at_718 720 rfl rfl ?_
                refine o_lcmp X67 hx hby at_720 721 rfl ?_
                exact k
              obtain ⟨v61, hv61, go205⟩ : ∃ (v61 : Int32), v61 = (if r65_dg = v19 then (if r65_dc = (1 : Int32) then (1 : Int32) else (0 : Int32)) else (0 : Int32)) ∧ Go p e below A0 (T67.setTop (mkF m 735 #[.val (.long q0), .second, .val (.int p1), .val (.int p2), .val (.int p3), .val (.ref b1), .val (.int v9), .val (.int v10), .val (.int v11), .val (.int v12), .val (.int v13), .val (.int v14), .val (.ref b12), .val (.long v19), .second, .val (.int v22), .val (.int v24), .val (.int v25), .val (.int v30), .val (.int v35), .val (.int v40), .val (.int v44), .val (.long v48), .second, .val (.long v49), .second, .val (.int v56), .val (.ref b55), .val (.int r57_r), .val (.int v59), .val (.int r65_r), .val (.long r65_dg), .second, .val (.int r65_dc)] [(.int v61)])) := by
                by_cases hc721_71 : r65_dg = v19
                · have go200 : Go p e below A0 (T67.setTop (mkF m 727 #[.val (.long q0), .second, .val (.int p1), .val (.int p2), .val (.int p3), .val (.ref b1), .val (.int v9), .val (.int v10), .val (.int v11), .val (.int v12), .val (.int v13), .val (.int v14), .val (.ref b12), .val (.long v19), .second, .val (.int v22), .val (.int v24), .val (.int v25), .val (.int v30), .val (.int v35), .val (.int v40), .val (.int v44), .val (.long v48), .second, .val (.long v49), .second, .val (.int v56), .val (.ref b55), .val (.int r57_r), .val (.int v59), .val (.int r65_r), .val (.long r65_dg), .second, .val (.int r65_dc)] [(.int (1 : Int32)), (.int r65_dc)])) := by
                    intro t k
                    refine go199 t ?_
                    refine o_ifN X67 hx hby at_721 724 rfl (teq ((lw_eq r65_dg v19).mpr hc721_71)).2 ?_
                    refine o_iload X67 hx hby at_724 726 rfl rfl ?_
                    refine o_iconst X67 hx hby at_726 727 rfl (v := (1 : Int32)) rfl ?_
                    exact k
                  obtain ⟨v60, hv60, go203⟩ : ∃ (v60 : Int32), v60 = (if r65_dc = (1 : Int32) then (1 : Int32) else (0 : Int32)) ∧ Go p e below A0 (T67.setTop (mkF m 735 #[.val (.long q0), .second, .val (.int p1), .val (.int p2), .val (.int p3), .val (.ref b1), .val (.int v9), .val (.int v10), .val (.int v11), .val (.int v12), .val (.int v13), .val (.int v14), .val (.ref b12), .val (.long v19), .second, .val (.int v22), .val (.int v24), .val (.int v25), .val (.int v30), .val (.int v35), .val (.int v40), .val (.int v44), .val (.long v48), .second, .val (.long v49), .second, .val (.int v56), .val (.ref b55), .val (.int r57_r), .val (.int v59), .val (.int r65_r), .val (.long r65_dg), .second, .val (.int r65_dc)] [(.int v60)])) := by
                    by_cases hc727_72 : r65_dc = (1 : Int32)
                    · have go201 : Go p e below A0 (T67.setTop (mkF m 735 #[.val (.long q0), .second, .val (.int p1), .val (.int p2), .val (.int p3), .val (.ref b1), .val (.int v9), .val (.int v10), .val (.int v11), .val (.int v12), .val (.int v13), .val (.int v14), .val (.ref b12), .val (.long v19), .second, .val (.int v22), .val (.int v24), .val (.int v25), .val (.int v30), .val (.int v35), .val (.int v40), .val (.int v44), .val (.long v48), .second, .val (.long v49), .second, .val (.int v56), .val (.ref b55), .val (.int r57_r), .val (.int v59), .val (.int r65_r), .val (.long r65_dg), .second, .val (.int r65_dc)] [(.int (1 : Int32))])) := by
                        intro t k
                        refine go200 t ?_
                        refine o_icmpN X67 hx hby at_727 730 rfl (teq hc727_72).2 ?_
                        refine o_iconst X67 hx hby at_730 731 rfl (v := (1 : Int32)) rfl ?_
                        refine o_goto X67 hx hby at_731 735 rfl ?_
                        exact k
                      exact ⟨(1 : Int32), (if_pos hc727_72).symm, go201⟩
                    · have go202 : Go p e below A0 (T67.setTop (mkF m 735 #[.val (.long q0), .second, .val (.int p1), .val (.int p2), .val (.int p3), .val (.ref b1), .val (.int v9), .val (.int v10), .val (.int v11), .val (.int v12), .val (.int v13), .val (.int v14), .val (.ref b12), .val (.long v19), .second, .val (.int v22), .val (.int v24), .val (.int v25), .val (.int v30), .val (.int v35), .val (.int v40), .val (.int v44), .val (.long v48), .second, .val (.long v49), .second, .val (.int v56), .val (.ref b55), .val (.int r57_r), .val (.int v59), .val (.int r65_r), .val (.long r65_dg), .second, .val (.int r65_dc)] [(.int (0 : Int32))])) := by
                        intro t k
                        refine go200 t ?_
                        refine o_icmpY X67 hx hby at_727 734 rfl (feq hc727_72).2 ?_
                        refine o_iconst X67 hx hby at_734 735 rfl (v := (0 : Int32)) rfl ?_
                        exact k
                      exact ⟨(0 : Int32), (if_neg hc727_72).symm, go202⟩
                  rw [hv60] at go203
                  exact ⟨(if r65_dc = (1 : Int32) then (1 : Int32) else (0 : Int32)), (if_pos hc721_71).symm, go203⟩
                · have go204 : Go p e below A0 (T67.setTop (mkF m 735 #[.val (.long q0), .second, .val (.int p1), .val (.int p2), .val (.int p3), .val (.ref b1), .val (.int v9), .val (.int v10), .val (.int v11), .val (.int v12), .val (.int v13), .val (.int v14), .val (.ref b12), .val (.long v19), .second, .val (.int v22), .val (.int v24), .val (.int v25), .val (.int v30), .val (.int v35), .val (.int v40), .val (.int v44), .val (.long v48), .second, .val (.long v49), .second, .val (.int v56), .val (.ref b55), .val (.int r57_r), .val (.int v59), .val (.int r65_r), .val (.long r65_dg), .second, .val (.int r65_dc)] [(.int (0 : Int32))])) := by
                    intro t k
                    refine go199 t ?_
                    refine o_ifY X67 hx hby at_721 734 rfl (feq (fun q => hc721_71 ((lw_eq r65_dg v19).mp q))).2 ?_
                    refine o_iconst X67 hx hby at_734 735 rfl (v := (0 : Int32)) rfl ?_
                    exact k
                  exact ⟨(0 : Int32), (if_neg hc721_71).symm, go204⟩
              rw [hv61] at go205
              exact ⟨(if r65_dg = v19 then (if r65_dc = (1 : Int32) then (1 : Int32) else (0 : Int32)) else (0 : Int32)), _, _, _, (if_pos hc692_70).symm, (hb hby at_735), go205⟩
            · have go206 : Go p e below A0 (T67.setTop (mkF m 700 #[.val (.long q0), .second, .val (.int p1), .val (.int p2), .val (.int p3), .val (.ref b1), .val (.int v9), .val (.int v10), .val (.int v11), .val (.int v12), .val (.int v13), .val (.int v14), .val (.ref b12), .val (.long v19), .second, .val (.int v22), .val (.int v24), .val (.int v25), .val (.int v30), .val (.int v35), .val (.int v40), .val (.int v44), .val (.long v48), .second, .val (.long v49), .second, .val (.int v56), .val (.ref b55), .val (.int r57_r), .val (.int v59), .val (.int r65_r), .val (.long r65_dg), .second, .val (.int r65_dc)] [(.int (lcmpW r65_dg v49))])) := by
                intro t k
                refine go198 t ?_
                refine o_ifN X67 hx hby at_692 695 rfl (feq hc692_70).1 ?_
                refine o_lload X67 hx hby at_695 697 rfl rfl ?_
                refine o_lload X67 hx hby at_697 699 rfl rfl ?_
                refine o_lcmp X67 hx hby at_699 700 rfl ?_
                exact k
              obtain ⟨v63, hv63, go212⟩ : ∃ (v63 : Int32), v63 = (if r65_dg = v49 then (if r65_dc = v56 then (1 : Int32) else (0 : Int32)) else (0 : Int32)) ∧ Go p e below A0 (T67.setTop (mkF m 715 #[.val (.long q0), .second, .val (.int p1), .val (.int p2), .val (.int p3), .val (.ref b1), .val (.int v9), .val (.int v10), .val (.int v11), .val (.int v12), .val (.int v13), .val (.int v14), .val (.ref b12), .val (.long v19), .second, .val (.int v22), .val (.int v24), .val (.int v25), .val (.int v30), .val (.int v35), .val (.int v40), .val (.int v44), .val (.long v48), .second, .val (.long v49), .second, .val (.int v56), .val (.ref b55), .val (.int r57_r), .val (.int v59), .val (.int r65_r), .val (.long r65_dg), .second, .val (.int r65_dc)] [(.int v63)])) := by
                by_cases hc700_73 : r65_dg = v49
                · have go207 : Go p e below A0 (T67.setTop (mkF m 707 #[.val (.long q0), .second, .val (.int p1), .val (.int p2), .val (.int p3), .val (.ref b1), .val (.int v9), .val (.int v10), .val (.int v11), .val (.int v12), .val (.int v13), .val (.int v14), .val (.ref b12), .val (.long v19), .second, .val (.int v22), .val (.int v24), .val (.int v25), .val (.int v30), .val (.int v35), .val (.int v40), .val (.int v44), .val (.long v48), .second, .val (.long v49), .second, .val (.int v56), .val (.ref b55), .val (.int r57_r), .val (.int v59), .val (.int r65_r), .val (.long r65_dg), .second, .val (.int r65_dc)] [(.int v56), (.int r65_dc)])) := by
                    intro t k
                    refine go206 t ?_
                    refine o_ifN X67 hx hby at_700 703 rfl (teq ((lw_eq r65_dg v49).mpr hc700_73)).2 ?_
                    refine o_iload X67 hx hby at_703 705 rfl rfl ?_
                    refine o_iload X67 hx hby at_705 707 rfl rfl ?_
                    exact k
                  obtain ⟨v62, hv62, go210⟩ : ∃ (v62 : Int32), v62 = (if r65_dc = v56 then (1 : Int32) else (0 : Int32)) ∧ Go p e below A0 (T67.setTop (mkF m 715 #[.val (.long q0), .second, .val (.int p1), .val (.int p2), .val (.int p3), .val (.ref b1), .val (.int v9), .val (.int v10), .val (.int v11), .val (.int v12), .val (.int v13), .val (.int v14), .val (.ref b12), .val (.long v19), .second, .val (.int v22), .val (.int v24), .val (.int v25), .val (.int v30), .val (.int v35), .val (.int v40), .val (.int v44), .val (.long v48), .second, .val (.long v49), .second, .val (.int v56), .val (.ref b55), .val (.int r57_r), .val (.int v59), .val (.int r65_r), .val (.long r65_dg), .second, .val (.int r65_dc)] [(.int v62)])) := by
                    by_cases hc707_74 : r65_dc = v56
                    · have go208 : Go p e below A0 (T67.setTop (mkF m 715 #[.val (.long q0), .second, .val (.int p1), .val (.int p2), .val (.int p3), .val (.ref b1), .val (.int v9), .val (.int v10), .val (.int v11), .val (.int v12), .val (.int v13), .val (.int v14), .val (.ref b12), .val (.long v19), .second, .val (.int v22), .val (.int v24), .val (.int v25), .val (.int v30), .val (.int v35), .val (.int v40), .val (.int v44), .val (.long v48), .second, .val (.long v49), .second, .val (.int v56), .val (.ref b55), .val (.int r57_r), .val (.int v59), .val (.int r65_r), .val (.long r65_dg), .second, .val (.int r65_dc)] [(.int (1 : Int32))])) := by
                        intro t k
                        refine go207 t ?_
                        refine o_icmpN X67 hx hby at_707 710 rfl (teq hc707_74).2 ?_
                        refine o_iconst X67 hx hby at_710 711 rfl (v := (1 : Int32)) rfl ?_
                        refine o_goto X67 hx hby at_711 715 rfl ?_
                        exact k
                      exact ⟨(1 : Int32), (if_pos hc707_74).symm, go208⟩
                    · have go209 : Go p e below A0 (T67.setTop (mkF m 715 #[.val (.long q0), .second, .val (.int p1), .val (.int p2), .val (.int p3), .val (.ref b1), .val (.int v9), .val (.int v10), .val (.int v11), .val (.int v12), .val (.int v13), .val (.int v14), .val (.ref b12), .val (.long v19), .second, .val (.int v22), .val (.int v24), .val (.int v25), .val (.int v30), .val (.int v35), .val (.int v40), .val (.int v44), .val (.long v48), .second, .val (.long v49), .second, .val (.int v56), .val (.ref b55), .val (.int r57_r), .val (.int v59), .val (.int r65_r), .val (.long r65_dg), .second, .val (.int r65_dc)] [(.int (0 : Int32))])) := by
                        intro t k
                        refine go207 t ?_
                        refine o_icmpY X67 hx hby at_707 714 rfl (feq hc707_74).2 ?_
                        refine o_iconst X67 hx hby at_714 715 rfl (v := (0 : Int32)) rfl ?_
                        exact k
                      exact ⟨(0 : Int32), (if_neg hc707_74).symm, go209⟩
                  rw [hv62] at go210
                  exact ⟨(if r65_dc = v56 then (1 : Int32) else (0 : Int32)), (if_pos hc700_73).symm, go210⟩
                · have go211 : Go p e below A0 (T67.setTop (mkF m 715 #[.val (.long q0), .second, .val (.int p1), .val (.int p2), .val (.int p3), .val (.ref b1), .val (.int v9), .val (.int v10), .val (.int v11), .val (.int v12), .val (.int v13), .val (.int v14), .val (.ref b12), .val (.long v19), .second, .val (.int v22), .val (.int v24), .val (.int v25), .val (.int v30), .val (.int v35), .val (.int v40), .val (.int v44), .val (.long v48), .second, .val (.long v49), .second, .val (.int v56), .val (.ref b55), .val (.int r57_r), .val (.int v59), .val (.int r65_r), .val (.long r65_dg), .second, .val (.int r65_dc)] [(.int (0 : Int32))])) := by
                    intro t k
                    refine go206 t ?_
                    refine o_ifY X67 hx hby at_700 714 rfl (feq (fun q => hc700_73 ((lw_eq r65_dg v49).mp q))).2 ?_
                    refine o_iconst X67 hx hby at_714 715 rfl (v := (0 : Int32)) rfl ?_
                    exact k
                  exact ⟨(0 : Int32), (if_neg hc700_73).symm, go211⟩
              rw [hv63] at go212
              exact ⟨(if r65_dg = v49 then (if r65_dc = v56 then (1 : Int32) else (0 : Int32)) else (0 : Int32)), _, _, _, (if_neg hc692_70).symm, (hb hby at_715), go212⟩
          rw [hv64] at go213
          exact ⟨(if v44 = (0 : Int32) then (if r65_dg = v19 then (if r65_dc = (1 : Int32) then (1 : Int32) else (0 : Int32)) else (0 : Int32)) else (if r65_dg = v49 then (if r65_dc = v56 then (1 : Int32) else (0 : Int32)) else (0 : Int32))), _, _, _, (if_pos hc685_69).symm, hd75, go213⟩
        · have go214 : Go p e below A0 (T67.setTop (mkF m 689 #[.val (.long q0), .second, .val (.int p1), .val (.int p2), .val (.int p3), .val (.ref b1), .val (.int v9), .val (.int v10), .val (.int v11), .val (.int v12), .val (.int v13), .val (.int v14), .val (.ref b12), .val (.long v19), .second, .val (.int v22), .val (.int v24), .val (.int v25), .val (.int v30), .val (.int v35), .val (.int v40), .val (.int v44), .val (.long v48), .second, .val (.long v49), .second, .val (.int v56), .val (.ref b55), .val (.int r57_r), .val (.int v59), .val (.int r65_r), .val (.long r65_dg), .second, .val (.int r65_dc)] [(.int (0 : Int32))])) := by
            intro t k
            refine go197 t ?_
            refine o_icmpN X67 hx hby at_685 688 rfl (feq hc685_69).1 ?_
            refine o_iconst X67 hx hby at_688 689 rfl (v := (0 : Int32)) rfl ?_
            exact k
          exact ⟨(0 : Int32), _, _, _, (if_neg hc685_69).symm, (hb hby at_689), go214⟩
      rw [hv65] at go215
      exact ⟨(if r65_r = v44 then (if v44 = (0 : Int32) then (if r65_dg = v19 then (if r65_dc = (1 : Int32) then (1 : Int32) else (0 : Int32)) else (0 : Int32)) else (if r65_dg = v49 then (if r65_dc = v56 then (1 : Int32) else (0 : Int32)) else (0 : Int32))) else (0 : Int32)), _, _, _, (if_neg hc678_68).symm, hd76, go215⟩
  have h1 : v66 = (1 : Int32) := pl_0_0 q0 p1 p2 p3 v1 v2 v3 v4 v5 v6 v7 v8 v9 v10 v11 v12 v13 v14 v15 v16 v17 v18 v19 v22 v24 v25 v26 v27 v28 v29 v30 v31 v32 v33 v34 v35 v36 v37 v38 v39 v40 v44 v45 v46 v47 v48 v49 v50 v51 v52 v53 v54 v55 v56 r57_r r57_dg r57_dc v59 r65_r r65_dg r65_dc v66 hv1 hv2 hv3 hv4 hv5 hv6 hv7 hv8 hv9 hv10 hv11 hv12 hv13 hv14 hv15 hv16 hv17 hv18 hv19 hv22 hv24 hv25 hv26 hv27 hv28 hv29 hv30 hv31 hv32 hv33 hv34 hv35 hv36 hv37 hv38 hv39 hv40 hv44 hv45 hv46 hv47 hv48 hv49 hv50 hv51 hv52 hv53 hv54 hv55 hv56 hv59 hv66 qf57_2 qf65_2
  rw [h1] at go216
  rw [hA0] at go216
  obtain ⟨fs, hr, hrun, hended, hW, hsame⟩ := X67.leave (v := some (.int (1 : Int32))) (fun h => by rw [Bd.returns] at h; cases h)
  refine ⟨_, _, go216 _ (o_retZ X67 hx Bd.returns hd77 (Or.inr rfl) hr), hrun, hended, _, _, rfl, ?_, ⟨_, rfl⟩, hW, hsame.mono (by decide) (by decide)⟩
  show Q0 Z q0 p1 p2 p3 h0 n0 _ T67.heap _
  rw [e67]
  exact ⟨rfl, N67⟩
set_option maxRecDepth 65536 in
set_option maxHeartbeats 40000000 in
theorem comes_1 {Post : Tables → Env → Array Value → State → Outcome → State → Prop} (hpost : ∀ tb e args s v u, (limb_1_1.after args s (.returned v) u = true ∧ limb_1_2.after args s (.returned v) u = true ∧ True) → FrameEnd s (.returned v) u (Jvm.fieldLocs frame_1_writes args s ++ Jvm.arrayLocs frame_1_arrays args s ++ Jvm.staticLocs frame_1_statics s) 16 128 → Post tb e args s (.returned v) u) :
    ArmFor flags0 classFile x code maxLocals ret World_1 tables_1 room_1 Calls_1 rest_1 Pre_1 Post := by
  intro l hfl _ _ p e ha hc hk s m args below hf hA hF happ hP
  obtain ⟨hcalls, hrest, hpre⟩ := hP
  obtain ⟨-, -, -, hnamed, -, -, -, hat⟩ := (Spec.applies_iff hf).mp happ
  obtain ⟨hg, hn⟩ := and_e (Cond.before_iff.mp (show (Jvm.Cond.and given_1 narrow_1).before args s = true from hpre))
  obtain ⟨g1, g2⟩ := and_e hg
  obtain ⟨g3, g4⟩ := and_e g2
  obtain ⟨g5, g6⟩ := and_e g4
  obtain ⟨g7, g8⟩ := and_e g6
  obtain ⟨w0, w1, w2, w3, rfl⟩ : ∃ w0 w1 w2 w3 : Value, args = #[w0, w1, w2, w3] := by
    have hs : args.size = 4 := by simpa [Cond.value, given_1] using g1
    obtain ⟨L⟩ := args
    match L, hs with
    | [w0, w1, w2, w3], _ => exact ⟨w0, w1, w2, w3, rfl⟩
  have hw := fun d (hd : d ∈ tables_1) => atoms_spec (ws := Jvm.Cond.code x code maxLocals ret :: tables_1) hat d (List.mem_cons_of_mem _ hd)
  have hfit : Fit s := fun {y c} hc i hi => by
    obtain ⟨ha, rfl⟩ := Array.getElem?_eq_some_iff.mp hc
    have q := List.all_eq_true.mp ((Array.all_eq_true_iff_forall_mem.mp hF) _ (Array.getElem_mem ha)) i (List.mem_range.mpr hi)
    simpa [Array.getElem?_eq_getElem hi] using q
  obtain ⟨i0, ei0⟩ := isL_v g3
  obtain rfl : w0 = (.long i0) := Option.some.inj ei0
  obtain ⟨i1, ei1⟩ := is_v g5
  obtain rfl : w1 = (.int i1) := Option.some.inj ei1
  obtain ⟨i2, ei2⟩ := is_v g7
  obtain rfl : w2 = (.int i2) := Option.some.inj ei2
  obtain ⟨i3, ei3⟩ := is_v g8
  obtain rfl : w3 = (.int i3) := Option.some.inj ei3
  obtain ⟨n, o, h1, h2, h3, _, L, rfl, ⟨rfl, N⟩, hq⟩ := rm0 l s _ hw tables_1 i0 i1 i2 i3 s.heap s.heap.size (Nat.le_refl _)  p e ha hc hk s m _ below hf ((Spec.applies_iff_loose hf).mp happ).1 ⟨rfl, State.Warmed39.refl s, rfl⟩ trivial
  refine ⟨n, _, h1, h2, h3, hpost _ _ _ _ _ _ ⟨Cond.after_iff.mpr rfl, Cond.after_iff.mpr (eq_i res_at (Term.int_eval (1)) rfl), trivial⟩ ⟨hq.1, hq.2.1, (hq.2.2.sift fun y hy => Or.inr (N y hy)).mono (by decide) (by decide)⟩⟩
theorem main_1_1 : Claimed_1_1 := comes_1 fun _ _ _ _ _ _ h hF => ⟨h.1, hF⟩
theorem main_1_2 : Claimed_1_2 := comes_1 fun _ _ _ _ _ _ h hF => ⟨h.2.1, hF⟩
end Jvm.Pilot.@@N@@
namespace Jvm.Pilot.@@N@@
open Jvm Jvm.ClassFile Sem Op Lib Jvm.Free Jvm.Stand Jvm.Pilot.@@N@@.Jvm.D
/-! MADE BY PROGRAM (witnessworld.py) out of the Statement's table words and the real class files: 9 classes; the members and pool entries that the words name. The judged class is class 1, her method 9. -/
namespace start1
open Jvm.ClassFile
def u (s : String) : CpInfo := .utf8 (stringToUtf16 s)
/-- a pool by its gaps: so many unusable entries, then the entry; so many at the end -/
def gap : Nat → List CpInfo → List CpInfo
  | 0, r => r
  | n + 1, r => .unusable :: gap n r
def poolList (es : List (Nat × CpInfo)) (last : Nat) : List CpInfo := es.foldr (fun e r => gap e.1 (e.2 :: r)) (gap last [])
def pool (es : List (Nat × CpInfo)) (last : Nat) : Array CpInfo := ⟨poolList es last⟩
def fileOf (pool : Array CpInfo) (this : Nat) (attrs : Array Attribute := #[]) (ms : Array MethodInfo := #[]) (fl : Nat := 33) (sup : Nat := 0) (ifs : Array Nat := #[]) (fds : Array FieldInfo := #[]) : ClassFile where
  minorVersion := 0
  majorVersion := 65
  constantPool := pool
  accessFlags := fl
  thisClass := this
  superClass := sup
  interfaces := ifs
  fields := fds
  methods := ms
  attributes := attrs
def plain (name : String) (sup : Option ClassId) : Class where
  name := name
  kind := .ordinary
  loader := none
  accessFlags := 33
  super := sup
  interfaces := #[]
  cf := none
  fields := #[]
  methods := #[]
  instanceTypes := #[]
  staticTypes := #[]
  resolved := #[]
  callSites := []
  init := .initialized
  statics := none
  mirror := none

def pool0 : Array CpInfo := pool [(5, u "<init>"), (0, u "()V"), (1, .class_ 10), (1, u "java/lang/Object")] 113

def k0c0 : Code := { maxStack := 0, maxLocals := 1, code := object_method_1_code, exceptionTable := #[], attributes := #[] }
def k0m0 : Method := { name := "<init>", desc := "()V", sig := { parameters := [], returnType := none }, accessFlags := 1, code := some k0c0 }
/-- java/lang/Object -/
def k0 : Class := { plain "java/lang/Object" none with
  accessFlags := 33
  interfaces := #[]
  cf := some (fileOf pool0 8 #[] #[{ accessFlags := 1, nameIndex := 5, descriptorIndex := 6, attributes := #[] }] 33 0 #[] #[])
  fields := #[]
  methods := #[k0m0]
  instanceTypes := #[]
  staticTypes := #[]
  resolved := Array.replicate 124 none
  statics := none }

def pool1 : Array CpInfo := pool [(2, .class_ 4), (0, .nameAndType 5 6), (0, u "java/lang/Object"), (0, u "<init>"), (0, u "()V"), (0, .integer 32768), (0, .methodref 9 10), (0, .class_ 11), (0, .nameAndType 12 13), (0, u "com/example/amortine/amortine/cli/DigitsReadPinLaw"), (0, u "in"), (0, u "(III)Z"), (0, .methodref 9 15), (0, .nameAndType 16 17), (0, u "isDigit"), (0, u "(B)Z"), (0, .methodref 9 19), (0, .nameAndType 20 21), (0, u "digitAt"), (0, u "([BIII)I"), (0, .long 10), (1, .methodref 9 25), (0, .nameAndType 26 21), (0, u "dotAt"), (0, .long 65535), (1, .methodref 9 30), (0, .nameAndType 31 32), (0, u "pick"), (0, u "(I)B"), (0, .methodref 9 34), (0, .nameAndType 35 21), (0, u "otherAt"), (0, .methodref 9 37), (0, .nameAndType 38 39), (0, u "horner"), (0, u "(J[BIII)J"), (0, .methodref 9 41), (0, .nameAndType 42 21), (0, u "dotsBefore"), (0, .class_ 44), (0, u "com/example/amortine/amortine/cli/Options$Digits"), (0, .methodref 43 3), (0, .methodref 43 47), (0, .nameAndType 48 49), (0, u "read"), (0, u "([BIIZ)Z"), (0, .methodref 43 51), (0, .nameAndType 52 53), (0, u "digits"), (0, u "()J"), (0, .methodref 43 55), (0, .nameAndType 56 57), (0, u "decimals"), (0, u "()I"), (3, u "law"), (0, u "(JIII)Z")] 8

def k1m0 : Method := { name := "<init>", desc := "()V", sig := { parameters := [], returnType := none }, accessFlags := 2, code := none }
def k1c1 : Code := { maxStack := 3, maxLocals := 2, code := method_2_code, exceptionTable := #[], attributes := #[] }
def k1m1 : Method := { name := "pick", desc := "(I)B", sig := { parameters := [.int], returnType := some .byte }, accessFlags := 10, code := some k1c1 }
def k1c2 : Code := { maxStack := 2, maxLocals := 1, code := method_3_code, exceptionTable := #[], attributes := #[] }
def k1m2 : Method := { name := "isDigit", desc := "(B)Z", sig := { parameters := [.byte], returnType := some .boolean }, accessFlags := 10, code := some k1c2 }
def k1c3 : Code := { maxStack := 2, maxLocals := 3, code := method_4_code, exceptionTable := #[], attributes := #[] }
def k1m3 : Method := { name := "in", desc := "(III)Z", sig := { parameters := [.int, .int, .int], returnType := some .boolean }, accessFlags := 10, code := some k1c3 }
def k1c4 : Code := { maxStack := 3, maxLocals := 4, code := method_5_code, exceptionTable := #[], attributes := #[] }
def k1m4 : Method := { name := "digitAt", desc := "([BIII)I", sig := { parameters := [(.array .byte), .int, .int, .int], returnType := some .int }, accessFlags := 10, code := some k1c4 }
def k1c5 : Code := { maxStack := 3, maxLocals := 4, code := method_6_code, exceptionTable := #[], attributes := #[] }
def k1m5 : Method := { name := "dotAt", desc := "([BIII)I", sig := { parameters := [(.array .byte), .int, .int, .int], returnType := some .int }, accessFlags := 10, code := some k1c5 }
def k1c6 : Code := { maxStack := 3, maxLocals := 4, code := method_7_code, exceptionTable := #[], attributes := #[] }
def k1m6 : Method := { name := "otherAt", desc := "([BIII)I", sig := { parameters := [(.array .byte), .int, .int, .int], returnType := some .int }, accessFlags := 10, code := some k1c6 }
def k1c7 : Code := { maxStack := 4, maxLocals := 6, code := method_8_code, exceptionTable := #[], attributes := #[] }
def k1m7 : Method := { name := "horner", desc := "(J[BIII)J", sig := { parameters := [.long, (.array .byte), .int, .int, .int], returnType := some .long }, accessFlags := 10, code := some k1c7 }
def k1c8 : Code := { maxStack := 5, maxLocals := 5, code := method_9_code, exceptionTable := #[], attributes := #[] }
def k1m8 : Method := { name := "dotsBefore", desc := "([BIII)I", sig := { parameters := [(.array .byte), .int, .int, .int], returnType := some .int }, accessFlags := 10, code := some k1c8 }
def k1c9 : Code := { maxStack := 7, maxLocals := 34, code := code, exceptionTable := #[], attributes := #[] }
def k1m9 : Method := { name := "law", desc := "(JIII)Z", sig := { parameters := [.long, .int, .int, .int], returnType := some .boolean }, accessFlags := 9, code := some k1c9 }
/-- com/example/amortine/amortine/cli/DigitsReadPinLaw -/
def k1 : Class := { plain "com/example/amortine/amortine/cli/DigitsReadPinLaw" (some 0) with
  accessFlags := 49
  interfaces := #[]
  cf := some (fileOf pool1 9 #[] #[{ accessFlags := 2, nameIndex := 5, descriptorIndex := 6, attributes := #[] }, { accessFlags := 10, nameIndex := 31, descriptorIndex := 32, attributes := #[] }, { accessFlags := 10, nameIndex := 16, descriptorIndex := 17, attributes := #[] }, { accessFlags := 10, nameIndex := 12, descriptorIndex := 13, attributes := #[] }, { accessFlags := 10, nameIndex := 20, descriptorIndex := 21, attributes := #[] }, { accessFlags := 10, nameIndex := 26, descriptorIndex := 21, attributes := #[] }, { accessFlags := 10, nameIndex := 35, descriptorIndex := 21, attributes := #[] }, { accessFlags := 10, nameIndex := 38, descriptorIndex := 39, attributes := #[] }, { accessFlags := 10, nameIndex := 42, descriptorIndex := 21, attributes := #[] }, { accessFlags := 9, nameIndex := 61, descriptorIndex := 62, attributes := #[] }] 49 2 #[] #[])
  fields := #[]
  methods := #[k1m0, k1m1, k1m2, k1m3, k1m4, k1m5, k1m6, k1m7, k1m8, k1m9]
  instanceTypes := #[]
  staticTypes := #[]
  resolved := Array.replicate 71 none
  statics := none }

def pool2 : Array CpInfo := pool [(1, .methodref 2 3), (0, .class_ 4), (0, .nameAndType 5 6), (0, u "java/lang/Object"), (0, u "<init>"), (0, u "()V"), (0, .long 10), (1, .fieldref 10 11), (0, .class_ 12), (0, .nameAndType 13 14), (0, u "com/example/amortine/amortine/cli/Options$Digits"), (0, u "digits"), (0, u "J"), (0, .fieldref 10 16), (0, .nameAndType 17 18), (0, u "decimals"), (0, u "I"), (2, u "read"), (0, u "([BIIZ)Z"), (3, u "()J"), (0, u "()I"), (3, .class_ 32), (0, u "com/example/amortine/amortine/cli/Options")] 2

def k2c0 : Code := { maxStack := 1, maxLocals := 1, code := prog_121_method_1_code, exceptionTable := #[], attributes := #[] }
def k2m0 : Method := { name := "<init>", desc := "()V", sig := { parameters := [], returnType := none }, accessFlags := 0, code := some k2c0 }
def k2c1 : Code := { maxStack := 4, maxLocals := 15, code := prog_121_method_2_code, exceptionTable := #[], attributes := #[] }
def k2m1 : Method := { name := "read", desc := "([BIIZ)Z", sig := { parameters := [(.array .byte), .int, .int, .boolean], returnType := some .boolean }, accessFlags := 0, code := some k2c1 }
def k2c2 : Code := { maxStack := 2, maxLocals := 1, code := prog_121_method_3_code, exceptionTable := #[], attributes := #[] }
def k2m2 : Method := { name := "digits", desc := "()J", sig := { parameters := [], returnType := some .long }, accessFlags := 0, code := some k2c2 }
def k2c3 : Code := { maxStack := 1, maxLocals := 1, code := prog_121_method_4_code, exceptionTable := #[], attributes := #[] }
def k2m3 : Method := { name := "decimals", desc := "()I", sig := { parameters := [], returnType := some .int }, accessFlags := 0, code := some k2c3 }
/-- com/example/amortine/amortine/cli/Options$Digits -/
def k2 : Class := { plain "com/example/amortine/amortine/cli/Options$Digits" (some 0) with
  accessFlags := 48
  interfaces := #[]
  cf := some (fileOf pool2 10 #[.nestHost 31] #[{ accessFlags := 0, nameIndex := 5, descriptorIndex := 6, attributes := #[] }, { accessFlags := 0, nameIndex := 21, descriptorIndex := 22, attributes := #[] }, { accessFlags := 0, nameIndex := 13, descriptorIndex := 26, attributes := #[] }, { accessFlags := 0, nameIndex := 17, descriptorIndex := 27, attributes := #[] }] 48 2 #[] #[{ accessFlags := 2, nameIndex := 13, descriptorIndex := 14, attributes := #[] }, { accessFlags := 2, nameIndex := 17, descriptorIndex := 18, attributes := #[] }])
  fields := #[{ name := "digits", type := .long, accessFlags := 2, slot := 0, constantValue := 0 }, { name := "decimals", type := .int, accessFlags := 2, slot := 1, constantValue := 0 }]
  methods := #[k2m0, k2m1, k2m2, k2m3]
  instanceTypes := #[.long, .int]
  staticTypes := #[]
  resolved := Array.replicate 35 none
  statics := none }

def pool3 : Array CpInfo := pool [(1, u "java/lang/Cloneable"), (0, .class_ 1), (0, u "java/lang/Object"), (0, .class_ 3)] 3

/-- java/lang/Cloneable -/
def k3 : Class := { plain "java/lang/Cloneable" (some 0) with
  accessFlags := 1537
  interfaces := #[]
  cf := some (fileOf pool3 2 #[] #[] 1537 4 #[] #[])
  fields := #[]
  methods := #[]
  instanceTypes := #[]
  staticTypes := #[]
  resolved := Array.replicate 8 none
  statics := none }

def pool4 : Array CpInfo := pool [(1, u "java/io/Serializable"), (0, .class_ 1), (0, u "java/lang/Object"), (0, .class_ 3)] 3

/-- java/io/Serializable -/
def k4 : Class := { plain "java/io/Serializable" (some 0) with
  accessFlags := 1537
  interfaces := #[]
  cf := some (fileOf pool4 2 #[] #[] 1537 4 #[] #[])
  fields := #[]
  methods := #[]
  instanceTypes := #[]
  staticTypes := #[]
  resolved := Array.replicate 8 none
  statics := none }

/-- the primitive byte -/
def k5 : Class := { plain "byte" none with kind := .primitive 'B', accessFlags := 0x411 }
/-- [B -/
def k6 : Class := { plain "[B" (some 0) with kind := .array 5 .byte, interfaces := #[3, 4], accessFlags := 1041 }

/-- the primitive int -/
def k7 : Class := { plain "int" none with kind := .primitive 'I', accessFlags := 0x411 }
/-- [I -/
def k8 : Class := { plain "[I" (some 0) with kind := .array 7 .int, interfaces := #[3, 4], accessFlags := 1041 }

def heap : Heap := #[]
def classes : Array Class := #[k0, k1, k2, k3, k4, k5, k6, k7, k8]
def interned : List (Array UInt16 × Addr) := []
def slotsUsed : Nat := 0
def theMethod : MethodId := ⟨1, 9⟩
def args0 : Array Value := #[.long 5, .int 7, .int 9, .int 3]
def aboutOver (below : List Frame) : State where
  vm := { classes := classes, interned := interned.toArray }
  heap := heap
  slotsUsed := slotsUsed
  threads := #[{ frames := .invoking theMethod args0 :: below }]
def below0 : List Frame := [.native { method := ⟨0, 0⟩, args := #[] }]
def about1 : State := aboutOver below0
def p0 : Program := .bare "" "" ""
def e0 : Env := launch0.env 0 0 0
theorem w_frames : about1.frames = Frame.invoking theMethod args0 :: below0 := rfl
set_option maxRecDepth 65536 in
theorem w_args : argsFit about1.vm theMethod args0 = true := by decide +kernel
set_option maxRecDepth 65536 in
theorem w_heap : heapFits about1 = true := by decide +kernel
set_option maxRecDepth 65536 in
theorem w_runnable : about1.curStatus? = some .runnable := by decide +kernel
set_option maxRecDepth 65536 in
theorem w_alone : about1.alone = true := by decide +kernel
set_option maxRecDepth 65536 in
theorem w_named : about1.methodNamed? x = some theMethod := by decide +kernel
set_option maxRecDepth 65536 in
theorem w_hears : about1.hears theMethod below0 = true := by decide +kernel
set_option maxRecDepth 65536 in
theorem w_ripe : about1.ripe theMethod args0 below0 = true := by decide +kernel
theorem w_running : about1.status = .running := rfl
set_option maxRecDepth 65536 in
theorem w_room : about1.hasRoom e0.platform room_1 = true :=
  launch0.hasRoom_least _ room_1 (by decide +kernel) (by decide +kernel) (by decide +kernel) (by decide +kernel) (by decide +kernel) (by decide +kernel)
theorem allAtoms_all (ts : List Jvm.Cond) (a : Array Jvm.Value) (st : Jvm.State) : (allAtoms ts).before a st = ts.all (fun c => c.before a st) := by
  induction ts with
  | nil => rfl
  | cons c t ih =>
    show (Jvm.Cond.and c (allAtoms t)).before a st = _
    rw [Jvm.Cond.before_and, ih, List.all_cons]
def words1 : List Jvm.Cond := Jvm.Cond.code x code maxLocals ret :: tables_1
/-- a 'code' word, met by the world's own term for the bytes: nothing is compared byte by byte -/
theorem code_word {y : MethodName} {bytes : ByteArray} {mx : Nat} {rt : Option FieldType} {a : Array Value} {s : State} {m : MethodId} {meth : Method} {c : Code} (h1 : s.methodNamed? y = some m) (h2 : s.vm.method? m = some meth) (h3 : meth.code = some c) (h4 : c.code = bytes)
    (h5 : (c.maxLocals == mx && c.exceptionTable.isEmpty && decide (c.maxStack ≤ mostOperands) && decide (meth.sig.returnType = rt) && !meth.locks && decide (parseMethodDescriptor y.desc = some meth.sig)) = true) : (Jvm.Cond.code y bytes mx rt).before a s = true := by
  simp only [Bool.and_eq_true, beq_iff_eq, Bool.not_eq_true', decide_eq_true_eq] at h5
  obtain ⟨⟨⟨⟨⟨g1, g2⟩, g3⟩, g4⟩, g5⟩, g6⟩ := h5
  simp [Cond.before, Cond.holds, Cond.value, h1, h2, h3, h4, g1, g2, g3, g4, g5, g6]
def isCode : Jvm.Cond → Bool
  | .code _ _ _ _ => true
  | _ => false
theorem all_split {L : List Jvm.Cond} {P : Jvm.Cond → Bool} (h1 : L.all (fun c => isCode c || P c) = true) (h2 : ∀ c ∈ L.filter isCode, P c = true) : L.all P = true := by
  refine List.all_eq_true.mpr fun c hc => ?_
  have h := List.all_eq_true.mp h1 c hc
  rcases Bool.eq_false_or_eq_true (isCode c) with hi | hi
  · exact h2 c (List.mem_filter.mpr ⟨hc, hi⟩)
  · simpa [hi] using h
set_option maxRecDepth 65536 in
theorem w_c0 : (Jvm.Cond.code x code maxLocals ret).before args0 about1 = true := code_word (m := ⟨1, 9⟩) (meth := k1m9) (c := k1c9) (by decide +kernel) rfl rfl rfl (by decide +kernel)
set_option maxRecDepth 65536 in
theorem w_c1 : (Jvm.Cond.code ({ cls := "com/example/amortine/amortine/cli/DigitsReadPinLaw", name := "pick", desc := "(I)B" } : Jvm.MethodName) method_2_code (2 : Nat) (Option.some Jvm.ClassFile.FieldType.byte)).before args0 about1 = true := code_word (m := ⟨1, 1⟩) (meth := k1m1) (c := k1c1) (by decide +kernel) rfl rfl rfl (by decide +kernel)
set_option maxRecDepth 65536 in
theorem w_c2 : (Jvm.Cond.code ({ cls := "com/example/amortine/amortine/cli/DigitsReadPinLaw", name := "digitAt", desc := "([BIII)I" } : Jvm.MethodName) method_5_code (4 : Nat) (Option.some Jvm.ClassFile.FieldType.int)).before args0 about1 = true := code_word (m := ⟨1, 4⟩) (meth := k1m4) (c := k1c4) (by decide +kernel) rfl rfl rfl (by decide +kernel)
set_option maxRecDepth 65536 in
theorem w_c3 : (Jvm.Cond.code ({ cls := "com/example/amortine/amortine/cli/DigitsReadPinLaw", name := "in", desc := "(III)Z" } : Jvm.MethodName) method_4_code (3 : Nat) (Option.some Jvm.ClassFile.FieldType.boolean)).before args0 about1 = true := code_word (m := ⟨1, 3⟩) (meth := k1m3) (c := k1c3) (by decide +kernel) rfl rfl rfl (by decide +kernel)
set_option maxRecDepth 65536 in
theorem w_c4 : (Jvm.Cond.code ({ cls := "com/example/amortine/amortine/cli/DigitsReadPinLaw", name := "dotAt", desc := "([BIII)I" } : Jvm.MethodName) method_6_code (4 : Nat) (Option.some Jvm.ClassFile.FieldType.int)).before args0 about1 = true := code_word (m := ⟨1, 5⟩) (meth := k1m5) (c := k1c5) (by decide +kernel) rfl rfl rfl (by decide +kernel)
set_option maxRecDepth 65536 in
theorem w_c5 : (Jvm.Cond.code ({ cls := "com/example/amortine/amortine/cli/DigitsReadPinLaw", name := "otherAt", desc := "([BIII)I" } : Jvm.MethodName) method_7_code (4 : Nat) (Option.some Jvm.ClassFile.FieldType.int)).before args0 about1 = true := code_word (m := ⟨1, 6⟩) (meth := k1m6) (c := k1c6) (by decide +kernel) rfl rfl rfl (by decide +kernel)
set_option maxRecDepth 65536 in
theorem w_c6 : (Jvm.Cond.code ({ cls := "com/example/amortine/amortine/cli/DigitsReadPinLaw", name := "horner", desc := "(J[BIII)J" } : Jvm.MethodName) method_8_code (6 : Nat) (Option.some Jvm.ClassFile.FieldType.long)).before args0 about1 = true := code_word (m := ⟨1, 7⟩) (meth := k1m7) (c := k1c7) (by decide +kernel) rfl rfl rfl (by decide +kernel)
set_option maxRecDepth 65536 in
theorem w_c7 : (Jvm.Cond.code ({ cls := "com/example/amortine/amortine/cli/DigitsReadPinLaw", name := "dotsBefore", desc := "([BIII)I" } : Jvm.MethodName) method_9_code (5 : Nat) (Option.some Jvm.ClassFile.FieldType.int)).before args0 about1 = true := code_word (m := ⟨1, 8⟩) (meth := k1m8) (c := k1c8) (by decide +kernel) rfl rfl rfl (by decide +kernel)
set_option maxRecDepth 65536 in
theorem w_c8 : (Jvm.Cond.code ({ cls := "com/example/amortine/amortine/cli/Options$Digits", name := "<init>", desc := "()V" } : Jvm.MethodName) prog_121_method_1_code (1 : Nat) (Option.none : Option Jvm.ClassFile.FieldType)).before args0 about1 = true := code_word (m := ⟨2, 0⟩) (meth := k2m0) (c := k2c0) (by decide +kernel) rfl rfl rfl (by decide +kernel)
set_option maxRecDepth 65536 in
theorem w_c9 : (Jvm.Cond.code ({ cls := "java/lang/Object", name := "<init>", desc := "()V" } : Jvm.MethodName) object_method_1_code (1 : Nat) (Option.none : Option Jvm.ClassFile.FieldType)).before args0 about1 = true := code_word (m := ⟨0, 0⟩) (meth := k0m0) (c := k0c0) (by decide +kernel) rfl rfl rfl (by decide +kernel)
set_option maxRecDepth 65536 in
theorem w_c10 : (Jvm.Cond.code ({ cls := "com/example/amortine/amortine/cli/Options$Digits", name := "read", desc := "([BIIZ)Z" } : Jvm.MethodName) prog_121_method_2_code (15 : Nat) (Option.some Jvm.ClassFile.FieldType.boolean)).before args0 about1 = true := code_word (m := ⟨2, 1⟩) (meth := k2m1) (c := k2c1) (by decide +kernel) rfl rfl rfl (by decide +kernel)
set_option maxRecDepth 65536 in
theorem w_c11 : (Jvm.Cond.code ({ cls := "com/example/amortine/amortine/cli/Options$Digits", name := "digits", desc := "()J" } : Jvm.MethodName) prog_121_method_3_code (1 : Nat) (Option.some Jvm.ClassFile.FieldType.long)).before args0 about1 = true := code_word (m := ⟨2, 2⟩) (meth := k2m2) (c := k2c2) (by decide +kernel) rfl rfl rfl (by decide +kernel)
set_option maxRecDepth 65536 in
theorem w_c12 : (Jvm.Cond.code ({ cls := "com/example/amortine/amortine/cli/Options$Digits", name := "decimals", desc := "()I" } : Jvm.MethodName) prog_121_method_4_code (1 : Nat) (Option.some Jvm.ClassFile.FieldType.int)).before args0 about1 = true := code_word (m := ⟨2, 3⟩) (meth := k2m3) (c := k2c3) (by decide +kernel) rfl rfl rfl (by decide +kernel)
set_option maxRecDepth 65536 in
theorem w_c13 : (Jvm.Cond.code ({ cls := "com/example/amortine/amortine/cli/DigitsReadPinLaw", name := "isDigit", desc := "(B)Z" } : Jvm.MethodName) method_3_code (1 : Nat) (Option.some Jvm.ClassFile.FieldType.boolean)).before args0 about1 = true := code_word (m := ⟨1, 2⟩) (meth := k1m2) (c := k1c2) (by decide +kernel) rfl rfl rfl (by decide +kernel)
def codes1 : List Jvm.Cond := [Jvm.Cond.code x code maxLocals ret, Jvm.Cond.code ({ cls := "com/example/amortine/amortine/cli/DigitsReadPinLaw", name := "pick", desc := "(I)B" } : Jvm.MethodName) method_2_code (2 : Nat) (Option.some Jvm.ClassFile.FieldType.byte), Jvm.Cond.code ({ cls := "com/example/amortine/amortine/cli/DigitsReadPinLaw", name := "digitAt", desc := "([BIII)I" } : Jvm.MethodName) method_5_code (4 : Nat) (Option.some Jvm.ClassFile.FieldType.int), Jvm.Cond.code ({ cls := "com/example/amortine/amortine/cli/DigitsReadPinLaw", name := "in", desc := "(III)Z" } : Jvm.MethodName) method_4_code (3 : Nat) (Option.some Jvm.ClassFile.FieldType.boolean), Jvm.Cond.code ({ cls := "com/example/amortine/amortine/cli/DigitsReadPinLaw", name := "dotAt", desc := "([BIII)I" } : Jvm.MethodName) method_6_code (4 : Nat) (Option.some Jvm.ClassFile.FieldType.int), Jvm.Cond.code ({ cls := "com/example/amortine/amortine/cli/DigitsReadPinLaw", name := "otherAt", desc := "([BIII)I" } : Jvm.MethodName) method_7_code (4 : Nat) (Option.some Jvm.ClassFile.FieldType.int), Jvm.Cond.code ({ cls := "com/example/amortine/amortine/cli/DigitsReadPinLaw", name := "horner", desc := "(J[BIII)J" } : Jvm.MethodName) method_8_code (6 : Nat) (Option.some Jvm.ClassFile.FieldType.long), Jvm.Cond.code ({ cls := "com/example/amortine/amortine/cli/DigitsReadPinLaw", name := "dotsBefore", desc := "([BIII)I" } : Jvm.MethodName) method_9_code (5 : Nat) (Option.some Jvm.ClassFile.FieldType.int), Jvm.Cond.code ({ cls := "com/example/amortine/amortine/cli/Options$Digits", name := "<init>", desc := "()V" } : Jvm.MethodName) prog_121_method_1_code (1 : Nat) (Option.none : Option Jvm.ClassFile.FieldType), Jvm.Cond.code ({ cls := "java/lang/Object", name := "<init>", desc := "()V" } : Jvm.MethodName) object_method_1_code (1 : Nat) (Option.none : Option Jvm.ClassFile.FieldType), Jvm.Cond.code ({ cls := "com/example/amortine/amortine/cli/Options$Digits", name := "read", desc := "([BIIZ)Z" } : Jvm.MethodName) prog_121_method_2_code (15 : Nat) (Option.some Jvm.ClassFile.FieldType.boolean), Jvm.Cond.code ({ cls := "com/example/amortine/amortine/cli/Options$Digits", name := "digits", desc := "()J" } : Jvm.MethodName) prog_121_method_3_code (1 : Nat) (Option.some Jvm.ClassFile.FieldType.long), Jvm.Cond.code ({ cls := "com/example/amortine/amortine/cli/Options$Digits", name := "decimals", desc := "()I" } : Jvm.MethodName) prog_121_method_4_code (1 : Nat) (Option.some Jvm.ClassFile.FieldType.int), Jvm.Cond.code ({ cls := "com/example/amortine/amortine/cli/DigitsReadPinLaw", name := "isDigit", desc := "(B)Z" } : Jvm.MethodName) method_3_code (1 : Nat) (Option.some Jvm.ClassFile.FieldType.boolean)]
set_option maxRecDepth 65536 in
theorem codes_eq : words1.filter isCode = codes1 := rfl
theorem w_codes : ∀ c ∈ words1.filter isCode, c.before args0 about1 = true := by
  rw [codes_eq]
  intro c hc
  simp only [codes1, List.mem_cons, List.not_mem_nil, or_false] at hc
  rcases hc with rfl | rfl | rfl | rfl | rfl | rfl | rfl | rfl | rfl | rfl | rfl | rfl | rfl | rfl
  · exact w_c0
  · exact w_c1
  · exact w_c2
  · exact w_c3
  · exact w_c4
  · exact w_c5
  · exact w_c6
  · exact w_c7
  · exact w_c8
  · exact w_c9
  · exact w_c10
  · exact w_c11
  · exact w_c12
  · exact w_c13
set_option maxRecDepth 65536 in
theorem w_t1 : (words1.take 24).all (fun c => isCode c || c.before args0 about1) = true := by decide +kernel
set_option maxRecDepth 65536 in
theorem w_t2 : ((words1.drop 24).take 24).all (fun c => isCode c || c.before args0 about1) = true := by decide +kernel
set_option maxRecDepth 65536 in
theorem w_t3 : ((words1.drop 24).drop 24).all (fun c => isCode c || c.before args0 about1) = true := by decide +kernel
theorem w_tables : (allAtoms (Jvm.Cond.code x code maxLocals ret :: tables_1)).before args0 about1 = true := by
  rw [allAtoms_all]
  show words1.all (fun c => c.before args0 about1) = true
  refine all_split ?_ w_codes
  rw [← List.take_append_drop 24 words1, List.all_append, w_t1, ← List.take_append_drop 24 (words1.drop 24), List.all_append, w_t2, w_t3]
  rfl
set_option maxRecDepth 65536 in
theorem w_case : (Jvm.Cond.and given_1 narrow_1).before args0 about1 = true := by decide +kernel
theorem w_applies : (headSpec (Jvm.Cond.code x code maxLocals ret :: tables_1) room_1).applies x e0.platform about1 = true :=
  (Spec.applies_iff w_frames).mpr ⟨w_running, w_runnable, w_alone, w_named, w_hears, w_ripe, w_room, w_tables⟩
theorem atStart : AtStart classFile x code maxLocals ret World_1 tables_1 room_1 Calls_1 rest_1 Pre_1 launch0 p0 e0 about1 theMethod args0 below0 :=
  ⟨lists_1, trivial, launch0.admits_env _ _ _, launch0.least_env, fairChoices_fair.cas, fairChoices_fair.clock, w_frames, w_args, w_heap, w_applies, trivial, trivial, w_case⟩
end start1
theorem witness_1 : WitnessClaimed_1 := ⟨start1.p0, start1.e0, start1.about1, start1.theMethod, start1.args0, start1.below0, start1.atStart⟩
end Jvm.Pilot.@@N@@
