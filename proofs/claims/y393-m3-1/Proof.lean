import JvmDerived
import JvmDerived.Pilot.@@N@@Statement
import JvmDerived.Pilot.@@N@@Code
set_option linter.unusedVariables false
set_option linter.unusedSimpArgs false
namespace Jvm.Pilot.@@N@@
open Jvm Jvm.ClassFile Sem Op Lib Jvm.Free Jvm.Stand Jvm.LawKit Jvm.RoadKit Bundle Jvm.Pilot.@@N@@.Jvm.D
/-- from A the run comes to B -/
abbrev Go (p : Program) (e : Env) (below : List Frame) (A B : State) : Prop := ∀ t, Steps p.tables e below B t → Steps p.tables e below A t
section Own
variable {p : Program} {l : Launch} {e : Env} {R : Room} {s : State} {m : MethodId} {args : Array Value} {below : List Frame} {meth : Method} {c : Code} {T : State} {locs : List Loc} {cells slots : Nat} {t : State} {A : ByteArray} {pc : Nat} {L : Array Slot} {S : List Value}
theorem o_iloadN (X : Stand p l e R s m args below meth c T locs cells slots) (hx : p.tables.exec = Jvm.exec) (hby : c.code = A) {k : Fin 4} {v : Int32} (hd : decode A pc = .ok (.iload_n k, 1)) (n : Nat) (hn : pc + 1 = n) (hl : L[k.val]? = some (.val (.int v))) (hr : Steps p.tables e below (T.setTop (mkF m n L (.int v :: S))) t) : Steps p.tables e below (T.setTop (mkF m pc L S)) t := by
  subst hn; exact XS.iloadN X.here hx rfl (hb hby hd) hl hr
theorem o_lloadN (X : Stand p l e R s m args below meth c T locs cells slots) (hx : p.tables.exec = Jvm.exec) (hby : c.code = A) {k : Fin 4} {v : Int64} (hd : decode A pc = .ok (.lload_n k, 1)) (n : Nat) (hn : pc + 1 = n) (hl : L[k.val]? = some (.val (.long v))) (hr : Steps p.tables e below (T.setTop (mkF m n L (.long v :: S))) t) : Steps p.tables e below (T.setTop (mkF m pc L S)) t := by
  subst hn; exact XS.lloadN X.here hx rfl (hb hby hd) hl hr
theorem o_aloadN (X : Stand p l e R s m args below meth c T locs cells slots) (hx : p.tables.exec = Jvm.exec) (hby : c.code = A) {k : Fin 4} {v : Value} (hd : decode A pc = .ok (.aload_n k, 1)) (n : Nat) (hn : pc + 1 = n) (hl : L[k.val]? = some (.val v)) (hv : v.isRef = true) (hr : Steps p.tables e below (T.setTop (mkF m n L (v :: S))) t) : Steps p.tables e below (T.setTop (mkF m pc L S)) t := by
  subst hn; exact XS.aloadN X.here hx rfl (hb hby hd) hl hv hr
theorem o_istoreN (X : Stand p l e R s m args below meth c T locs cells slots) (hx : p.tables.exec = Jvm.exec) (hby : c.code = A) {k : Fin 4} {v : Int32} {l' : Array Slot} (hd : decode A pc = .ok (.istore_n k, 1)) (n : Nat) (hn : pc + 1 = n) (hl : storeLocals L k.val (.int v) = some l') (hr : Steps p.tables e below (T.setTop (mkF m n l' S)) t) : Steps p.tables e below (T.setTop (mkF m pc L (.int v :: S))) t := by
  subst hn; exact XS.istoreN X.here hx rfl (hb hby hd) rfl hl hr
theorem o_lstoreN (X : Stand p l e R s m args below meth c T locs cells slots) (hx : p.tables.exec = Jvm.exec) (hby : c.code = A) {k : Fin 4} {v : Int64} {l' : Array Slot} (hd : decode A pc = .ok (.lstore_n k, 1)) (n : Nat) (hn : pc + 1 = n) (hl : storeLocals L k.val (.long v) = some l') (hr : Steps p.tables e below (T.setTop (mkF m n l' S)) t) : Steps p.tables e below (T.setTop (mkF m pc L (.long v :: S))) t := by
  subst hn; exact XS.lstoreN X.here hx rfl (hb hby hd) rfl hl hr
theorem o_astoreN (X : Stand p l e R s m args below meth c T locs cells slots) (hx : p.tables.exec = Jvm.exec) (hby : c.code = A) {k : Fin 4} {v : Value} {l' : Array Slot} (hd : decode A pc = .ok (.astore_n k, 1)) (n : Nat) (hn : pc + 1 = n) (hv : v.isRef = true) (hl : storeLocals L k.val v = some l') (hr : Steps p.tables e below (T.setTop (mkF m n l' S)) t) : Steps p.tables e below (T.setTop (mkF m pc L (v :: S))) t := by
  subst hn; exact XS.astoreN X.here hx rfl (hb hby hd) rfl hv hl hr
theorem o_iload (X : Stand p l e R s m args below meth c T locs cells slots) (hx : p.tables.exec = Jvm.exec) (hby : c.code = A) {k : Nat} {v : Int32} (hd : decode A pc = .ok (.iload k, 2)) (n : Nat) (hn : pc + 2 = n) (hl : L[k]? = some (.val (.int v))) (hr : Steps p.tables e below (T.setTop (mkF m n L (.int v :: S))) t) : Steps p.tables e below (T.setTop (mkF m pc L S)) t := by
  subst hn; exact XS.iload X.here hx rfl (hb hby hd) hl hr
theorem o_lload (X : Stand p l e R s m args below meth c T locs cells slots) (hx : p.tables.exec = Jvm.exec) (hby : c.code = A) {k : Nat} {v : Int64} (hd : decode A pc = .ok (.lload k, 2)) (n : Nat) (hn : pc + 2 = n) (hl : L[k]? = some (.val (.long v))) (hr : Steps p.tables e below (T.setTop (mkF m n L (.long v :: S))) t) : Steps p.tables e below (T.setTop (mkF m pc L S)) t := by
  subst hn; exact XS.lload X.here hx rfl (hb hby hd) hl hr
theorem o_aload (X : Stand p l e R s m args below meth c T locs cells slots) (hx : p.tables.exec = Jvm.exec) (hby : c.code = A) {k : Nat} {v : Value} (hd : decode A pc = .ok (.aload k, 2)) (n : Nat) (hn : pc + 2 = n) (hl : L[k]? = some (.val v)) (hv : v.isRef = true) (hr : Steps p.tables e below (T.setTop (mkF m n L (v :: S))) t) : Steps p.tables e below (T.setTop (mkF m pc L S)) t := by
  subst hn; exact XS.aload X.here hx rfl (hb hby hd) hl hv hr
theorem o_istore (X : Stand p l e R s m args below meth c T locs cells slots) (hx : p.tables.exec = Jvm.exec) (hby : c.code = A) {k : Nat} {v : Int32} {l' : Array Slot} (hd : decode A pc = .ok (.istore k, 2)) (n : Nat) (hn : pc + 2 = n) (hl : storeLocals L k (.int v) = some l') (hr : Steps p.tables e below (T.setTop (mkF m n l' S)) t) : Steps p.tables e below (T.setTop (mkF m pc L (.int v :: S))) t := by
  subst hn; exact XS.istore X.here hx rfl (hb hby hd) rfl hl hr
theorem o_lstore (X : Stand p l e R s m args below meth c T locs cells slots) (hx : p.tables.exec = Jvm.exec) (hby : c.code = A) {k : Nat} {v : Int64} {l' : Array Slot} (hd : decode A pc = .ok (.lstore k, 2)) (n : Nat) (hn : pc + 2 = n) (hl : storeLocals L k (.long v) = some l') (hr : Steps p.tables e below (T.setTop (mkF m n l' S)) t) : Steps p.tables e below (T.setTop (mkF m pc L (.long v :: S))) t := by
  subst hn; exact XS.lstore X.here hx rfl (hb hby hd) rfl hl hr
theorem o_astore (X : Stand p l e R s m args below meth c T locs cells slots) (hx : p.tables.exec = Jvm.exec) (hby : c.code = A) {k : Nat} {v : Value} {l' : Array Slot} (hd : decode A pc = .ok (.astore k, 2)) (n : Nat) (hn : pc + 2 = n) (hv : v.isRef = true) (hl : storeLocals L k v = some l') (hr : Steps p.tables e below (T.setTop (mkF m n l' S)) t) : Steps p.tables e below (T.setTop (mkF m pc L (v :: S))) t := by
  subst hn; exact XS.astore X.here hx rfl (hb hby hd) rfl hv hl hr
theorem o_iconst (X : Stand p l e R s m args below meth c T locs cells slots) (hx : p.tables.exec = Jvm.exec) (hby : c.code = A) {i : Int} (hd : decode A pc = .ok (.iconst i, 1)) (n : Nat) (hn : pc + 1 = n) {v : Int32} (hv : Int32.ofInt i = v) (hr : Steps p.tables e below (T.setTop (mkF m n L (.int v :: S))) t) : Steps p.tables e below (T.setTop (mkF m pc L S)) t := by
  subst hn; subst hv; exact XS.iconst X.here hx rfl (hb hby hd) hr
theorem o_bipush (X : Stand p l e R s m args below meth c T locs cells slots) (hx : p.tables.exec = Jvm.exec) (hby : c.code = A) {i : Int} (hd : decode A pc = .ok (.bipush i, 2)) (n : Nat) (hn : pc + 2 = n) {v : Int32} (hv : (Int8.ofInt i).toInt32 = v) (hr : Steps p.tables e below (T.setTop (mkF m n L (.int v :: S))) t) : Steps p.tables e below (T.setTop (mkF m pc L S)) t := by
  subst hn; subst hv; exact XS.bipush X.here hx rfl (hb hby hd) hr
theorem o_sipush (X : Stand p l e R s m args below meth c T locs cells slots) (hx : p.tables.exec = Jvm.exec) (hby : c.code = A) {i : Int} (hd : decode A pc = .ok (.sipush i, 3)) (n : Nat) (hn : pc + 3 = n) {v : Int32} (hv : (Int16.ofInt i).toInt32 = v) (hr : Steps p.tables e below (T.setTop (mkF m n L (.int v :: S))) t) : Steps p.tables e below (T.setTop (mkF m pc L S)) t := by
  subst hn; subst hv; exact XS.sipush X.here hx rfl (hb hby hd) hr
theorem o_lconst (X : Stand p l e R s m args below meth c T locs cells slots) (hx : p.tables.exec = Jvm.exec) (hby : c.code = A) {i : Fin 2} (hd : decode A pc = .ok (.lconst i, 1)) (n : Nat) (hn : pc + 1 = n) {v : Int64} (hv : Int64.ofNat i.val = v) (hr : Steps p.tables e below (T.setTop (mkF m n L (.long v :: S))) t) : Steps p.tables e below (T.setTop (mkF m pc L S)) t := by
  subst hn; subst hv; exact XS.lconst X.here hx rfl (hb hby hd) hr
theorem o_aconstNull (X : Stand p l e R s m args below meth c T locs cells slots) (hx : p.tables.exec = Jvm.exec) (hby : c.code = A) (hd : decode A pc = .ok (.aconst_null, 1)) (n : Nat) (hn : pc + 1 = n) (hr : Steps p.tables e below (T.setTop (mkF m n L (.null :: S))) t) : Steps p.tables e below (T.setTop (mkF m pc L S)) t := by
  subst hn; exact XS.aconstNull X.here hx rfl (hb hby hd) hr
theorem o_iadd (X : Stand p l e R s m args below meth c T locs cells slots) (hx : p.tables.exec = Jvm.exec) (hby : c.code = A) {x y : Int32} (hd : decode A pc = .ok (.iadd, 1)) (n : Nat) (hn : pc + 1 = n) (hr : Steps p.tables e below (T.setTop (mkF m n L (.int (x + y) :: S))) t) : Steps p.tables e below (T.setTop (mkF m pc L (.int y :: .int x :: S))) t := by
  subst hn; exact XS.iadd X.here hx rfl (hb hby hd) rfl hr
theorem o_ladd (X : Stand p l e R s m args below meth c T locs cells slots) (hx : p.tables.exec = Jvm.exec) (hby : c.code = A) {x y : Int64} (hd : decode A pc = .ok (.ladd, 1)) (n : Nat) (hn : pc + 1 = n) (hr : Steps p.tables e below (T.setTop (mkF m n L (.long (x + y) :: S))) t) : Steps p.tables e below (T.setTop (mkF m pc L (.long y :: .long x :: S))) t := by
  subst hn; exact XS.ladd X.here hx rfl (hb hby hd) rfl hr
theorem o_isub (X : Stand p l e R s m args below meth c T locs cells slots) (hx : p.tables.exec = Jvm.exec) (hby : c.code = A) {x y : Int32} (hd : decode A pc = .ok (.isub, 1)) (n : Nat) (hn : pc + 1 = n) (hr : Steps p.tables e below (T.setTop (mkF m n L (.int (x - y) :: S))) t) : Steps p.tables e below (T.setTop (mkF m pc L (.int y :: .int x :: S))) t := by
  subst hn; exact XS.isub X.here hx rfl (hb hby hd) rfl hr
theorem o_lsub (X : Stand p l e R s m args below meth c T locs cells slots) (hx : p.tables.exec = Jvm.exec) (hby : c.code = A) {x y : Int64} (hd : decode A pc = .ok (.lsub, 1)) (n : Nat) (hn : pc + 1 = n) (hr : Steps p.tables e below (T.setTop (mkF m n L (.long (x - y) :: S))) t) : Steps p.tables e below (T.setTop (mkF m pc L (.long y :: .long x :: S))) t := by
  subst hn; exact XS.lsub X.here hx rfl (hb hby hd) rfl hr
theorem o_imul (X : Stand p l e R s m args below meth c T locs cells slots) (hx : p.tables.exec = Jvm.exec) (hby : c.code = A) {x y : Int32} (hd : decode A pc = .ok (.imul, 1)) (n : Nat) (hn : pc + 1 = n) (hr : Steps p.tables e below (T.setTop (mkF m n L (.int (x * y) :: S))) t) : Steps p.tables e below (T.setTop (mkF m pc L (.int y :: .int x :: S))) t := by
  subst hn; exact XS.imul X.here hx rfl (hb hby hd) rfl hr
theorem o_lmul (X : Stand p l e R s m args below meth c T locs cells slots) (hx : p.tables.exec = Jvm.exec) (hby : c.code = A) {x y : Int64} (hd : decode A pc = .ok (.lmul, 1)) (n : Nat) (hn : pc + 1 = n) (hr : Steps p.tables e below (T.setTop (mkF m n L (.long (x * y) :: S))) t) : Steps p.tables e below (T.setTop (mkF m pc L (.long y :: .long x :: S))) t := by
  subst hn; exact XS.lmul X.here hx rfl (hb hby hd) rfl hr
theorem o_iand (X : Stand p l e R s m args below meth c T locs cells slots) (hx : p.tables.exec = Jvm.exec) (hby : c.code = A) {x y : Int32} (hd : decode A pc = .ok (.iand, 1)) (n : Nat) (hn : pc + 1 = n) (hr : Steps p.tables e below (T.setTop (mkF m n L (.int (x &&& y) :: S))) t) : Steps p.tables e below (T.setTop (mkF m pc L (.int y :: .int x :: S))) t := by
  subst hn; exact XS.iand X.here hx rfl (hb hby hd) rfl hr
theorem o_land (X : Stand p l e R s m args below meth c T locs cells slots) (hx : p.tables.exec = Jvm.exec) (hby : c.code = A) {x y : Int64} (hd : decode A pc = .ok (.land, 1)) (n : Nat) (hn : pc + 1 = n) (hr : Steps p.tables e below (T.setTop (mkF m n L (.long (x &&& y) :: S))) t) : Steps p.tables e below (T.setTop (mkF m pc L (.long y :: .long x :: S))) t := by
  subst hn; exact XS.land X.here hx rfl (hb hby hd) rfl hr
theorem o_ior (X : Stand p l e R s m args below meth c T locs cells slots) (hx : p.tables.exec = Jvm.exec) (hby : c.code = A) {x y : Int32} (hd : decode A pc = .ok (.ior, 1)) (n : Nat) (hn : pc + 1 = n) (hr : Steps p.tables e below (T.setTop (mkF m n L (.int (x ||| y) :: S))) t) : Steps p.tables e below (T.setTop (mkF m pc L (.int y :: .int x :: S))) t := by
  subst hn; exact XS.ior X.here hx rfl (hb hby hd) rfl hr
theorem o_lor (X : Stand p l e R s m args below meth c T locs cells slots) (hx : p.tables.exec = Jvm.exec) (hby : c.code = A) {x y : Int64} (hd : decode A pc = .ok (.lor, 1)) (n : Nat) (hn : pc + 1 = n) (hr : Steps p.tables e below (T.setTop (mkF m n L (.long (x ||| y) :: S))) t) : Steps p.tables e below (T.setTop (mkF m pc L (.long y :: .long x :: S))) t := by
  subst hn; exact XS.lor X.here hx rfl (hb hby hd) rfl hr
theorem o_ixor (X : Stand p l e R s m args below meth c T locs cells slots) (hx : p.tables.exec = Jvm.exec) (hby : c.code = A) {x y : Int32} (hd : decode A pc = .ok (.ixor, 1)) (n : Nat) (hn : pc + 1 = n) (hr : Steps p.tables e below (T.setTop (mkF m n L (.int (x ^^^ y) :: S))) t) : Steps p.tables e below (T.setTop (mkF m pc L (.int y :: .int x :: S))) t := by
  subst hn; exact XS.ixor X.here hx rfl (hb hby hd) rfl hr
theorem o_lxor (X : Stand p l e R s m args below meth c T locs cells slots) (hx : p.tables.exec = Jvm.exec) (hby : c.code = A) {x y : Int64} (hd : decode A pc = .ok (.lxor, 1)) (n : Nat) (hn : pc + 1 = n) (hr : Steps p.tables e below (T.setTop (mkF m n L (.long (x ^^^ y) :: S))) t) : Steps p.tables e below (T.setTop (mkF m pc L (.long y :: .long x :: S))) t := by
  subst hn; exact XS.lxor X.here hx rfl (hb hby hd) rfl hr
theorem o_idiv (X : Stand p l e R s m args below meth c T locs cells slots) (hx : p.tables.exec = Jvm.exec) (hby : c.code = A) {x y : Int32} (hd : decode A pc = .ok (.idiv, 1)) (n : Nat) (hn : pc + 1 = n) (hy : ¬ (y = 0)) (hr : Steps p.tables e below (T.setTop (mkF m n L (.int (x / y) :: S))) t) : Steps p.tables e below (T.setTop (mkF m pc L (.int y :: .int x :: S))) t := by
  subst hn; exact XS.idiv X.here hx rfl (hb hby hd) rfl hy hr
theorem o_ldiv (X : Stand p l e R s m args below meth c T locs cells slots) (hx : p.tables.exec = Jvm.exec) (hby : c.code = A) {x y : Int64} (hd : decode A pc = .ok (.ldiv, 1)) (n : Nat) (hn : pc + 1 = n) (hy : ¬ (y = 0)) (hr : Steps p.tables e below (T.setTop (mkF m n L (.long (x / y) :: S))) t) : Steps p.tables e below (T.setTop (mkF m pc L (.long y :: .long x :: S))) t := by
  subst hn; exact XS.ldiv X.here hx rfl (hb hby hd) rfl hy hr
theorem o_irem (X : Stand p l e R s m args below meth c T locs cells slots) (hx : p.tables.exec = Jvm.exec) (hby : c.code = A) {x y : Int32} (hd : decode A pc = .ok (.irem, 1)) (n : Nat) (hn : pc + 1 = n) (hy : ¬ (y = 0)) (hr : Steps p.tables e below (T.setTop (mkF m n L (.int (x % y) :: S))) t) : Steps p.tables e below (T.setTop (mkF m pc L (.int y :: .int x :: S))) t := by
  subst hn; exact XS.irem X.here hx rfl (hb hby hd) rfl hy (by rw [irem_eq_mod]; exact hr)
theorem o_lrem (X : Stand p l e R s m args below meth c T locs cells slots) (hx : p.tables.exec = Jvm.exec) (hby : c.code = A) {x y : Int64} (hd : decode A pc = .ok (.lrem, 1)) (n : Nat) (hn : pc + 1 = n) (hy : ¬ (y = 0)) (hr : Steps p.tables e below (T.setTop (mkF m n L (.long (x % y) :: S))) t) : Steps p.tables e below (T.setTop (mkF m pc L (.long y :: .long x :: S))) t := by
  subst hn; exact XS.lrem X.here hx rfl (hb hby hd) rfl hy (by rw [lrem_mod]; exact hr)
theorem o_ineg (X : Stand p l e R s m args below meth c T locs cells slots) (hx : p.tables.exec = Jvm.exec) (hby : c.code = A) {x : Int32} (hd : decode A pc = .ok (.ineg, 1)) (n : Nat) (hn : pc + 1 = n) (hr : Steps p.tables e below (T.setTop (mkF m n L (.int (-x) :: S))) t) : Steps p.tables e below (T.setTop (mkF m pc L (.int x :: S))) t := by
  subst hn; exact XS.ineg X.here hx rfl (hb hby hd) rfl hr
theorem o_lneg (X : Stand p l e R s m args below meth c T locs cells slots) (hx : p.tables.exec = Jvm.exec) (hby : c.code = A) {x : Int64} (hd : decode A pc = .ok (.lneg, 1)) (n : Nat) (hn : pc + 1 = n) (hr : Steps p.tables e below (T.setTop (mkF m n L (.long (-x) :: S))) t) : Steps p.tables e below (T.setTop (mkF m pc L (.long x :: S))) t := by
  subst hn; exact XS.lneg X.here hx rfl (hb hby hd) rfl hr
theorem o_i2l (X : Stand p l e R s m args below meth c T locs cells slots) (hx : p.tables.exec = Jvm.exec) (hby : c.code = A) {x : Int32} (hd : decode A pc = .ok (.i2l, 1)) (n : Nat) (hn : pc + 1 = n) (hr : Steps p.tables e below (T.setTop (mkF m n L (.long (x.toInt64) :: S))) t) : Steps p.tables e below (T.setTop (mkF m pc L (.int x :: S))) t := by
  subst hn; exact XS.i2l X.here hx rfl (hb hby hd) rfl hr
theorem o_l2i (X : Stand p l e R s m args below meth c T locs cells slots) (hx : p.tables.exec = Jvm.exec) (hby : c.code = A) {x : Int64} (hd : decode A pc = .ok (.l2i, 1)) (n : Nat) (hn : pc + 1 = n) (hr : Steps p.tables e below (T.setTop (mkF m n L (.int (x.toInt32) :: S))) t) : Steps p.tables e below (T.setTop (mkF m pc L (.long x :: S))) t := by
  subst hn; exact XS.l2i X.here hx rfl (hb hby hd) rfl hr
theorem o_i2b (X : Stand p l e R s m args below meth c T locs cells slots) (hx : p.tables.exec = Jvm.exec) (hby : c.code = A) {x : Int32} (hd : decode A pc = .ok (.i2b, 1)) (n : Nat) (hn : pc + 1 = n) (hr : Steps p.tables e below (T.setTop (mkF m n L (.int (x.toInt8.toInt32) :: S))) t) : Steps p.tables e below (T.setTop (mkF m pc L (.int x :: S))) t := by
  subst hn; exact XS.i2b X.here hx rfl (hb hby hd) rfl hr
theorem o_i2s (X : Stand p l e R s m args below meth c T locs cells slots) (hx : p.tables.exec = Jvm.exec) (hby : c.code = A) {x : Int32} (hd : decode A pc = .ok (.i2s, 1)) (n : Nat) (hn : pc + 1 = n) (hr : Steps p.tables e below (T.setTop (mkF m n L (.int (x.toInt16.toInt32) :: S))) t) : Steps p.tables e below (T.setTop (mkF m pc L (.int x :: S))) t := by
  subst hn; exact XS.i2s X.here hx rfl (hb hby hd) rfl hr
theorem o_i2c (X : Stand p l e R s m args below meth c T locs cells slots) (hx : p.tables.exec = Jvm.exec) (hby : c.code = A) {x : Int32} (hd : decode A pc = .ok (.i2c, 1)) (n : Nat) (hn : pc + 1 = n) (hr : Steps p.tables e below (T.setTop (mkF m n L (.int (x.toUInt32.toUInt16.toUInt32.toInt32) :: S))) t) : Steps p.tables e below (T.setTop (mkF m pc L (.int x :: S))) t := by
  subst hn; exact XS.i2c X.here hx rfl (hb hby hd) rfl hr
theorem o_ishl (X : Stand p l e R s m args below meth c T locs cells slots) (hx : p.tables.exec = Jvm.exec) (hby : c.code = A) {x y : Int32} (hd : decode A pc = .ok (.ishl, 1)) (n : Nat) (hn : pc + 1 = n) (hr : Steps p.tables e below (T.setTop (mkF m n L (.int (x <<< (y &&& 31)) :: S))) t) : Steps p.tables e below (T.setTop (mkF m pc L (.int y :: .int x :: S))) t := by
  subst hn; exact XS.ishl X.here hx rfl (hb hby hd) rfl hr
theorem o_ishr (X : Stand p l e R s m args below meth c T locs cells slots) (hx : p.tables.exec = Jvm.exec) (hby : c.code = A) {x y : Int32} (hd : decode A pc = .ok (.ishr, 1)) (n : Nat) (hn : pc + 1 = n) (hr : Steps p.tables e below (T.setTop (mkF m n L (.int (x >>> (y &&& 31)) :: S))) t) : Steps p.tables e below (T.setTop (mkF m pc L (.int y :: .int x :: S))) t := by
  subst hn; exact XS.ishr X.here hx rfl (hb hby hd) rfl hr
theorem o_iushr (X : Stand p l e R s m args below meth c T locs cells slots) (hx : p.tables.exec = Jvm.exec) (hby : c.code = A) {x y : Int32} (hd : decode A pc = .ok (.iushr, 1)) (n : Nat) (hn : pc + 1 = n) (hr : Steps p.tables e below (T.setTop (mkF m n L (.int ((x.toUInt32 >>> (y &&& 31).toUInt32).toInt32) :: S))) t) : Steps p.tables e below (T.setTop (mkF m pc L (.int y :: .int x :: S))) t := by
  subst hn; exact XS.iushr X.here hx rfl (hb hby hd) rfl hr
theorem o_lshl (X : Stand p l e R s m args below meth c T locs cells slots) (hx : p.tables.exec = Jvm.exec) (hby : c.code = A) {x : Int64} {y : Int32} (hd : decode A pc = .ok (.lshl, 1)) (n : Nat) (hn : pc + 1 = n) (hr : Steps p.tables e below (T.setTop (mkF m n L (.long (x <<< (y &&& 0x3f).toInt64) :: S))) t) : Steps p.tables e below (T.setTop (mkF m pc L (.int y :: .long x :: S))) t := by
  subst hn; exact XS.lshl X.here hx rfl (hb hby hd) rfl hr
theorem o_lshr (X : Stand p l e R s m args below meth c T locs cells slots) (hx : p.tables.exec = Jvm.exec) (hby : c.code = A) {x : Int64} {y : Int32} (hd : decode A pc = .ok (.lshr, 1)) (n : Nat) (hn : pc + 1 = n) (hr : Steps p.tables e below (T.setTop (mkF m n L (.long (x >>> (y &&& 0x3f).toInt64) :: S))) t) : Steps p.tables e below (T.setTop (mkF m pc L (.int y :: .long x :: S))) t := by
  subst hn; exact XS.lshr X.here hx rfl (hb hby hd) rfl hr
theorem o_lushr (X : Stand p l e R s m args below meth c T locs cells slots) (hx : p.tables.exec = Jvm.exec) (hby : c.code = A) {x : Int64} {y : Int32} (hd : decode A pc = .ok (.lushr, 1)) (n : Nat) (hn : pc + 1 = n) (hr : Steps p.tables e below (T.setTop (mkF m n L (.long ((x.toUInt64 >>> (y &&& 0x3f).toInt64.toUInt64).toInt64) :: S))) t) : Steps p.tables e below (T.setTop (mkF m pc L (.int y :: .long x :: S))) t := by
  subst hn; exact XS.lushr X.here hx rfl (hb hby hd) rfl hr
theorem o_lcmp (X : Stand p l e R s m args below meth c T locs cells slots) (hx : p.tables.exec = Jvm.exec) (hby : c.code = A) {x y : Int64} (hd : decode A pc = .ok (.lcmp, 1)) (n : Nat) (hn : pc + 1 = n) (hr : Steps p.tables e below (T.setTop (mkF m n L (.int (lcmpW x y) :: S))) t) : Steps p.tables e below (T.setTop (mkF m pc L (.long y :: .long x :: S))) t := by
  subst hn; exact XS.lcmp X.here hx rfl (hb hby hd) rfl hr
theorem o_dup (X : Stand p l e R s m args below meth c T locs cells slots) (hx : p.tables.exec = Jvm.exec) (hby : c.code = A) {x : Value} (hd : decode A pc = .ok (.dup, 1)) (n : Nat) (hn : pc + 1 = n) (hc : x.category = 1) (hr : Steps p.tables e below (T.setTop (mkF m n L (x :: x :: S))) t) : Steps p.tables e below (T.setTop (mkF m pc L (x :: S))) t := by
  subst hn; exact XS.dup X.here hx rfl (hb hby hd) rfl hc hr
theorem o_dupX1 (X : Stand p l e R s m args below meth c T locs cells slots) (hx : p.tables.exec = Jvm.exec) (hby : c.code = A) {x y : Value} (hd : decode A pc = .ok (.dup_x1, 1)) (n : Nat) (hn : pc + 1 = n) (hc : x.category = 1) (hc' : y.category = 1) (hr : Steps p.tables e below (T.setTop (mkF m n L (x :: y :: x :: S))) t) : Steps p.tables e below (T.setTop (mkF m pc L (x :: y :: S))) t := by
  subst hn; exact XT.dupX1 X.here hx rfl (hb hby hd) rfl hc hc' hr
theorem o_dup2 (X : Stand p l e R s m args below meth c T locs cells slots) (hx : p.tables.exec = Jvm.exec) (hby : c.code = A) {x y : Value} (hd : decode A pc = .ok (.dup2, 1)) (n : Nat) (hn : pc + 1 = n) (hc : x.category = 1) (hc' : y.category = 1) (hr : Steps p.tables e below (T.setTop (mkF m n L (x :: y :: x :: y :: S))) t) : Steps p.tables e below (T.setTop (mkF m pc L (x :: y :: S))) t := by
  subst hn; exact XT.dup2 X.here hx rfl (hb hby hd) rfl hc hc' hr
theorem o_iinc (X : Stand p l e R s m args below meth c T locs cells slots) (hx : p.tables.exec = Jvm.exec) (hby : c.code = A) {k : Nat} {cst : Int} {x : Int32} {l' : Array Slot} (hd : decode A pc = .ok (.iinc k cst, 3)) (n : Nat) (hn : pc + 3 = n) (hl : L[k]? = some (.val (.int x))) {i : Int32} (hi : Int32.ofInt cst = i) (hl' : storeLocals L k (.int (x + i)) = some l') (hr : Steps p.tables e below (T.setTop (mkF m n l' S)) t) : Steps p.tables e below (T.setTop (mkF m pc L S)) t := by
  subst hn; subst hi; exact XS.iinc X.here hx rfl (hb hby hd) hl hl' hr
theorem o_pop (X : Stand p l e R s m args below meth c T locs cells slots) (hx : p.tables.exec = Jvm.exec) (hby : c.code = A) {x : Value} (hd : decode A pc = .ok (.pop, 1)) (n : Nat) (hn : pc + 1 = n) (hc : x.category = 1) (hr : Steps p.tables e below (T.setTop (mkF m n L S)) t) : Steps p.tables e below (T.setTop (mkF m pc L (x :: S))) t := by
  subst hn; exact XT.pop X.here hx rfl (hb hby hd) rfl hc hr
theorem o_goto (X : Stand p l e R s m args below meth c T locs cells slots) (hx : p.tables.exec = Jvm.exec) (hby : c.code = A) {o : Int} (hd : decode A pc = .ok (.goto o, 3)) (n : Nat) (hn : (pc : Int) + o = (n : Int)) (hr : Steps p.tables e below (T.setTop (mkF m n L S)) t) : Steps p.tables e below (T.setTop (mkF m pc L S)) t :=
  XS.goto X.here hx rfl (pc0 := pc) (pc' := n) rfl (hb hby hd) (by omega) (by omega) hr
theorem o_ifY (X : Stand p l e R s m args below meth c T locs cells slots) (hx : p.tables.exec = Jvm.exec) (hby : c.code = A) {cd : ClassFile.Cond} {x : Int32} {o : Int} (hd : decode A pc = .ok (.ifCond cd o, 3)) (n : Nat) (hn : (pc : Int) + o = (n : Int)) (hc : if_icmp.holds cd x 0 = true) (hr : Steps p.tables e below (T.setTop (mkF m n L S)) t) : Steps p.tables e below (T.setTop (mkF m pc L (.int x :: S))) t :=
  XS.ifYes X.here hx rfl (pc0 := pc) (pc' := n) rfl (hb hby hd) rfl ((if0 _ _).trans hc) (by omega) (by omega) hr
theorem o_ifN (X : Stand p l e R s m args below meth c T locs cells slots) (hx : p.tables.exec = Jvm.exec) (hby : c.code = A) {cd : ClassFile.Cond} {x : Int32} {o : Int} (hd : decode A pc = .ok (.ifCond cd o, 3)) (n : Nat) (hn : pc + 3 = n) (hc : if_icmp.holds cd x 0 = false) (hr : Steps p.tables e below (T.setTop (mkF m n L S)) t) : Steps p.tables e below (T.setTop (mkF m pc L (.int x :: S))) t := by
  subst hn; exact XS.ifNo X.here hx rfl (hb hby hd) rfl ((if0 _ _).trans hc) hr
theorem o_icmpY (X : Stand p l e R s m args below meth c T locs cells slots) (hx : p.tables.exec = Jvm.exec) (hby : c.code = A) {cd : ClassFile.Cond} {x y : Int32} {o : Int} (hd : decode A pc = .ok (.if_icmp cd o, 3)) (n : Nat) (hn : (pc : Int) + o = (n : Int)) (hc : if_icmp.holds cd x y = true) (hr : Steps p.tables e below (T.setTop (mkF m n L S)) t) : Steps p.tables e below (T.setTop (mkF m pc L (.int y :: .int x :: S))) t :=
  XS.icmpYes X.here hx rfl (pc0 := pc) (pc' := n) rfl (hb hby hd) rfl hc (by omega) (by omega) hr
theorem o_icmpN (X : Stand p l e R s m args below meth c T locs cells slots) (hx : p.tables.exec = Jvm.exec) (hby : c.code = A) {cd : ClassFile.Cond} {x y : Int32} {o : Int} (hd : decode A pc = .ok (.if_icmp cd o, 3)) (n : Nat) (hn : pc + 3 = n) (hc : if_icmp.holds cd x y = false) (hr : Steps p.tables e below (T.setTop (mkF m n L S)) t) : Steps p.tables e below (T.setTop (mkF m pc L (.int y :: .int x :: S))) t := by
  subst hn; exact XS.icmpNo X.here hx rfl (hb hby hd) rfl hc hr
theorem o_ifnullY (X : Stand p l e R s m args below meth c T locs cells slots) (hx : p.tables.exec = Jvm.exec) (hby : c.code = A) {o : Int} (hd : decode A pc = .ok (.ifnull o, 3)) (n : Nat) (hn : (pc : Int) + o = (n : Int)) (hr : Steps p.tables e below (T.setTop (mkF m n L S)) t) : Steps p.tables e below (T.setTop (mkF m pc L (.null :: S))) t :=
  XS.ifnullYes X.here hx rfl (pc0 := pc) (pc' := n) rfl (hb hby hd) rfl (by omega) (by omega) hr
theorem o_ifnullN (X : Stand p l e R s m args below meth c T locs cells slots) (hx : p.tables.exec = Jvm.exec) (hby : c.code = A) {a : Addr} {o : Int} (hd : decode A pc = .ok (.ifnull o, 3)) (n : Nat) (hn : pc + 3 = n) (hr : Steps p.tables e below (T.setTop (mkF m n L S)) t) : Steps p.tables e below (T.setTop (mkF m pc L (.ref a :: S))) t := by
  subst hn; exact XS.ifnullNo X.here hx rfl (hb hby hd) rfl hr
theorem o_ifnonnullY (X : Stand p l e R s m args below meth c T locs cells slots) (hx : p.tables.exec = Jvm.exec) (hby : c.code = A) {a : Addr} {o : Int} (hd : decode A pc = .ok (.ifnonnull o, 3)) (n : Nat) (hn : (pc : Int) + o = (n : Int)) (hr : Steps p.tables e below (T.setTop (mkF m n L S)) t) : Steps p.tables e below (T.setTop (mkF m pc L (.ref a :: S))) t :=
  XS.ifnonnullYes X.here hx rfl (pc0 := pc) (pc' := n) rfl (hb hby hd) rfl (by omega) (by omega) hr
theorem o_ifnonnullN (X : Stand p l e R s m args below meth c T locs cells slots) (hx : p.tables.exec = Jvm.exec) (hby : c.code = A) {o : Int} (hd : decode A pc = .ok (.ifnonnull o, 3)) (n : Nat) (hn : pc + 3 = n) (hr : Steps p.tables e below (T.setTop (mkF m n L S)) t) : Steps p.tables e below (T.setTop (mkF m pc L (.null :: S))) t := by
  subst hn; exact XS.ifnonnullNo X.here hx rfl (hb hby hd) rfl hr
theorem o_acmp (X : Stand p l e R s m args below meth c T locs cells slots) (hx : p.tables.exec = Jvm.exec) (hby : c.code = A) {cd : ClassFile.ACond} {x y : Value} {o : Int} (hd : decode A pc = .ok (.if_acmp cd o, 3)) (n : Nat) {same : Bool} (h1 : x.isRef = true) (h2 : y.isRef = true) (hq : decide (x = y) = same) (ho : 0 ≤ (pc : Int) + o) (hp : n = if acV cd same = true then ((pc : Int) + o).toNat else pc + 3) (hr : Steps p.tables e below (T.setTop (mkF m n L S)) t) : Steps p.tables e below (T.setTop (mkF m pc L (y :: x :: S))) t :=
  Jvm.RoadKit.acmp X hx rfl h1 h2 (pc0 := pc) (pc' := n) rfl (hb hby hd) rfl hq ho hp hr
theorem o_ldcInt (X : Stand p l e R s m args below meth c T locs cells slots) (hx : p.tables.exec = Jvm.exec) (hby : c.code = A) {own : String} {i : Nat} {v : Int32} (hown : s.vm.findClass own = some m.cls) (hc : (Cond.constant own i v).before args s = true) (hd : decode A pc = .ok (.ldc i, 2)) (n : Nat) (hn : pc + 2 = n) (hr : Steps p.tables e below (T.setTop (mkF m n L (.int v :: S))) t) : Steps p.tables e below (T.setTop (mkF m pc L S)) t := by
  subst hn; exact X.ldcInt hx hown hc (g := mkF m pc L S) rfl (hb hby hd) t hr
theorem o_ldcwInt (X : Stand p l e R s m args below meth c T locs cells slots) (hx : p.tables.exec = Jvm.exec) (hby : c.code = A) {own : String} {i : Nat} {v : Int32} (hown : s.vm.findClass own = some m.cls) (hc : (Cond.constant own i v).before args s = true) (hd : decode A pc = .ok (.ldc_w i, 3)) (n : Nat) (hn : pc + 3 = n) (hr : Steps p.tables e below (T.setTop (mkF m n L (.int v :: S))) t) : Steps p.tables e below (T.setTop (mkF m pc L S)) t := by
  subst hn; exact X.ldcwInt hx hown hc (g := mkF m pc L S) rfl (hb hby hd) t hr
theorem o_ldc2Long (X : Stand p l e R s m args below meth c T locs cells slots) (hx : p.tables.exec = Jvm.exec) (hby : c.code = A) {own : String} {i : Nat} {v : Int64} (hown : s.vm.findClass own = some m.cls) (hc : (Cond.constantLong own i v).before args s = true) (hd : decode A pc = .ok (.ldc2_w i, 3)) (n : Nat) (hn : pc + 3 = n) (hr : Steps p.tables e below (T.setTop (mkF m n L (.long v :: S))) t) : Steps p.tables e below (T.setTop (mkF m pc L S)) t := by
  subst hn; exact X.ldc2Long hx hown hc (g := mkF m pc L S) rfl (hb hby hd) t hr
theorem o_b0 : narrow .boolean (.int (0 : Int32)) = .int (0 : Int32) := by decide
theorem o_b1 : narrow .boolean (.int (1 : Int32)) = .int (1 : Int32) := by decide
theorem o_b01 {z : Int32} (h : z = 0 ∨ z = 1) : narrow .boolean (.int z) = .int z := by rcases h with rfl | rfl <;> decide
theorem o_nf {z : Int32} (h : z = 0 ∨ z = 1) : narrow .boolean (.int z) = .int z ∧ fits .boolean (.int z) = true := by rcases h with rfl | rfl <;> decide
theorem o_retZ (X : Stand p l e R s m args below meth c T locs cells slots) (hx : p.tables.exec = Jvm.exec) {Ls : Array Slot} {z : Int32} {rest : List Value} (hret : meth.sig.returnType = some .boolean)
    (hd : decode c.code pc = .ok (.ireturn, 1)) (hz : z = 0 ∨ z = 1) {fs : List Frame} (hl : ∀ (f : JFrame) (acts : List Action), f.method = m → f.locked = none → f.entered = [] → (doReturn e (T.setTop f) acts (some (.int z))).1 = T.setFrames fs) :
    Steps p.tables e below (T.setTop (mkF m pc Ls (.int z :: rest))) (T.setFrames fs) :=
  retOut X hx hret (o_b01 hz) (Or.inl ⟨rfl, Or.inr (Or.inl rfl), z, rfl⟩) hd hl
theorem o_retI (X : Stand p l e R s m args below meth c T locs cells slots) (hx : p.tables.exec = Jvm.exec) {Ls : Array Slot} {z : Int32} {rest : List Value} (hret : meth.sig.returnType = some .int)
    (hd : decode c.code pc = .ok (.ireturn, 1)) {fs : List Frame} (hl : ∀ (f : JFrame) (acts : List Action), f.method = m → f.locked = none → f.entered = [] → (doReturn e (T.setTop f) acts (some (.int z))).1 = T.setFrames fs) :
    Steps p.tables e below (T.setTop (mkF m pc Ls (.int z :: rest))) (T.setFrames fs) :=
  retOut X hx hret rfl (Or.inl ⟨rfl, Or.inl rfl, z, rfl⟩) hd hl
theorem o_retB (X : Stand p l e R s m args below meth c T locs cells slots) (hx : p.tables.exec = Jvm.exec) {Ls : Array Slot} {z : Int32} {rest : List Value} (hret : meth.sig.returnType = some .byte)
    (hd : decode c.code pc = .ok (.ireturn, 1)) (hz : narrow .byte (.int z) = .int z) {fs : List Frame} (hl : ∀ (f : JFrame) (acts : List Action), f.method = m → f.locked = none → f.entered = [] → (doReturn e (T.setTop f) acts (some (.int z))).1 = T.setFrames fs) :
    Steps p.tables e below (T.setTop (mkF m pc Ls (.int z :: rest))) (T.setFrames fs) :=
  retOut X hx hret hz (Or.inl ⟨rfl, Or.inr (Or.inr (Or.inl rfl)), z, rfl⟩) hd hl
theorem o_retJ (X : Stand p l e R s m args below meth c T locs cells slots) (hx : p.tables.exec = Jvm.exec) {Ls : Array Slot} {z : Int64} {rest : List Value} (hret : meth.sig.returnType = some .long)
    (hd : decode c.code pc = .ok (.lreturn, 1)) {fs : List Frame} (hl : ∀ (f : JFrame) (acts : List Action), f.method = m → f.locked = none → f.entered = [] → (doReturn e (T.setTop f) acts (some (.long z))).1 = T.setFrames fs) :
    Steps p.tables e below (T.setTop (mkF m pc Ls (.long z :: rest))) (T.setFrames fs) :=
  retOut X hx hret rfl (Or.inr (Or.inl ⟨rfl, rfl, z, rfl⟩)) hd hl
theorem o_retR (X : Stand p l e R s m args below meth c T locs cells slots) (hx : p.tables.exec = Jvm.exec) {Ls : Array Slot} {w : Value} {ty : FieldType} {rest : List Value} (hret : meth.sig.returnType = some ty) (ht : ty.isReference = true)
    (hd : decode c.code pc = .ok (.areturn, 1)) (hw : w.isRef = true) (hn : narrow ty w = w) {fs : List Frame} (hl : ∀ (f : JFrame) (acts : List Action), f.method = m → f.locked = none → f.entered = [] → (doReturn e (T.setTop f) acts (some w)).1 = T.setFrames fs) :
    Steps p.tables e below (T.setTop (mkF m pc Ls (w :: rest))) (T.setFrames fs) :=
  retOut X hx hret hn (Or.inr (Or.inr (Or.inr (Or.inr ⟨rfl, ht, hw⟩)))) hd hl
end Own

abbrev FC (Z : State) (h : Heap) (a : Addr) (n d : String) (v : Value) : Prop := Fld Z h a "com/example/amortine/amortine/CentAmounts" n d v
abbrev FP (Z : State) (h : Heap) (a : Addr) (n d : String) (v : Value) : Prop := Fld Z h a "com/example/amortine/amortine/PeriodRate" n d v
theorem own_selp {s : State} {args : Array Value} {y : MethodName} {n : Nat} (wi : (Cond.instantiable y.cls n).before args s = true) (hpriv : s.PrivateAt y) (hinst : (Cond.instanceMethod y).before args s = true) (hy : y.cls ≠ "java/lang/invoke/MethodHandle" ∧ y.cls ≠ "java/lang/invoke/VarHandle") : (Cond.selects y.cls y y).before args s = true := by
  obtain ⟨c, k, hc, hk, -, hf, -⟩ := Cond.instantiable_spec wi
  exact selects_self_of_private hc hk (by simp at hf; exact hf.1) hpriv hinst hy
theorem own_three {j : Int32} (h : ¬ j < 0 ∧ j < 3) : j = 0 ∨ j = 1 ∨ j = 2 := by
  obtain ⟨h1, h2⟩ := h
  rw [Int32.lt_iff_toInt_lt] at h1 h2
  simp only [Int32.reduceToInt] at h1 h2
  rcases (by omega : j.toInt = 0 ∨ j.toInt = 1 ∨ j.toInt = 2) with q | q | q
  · exact Or.inl (Int32.toInt_inj.mp q)
  · exact Or.inr (Or.inl (Int32.toInt_inj.mp q))
  · exact Or.inr (Or.inr (Int32.toInt_inj.mp q))
theorem own_19 {j : Int32} (h : ¬ j < 0 ∧ j < 3) : ¬ j < 0 ∧ j < (19 : Int32) := by
  rcases own_three h with rfl | rfl | rfl <;> decide
def own_ten (p : Int32) : Int64 := if p = 0 then 1 else if p = 1 then 10 else 100
def own_fac (p : Int32) : Int64 := if p = 0 then 9223372036854775807 else if p = 1 then 922337203685477580 else 92233720368547758
def own_T (tL : List Value) : Prop := ∀ j : Int32, (¬ j < 0 ∧ j < 3) → tL.getD j.toNatClampNeg (.long 0) = .long (own_ten j)
def own_F (fL : List Value) : Prop := ∀ j : Int32, (¬ j < 0 ∧ j < 3) → fL.getD j.toNatClampNeg (.long 0) = .long (own_fac j)
theorem own_facr {p : Int32} (h : ¬ p < 0 ∧ p < 3) : 92233720368547758 ≤ (own_fac p).toInt := by
  rcases own_three h with rfl | rfl | rfl <;> decide +kernel
theorem own_fa {p : Int32} {q : Int64} (h : ¬ p < 0 ∧ p < 3) (hq : 0 < q.toInt ∧ q.toInt ≤ 1200) : ¬ (own_fac p < q) := by
  have := own_facr h; rw [Int64.lt_iff_toInt_lt]; omega
theorem own_fb {p : Int32} {q : Int64} (h : ¬ p < 0 ∧ p < 3) (hq : 0 < q.toInt ∧ q.toInt ≤ 1200) : ¬ (q < (-(own_fac p))) := by
  have k := own_facr h; have c := c_lneg (own_fac p); have r := rng64 (-(own_fac p)); have r2 := rng64 (own_fac p); rw [Int64.lt_iff_toInt_lt]; omega
theorem own_eq64 {X Y : Int} (k : (X - Y) % 18446744073709551616 = 0) (h1 : -9223372036854775808 ≤ X ∧ X < 9223372036854775808) (h2 : -9223372036854775808 ≤ Y ∧ Y < 9223372036854775808) : X = Y := by omega
theorem own_tr {p : Int32} {q : Int64} (h : ¬ p < 0 ∧ p < 3) (hq : 0 < q.toInt ∧ q.toInt ≤ 1200) : 0 < (q * own_ten p).toInt ∧ (q * own_ten p).toInt ≤ 120000 := by
  have k := c_lmul q (own_ten p); have r := rng64 (q * own_ten p)
  rcases own_three h with e | e | e
  · rw [e, show (own_ten 0).toInt = 1 from by decide +kernel] at k; rw [e] at r ⊢; have z := own_eq64 k r (by omega); omega
  · rw [e, show (own_ten 1).toInt = 10 from by decide +kernel] at k; rw [e] at r ⊢; have z := own_eq64 k r (by omega); omega
  · rw [e, show (own_ten 2).toInt = 100 from by decide +kernel] at k; rw [e] at r ⊢; have z := own_eq64 k r (by omega); omega
theorem own_nn1 {q : Int64} (h : 0 < q.toInt) : ¬ q < (0 : Int64) := by rw [Int64.lt_iff_toInt_lt]; simp only [Int64.reduceToInt]; omega
theorem own_nz1 {q : Int64} (h : 0 < q.toInt) : ¬ q = (0 : Int64) := fun e => by rw [e] at h; revert h; decide
theorem own_nn2 {q : Int64} {B : Int} (h : 120000 ≤ q.toInt ∧ q.toInt < B) : ¬ q < (0 : Int64) := own_nn1 (by omega)
def own_g (a b r : Int64) : Prop := r.toInt = ((Nat.gcd a.toInt.toNat b.toInt.toNat : Nat) : Int)
theorem own_g0 {a b : Int64} (hp : 0 < a.toInt) (hz : b = 0) : own_g a b a := by
  unfold own_g; rw [hz, show (0 : Int64).toInt.toNat = 0 from by decide, Nat.gcd_zero_right]; omega
theorem own_z0 {y : Int64} (hq : 0 ≤ y.toInt) (hn : y.toInt ≤ ((0 : Nat) : Int)) : y = (0 : Int64) := by
  apply Int64.toInt_inj.mp; simp only [Int64.reduceToInt]; omega
theorem own_gp {y : Int64} (hq : 0 ≤ y.toInt) (hz : ¬ y = (0 : Int64)) : 0 < y.toInt := by
  rcases Int.lt_or_eq_of_le hq with h | h
  · exact h
  · exact absurd (Int64.toInt_inj.mp (by simp only [Int64.reduceToInt]; omega)) hz
theorem own_gm {a b v : Int64} (hp : 0 < a.toInt) (hr : v = a % b) : v.toInt = a.toInt % b.toInt := by
  rw [hr, Int64.toInt_mod, Int.tmod_eq_emod_of_nonneg (by omega)]
theorem own_gr {a b v : Int64} (hp : 0 < a.toInt) (hq : 0 ≤ b.toInt) (hz : ¬ b = (0 : Int64)) (hr : v = a % b) : 0 ≤ v.toInt ∧ v.toInt < b.toInt := by
  have k := own_gm hp hr; have p := own_gp hq hz
  have g1 := Int.emod_nonneg a.toInt (by omega : b.toInt ≠ 0); have g2 := Int.emod_lt_of_pos a.toInt p
  omega
theorem own_gn {v b : Int64} {n : Nat} (h : v.toInt < b.toInt) (hn : b.toInt ≤ ((n + 1 : Nat) : Int)) : v.toInt ≤ (n : Int) := by omega
theorem own_gs {a b v w : Int64} (hp : 0 < a.toInt) (hq : 0 ≤ b.toInt) (hz : ¬ b = (0 : Int64)) (hr : v = a % b) (h : own_g b v w) : own_g a b w := by
  unfold own_g at h ⊢
  have e : v.toInt.toNat = a.toInt.toNat % b.toInt.toNat := by
    rw [own_gm hp hr, Int.toNat_emod (by omega) hq]
  rw [h, e, Nat.gcd_comm a.toInt.toNat b.toInt.toNat, Nat.gcd_rec b.toInt.toNat a.toInt.toNat, Nat.gcd_comm]
theorem own_gb {x0 x1 r : Int64} {B C : Int} (h0 : 0 < x0.toInt ∧ x0.toInt ≤ B) (h1 : 0 < x1.toInt ∧ x1.toInt ≤ C) (g : own_g x0 x1 r) : 1 ≤ r.toInt ∧ r.toInt ≤ x0.toInt ∧ r.toInt ≤ x1.toInt := by
  unfold own_g at g
  have a := Nat.gcd_pos_of_pos_left x1.toInt.toNat (by omega : 0 < x0.toInt.toNat)
  have b := Nat.gcd_le_left x1.toInt.toNat (by omega : 0 < x0.toInt.toNat)
  have c := Nat.gcd_le_right x0.toInt.toNat (by omega : 0 < x1.toInt.toNat)
  omega
theorem own_gnz {x0 x1 r : Int64} {B C : Int} (h0 : 0 < x0.toInt ∧ x0.toInt ≤ B) (h1 : 0 < x1.toInt ∧ x1.toInt ≤ C) (g : own_g x0 x1 r) : ¬ (r = (0 : Int64)) := own_nz1 (by have := own_gb h0 h1 g; omega)
abbrev own_rate (n d : Int64) : Prop := 0 < n.toInt ∧ n.toInt ≤ 4096 ∧ 0 < d.toInt ∧ d.toInt ≤ 120000
theorem own_q1 {x r v : Int64} (hx : 0 < x.toInt) (h1 : 1 ≤ r.toInt) (h2 : r.toInt ≤ x.toInt) (hv : v = x / r) : 0 < v.toInt ∧ v.toInt ≤ x.toInt := by
  have k : v.toInt = x.toInt / r.toInt := by rw [hv]; exact (c_ldiv x r _ rfl (fun e => by rw [e] at h1; revert h1; decide)).1 (by omega)
  have a : 1 ≤ x.toInt / r.toInt := Int.le_ediv_of_mul_le (by omega) (by omega)
  have b : x.toInt / r.toInt ≤ x.toInt := Int.ediv_le_self _ (by omega)
  omega
theorem own_rt {x0 x1 r n d : Int64} (h0 : 0 < x0.toInt ∧ x0.toInt ≤ 120000) (h1 : 0 < x1.toInt ∧ x1.toInt ≤ 4096) (g : own_g x0 x1 r) (hn : n = x1 / r) (hd : d = x0 / r) : own_rate n d := by
  obtain ⟨a, b, c⟩ := own_gb h0 h1 g
  have p := own_q1 h1.1 a c hn; have q := own_q1 h0.1 a b hd
  exact ⟨p.1, by omega, q.1, by omega⟩
theorem own_ex {q n x : Int64} {d : Int64} (hA : 120000 ≤ q.toInt ∧ q.toInt < 137438953472) (hr : own_rate n d) (hex : x = ((9223372036854775807 : Int64) / n)) : ¬ (x < q) := by
  obtain ⟨h1, h2, -, -⟩ := hr
  have e : (9223372036854775807 : Int64).toInt = 9223372036854775807 := by decide +kernel
  have k : x.toInt = 9223372036854775807 / n.toInt := by
    rw [hex, ← e]; exact (c_ldiv _ n _ rfl (fun e => by rw [e] at h1; revert h1; decide)).1 (by omega)
  have a : 137438953472 ≤ 9223372036854775807 / n.toInt := Int.le_ediv_of_mul_le h1 (by omega)
  rw [Int64.lt_iff_toInt_lt]; omega
theorem d3_0 : decode prog_60_method_3_code 0 = .ok (.ldc2_w 39, 3) := by decide +kernel
theorem d3_3 : decode prog_60_method_3_code 3 = .ok (.iload_n 0, 1) := by decide +kernel
theorem d3_4 : decode prog_60_method_3_code 4 = .ok (.i2l, 1) := by decide +kernel
theorem d3_5 : decode prog_60_method_3_code 5 = .ok (.lmul, 1) := by decide +kernel
theorem d3_6 : decode prog_60_method_3_code 6 = .ok (.lreturn, 1) := by decide +kernel
theorem pn_3 : plainName "com/example/amortine/amortine/PeriodRate" = true := by first | (simp [plainName, overriddenIn]; done) | decide +kernel
theorem ef_3 (m : MethodId) (x0 : Int32) : entryFrame m #[(.int x0)] 1 = mkF m 0 #[.val (.int x0)] [] := by first | (simp [entryFrame, mkF, argsToLocals, Value.category]; done) | rfl
def Fwd (p0 : Int32) : Int64 := ((100 : Int64) * (p0.toInt64))
def Q3 (Z : State) (p0 : Int32) (h0 : Heap) (n0 : Nat) (v : Option Value) (h : Heap) (L : List Loc) : Prop := v = some (.long (Fwd p0)) ∧ Fr n0 L ∧ h = h0
set_option maxRecDepth 65536 in
set_option maxHeartbeats 40000000 in
theorem rm3 (l : Launch) (Z : State) (aw : Array Value) (hw : ∀ d ∈ tables_1, d.before aw Z = true) (ws : List Jvm.Cond) (p0 : Int32) (h0 : Heap) (n0 : Nat) (Z0 : n0 ≤ h0.size) :
    MetFree l (⟨"com/example/amortine/amortine/PeriodRate", "wholeDivisor", "(I)J"⟩ : MethodName) (head1 (Jvm.Cond.code (⟨"com/example/amortine/amortine/PeriodRate", "wholeDivisor", "(I)J"⟩ : MethodName) prog_60_method_3_code 1 (some .long) :: ws) ({ frames := 0, cells := 0, slots := 0, locals := 0 } : Room)) (fun a U => a = #[(.int p0)] ∧ Z.Warmed39 U.vm ∧ U.heap = h0) (fun _ _ _ _ _ => True) (fun _ U o U' => ∃ v L, o = .returned v ∧ Q3 Z p0 h0 n0 v U'.heap L ∧ FrameEnd U o U' L ({ frames := 0, cells := 0, slots := 0, locals := 0 } : Room).cells ({ frames := 0, cells := 0, slots := 0, locals := 0 } : Room).slots) := by
  refine MetFree.of_bodySF (plainFor_of_name pn_3) hisR ?_
  intro p e s m args below meth c s₁ Bd hml0 hP hK
  obtain ⟨rfl, hZ, hh⟩ := hP
  have hx := Bd.exec
  have hby := Bd.bytes
  have hml : c.maxLocals = 1 := hml0
  have hown : s.vm.findClass "com/example/amortine/amortine/PeriodRate" = some m.cls := findClass_of_methodNamed Bd.named
  have hnm := (name_of_methodNamed Bd.named Bd.method).1
  have X0 : Stand p l e ({ frames := 0, cells := 0, slots := 0, locals := 0 } : Room) s m #[(.int p0)] below meth c s₁ [] 0 0 := Stand.of_body Bd
  have e0 : s₁.heap = h0 := by rw [← hh, Bd.state]; rfl
  have N0 := Fr.nil n0
  obtain ⟨A0, hA0⟩ : ∃ A0, A0 = s₁.setTop (entryFrame m #[(.int p0)] 1) := ⟨_, rfl⟩
  have go0 : Go p e below A0 (s₁.setTop (mkF m 0 #[.val (.int p0)] [])) := fun t k => by rw [hA0]; exact castTop (ef_3 m p0) k
  have go1 : Go p e below A0 (s₁.setTop (mkF m 6 #[.val (.int p0)] [(.long ((100 : Int64) * (p0.toInt64)))])) := by
    intro t k
    refine go0 t ?_
    refine o_ldc2Long X0 hx hby hown (mvT hZ (hw _ (List.mem_of_getElem? (i := 16) rfl))) d3_0 3 rfl ?_
    refine o_iloadN X0 hx hby d3_3 4 rfl rfl ?_
    refine o_i2l X0 hx hby d3_4 5 rfl ?_
    refine o_lmul X0 hx hby d3_5 6 rfl ?_
    exact k
  have hF : ((100 : Int64) * (p0.toInt64)) = Fwd p0 := by simp only [Fwd]
  rw [hA0] at go1
  obtain ⟨fs, hr, hrun, hended, hW, hsame⟩ := X0.leave (v := some (.long ((100 : Int64) * (p0.toInt64)))) (fun h => by rw [Bd.returns] at h; cases h)
  refine ⟨_, _, go1 _ (o_retJ X0 hx Bd.returns (hb hby d3_6) hr), hrun, hended, _, _, rfl, ?_, ⟨_, rfl⟩, hW, hsame.mono (by decide) (by decide)⟩
  show Q3 Z p0 h0 n0 _ s₁.heap _
  rw [e0]
  exact ⟨by rw [← hF], N0, rfl⟩
theorem d13_0 : decode jdk_35_method_57_code 0 = .ok (.lload_n 0, 1) := by decide +kernel
theorem d13_1 : decode jdk_35_method_57_code 1 = .ok (.bipush 63, 2) := by decide +kernel
theorem d13_3 : decode jdk_35_method_57_code 3 = .ok (.lshr, 1) := by decide +kernel
theorem d13_4 : decode jdk_35_method_57_code 4 = .ok (.lload_n 0, 1) := by decide +kernel
theorem d13_5 : decode jdk_35_method_57_code 5 = .ok (.lneg, 1) := by decide +kernel
theorem d13_6 : decode jdk_35_method_57_code 6 = .ok (.bipush 63, 2) := by decide +kernel
theorem d13_8 : decode jdk_35_method_57_code 8 = .ok (.lushr, 1) := by decide +kernel
theorem d13_9 : decode jdk_35_method_57_code 9 = .ok (.lor, 1) := by decide +kernel
theorem d13_10 : decode jdk_35_method_57_code 10 = .ok (.l2i, 1) := by decide +kernel
theorem d13_11 : decode jdk_35_method_57_code 11 = .ok (.ireturn, 1) := by decide +kernel
theorem pn_13 : plainName "java/lang/Long" = true := by first | (simp [plainName, overriddenIn]; done) | decide +kernel
theorem ef_13 (m : MethodId) (x0 : Int64) : entryFrame m #[(.long x0)] 2 = mkF m 0 #[.val (.long x0), .second] [] := by first | (simp [entryFrame, mkF, argsToLocals, Value.category]; done) | rfl
def Fsig (q0 : Int64) : Int32 := (((q0 >>> ((63 : Int32) &&& 0x3f).toInt64) ||| (((-q0).toUInt64 >>> ((63 : Int32) &&& 0x3f).toInt64.toUInt64).toInt64)).toInt32)
def Q13 (Z : State) (q0 : Int64) (h0 : Heap) (n0 : Nat) (v : Option Value) (h : Heap) (L : List Loc) : Prop := v = some (.int (Fsig q0)) ∧ Fr n0 L ∧ h = h0
set_option maxRecDepth 65536 in
set_option maxHeartbeats 40000000 in
theorem rm13 (l : Launch) (Z : State) (aw : Array Value) (hw : ∀ d ∈ tables_1, d.before aw Z = true) (ws : List Jvm.Cond) (q0 : Int64) (h0 : Heap) (n0 : Nat) (Z0 : n0 ≤ h0.size) :
    MetFree l (⟨"java/lang/Long", "signum", "(J)I"⟩ : MethodName) (head1 (Jvm.Cond.code (⟨"java/lang/Long", "signum", "(J)I"⟩ : MethodName) jdk_35_method_57_code 2 (some .int) :: ws) ({ frames := 0, cells := 0, slots := 0, locals := 0 } : Room)) (fun a U => a = #[(.long q0)] ∧ Z.Warmed39 U.vm ∧ U.heap = h0) (fun _ _ _ _ _ => True) (fun _ U o U' => ∃ v L, o = .returned v ∧ Q13 Z q0 h0 n0 v U'.heap L ∧ FrameEnd U o U' L ({ frames := 0, cells := 0, slots := 0, locals := 0 } : Room).cells ({ frames := 0, cells := 0, slots := 0, locals := 0 } : Room).slots) := by
  refine MetFree.of_bodySF (plainFor_of_name pn_13) hisR ?_
  intro p e s m args below meth c s₁ Bd hml0 hP hK
  obtain ⟨rfl, hZ, hh⟩ := hP
  have hx := Bd.exec
  have hby := Bd.bytes
  have hml : c.maxLocals = 2 := hml0
  have hown : s.vm.findClass "java/lang/Long" = some m.cls := findClass_of_methodNamed Bd.named
  have hnm := (name_of_methodNamed Bd.named Bd.method).1
  have X0 : Stand p l e ({ frames := 0, cells := 0, slots := 0, locals := 0 } : Room) s m #[(.long q0)] below meth c s₁ [] 0 0 := Stand.of_body Bd
  have e0 : s₁.heap = h0 := by rw [← hh, Bd.state]; rfl
  have N0 := Fr.nil n0
  obtain ⟨A0, hA0⟩ : ∃ A0, A0 = s₁.setTop (entryFrame m #[(.long q0)] 2) := ⟨_, rfl⟩
  have go0 : Go p e below A0 (s₁.setTop (mkF m 0 #[.val (.long q0), .second] [])) := fun t k => by rw [hA0]; exact castTop (ef_13 m q0) k
  have go1 : Go p e below A0 (s₁.setTop (mkF m 11 #[.val (.long q0), .second] [(.int (((q0 >>> ((63 : Int32) &&& 0x3f).toInt64) ||| (((-q0).toUInt64 >>> ((63 : Int32) &&& 0x3f).toInt64.toUInt64).toInt64)).toInt32))])) := by
    intro t k
    refine go0 t ?_
    refine o_lloadN X0 hx hby d13_0 1 rfl rfl ?_
    refine o_bipush X0 hx hby d13_1 3 rfl (v := (63 : Int32)) rfl ?_
    refine o_lshr X0 hx hby d13_3 4 rfl ?_
    refine o_lloadN X0 hx hby d13_4 5 rfl rfl ?_
    refine o_lneg X0 hx hby d13_5 6 rfl ?_
    refine o_bipush X0 hx hby d13_6 8 rfl (v := (63 : Int32)) rfl ?_
    refine o_lushr X0 hx hby d13_8 9 rfl ?_
    refine o_lor X0 hx hby d13_9 10 rfl ?_
    refine o_l2i X0 hx hby d13_10 11 rfl ?_
    exact k
  have hF : (((q0 >>> ((63 : Int32) &&& 0x3f).toInt64) ||| (((-q0).toUInt64 >>> ((63 : Int32) &&& 0x3f).toInt64.toUInt64).toInt64)).toInt32) = Fsig q0 := by simp only [Fsig]
  rw [hA0] at go1
  obtain ⟨fs, hr, hrun, hended, hW, hsame⟩ := X0.leave (v := some (.int (((q0 >>> ((63 : Int32) &&& 0x3f).toInt64) ||| (((-q0).toUInt64 >>> ((63 : Int32) &&& 0x3f).toInt64.toUInt64).toInt64)).toInt32))) (fun h => by rw [Bd.returns] at h; cases h)
  refine ⟨_, _, go1 _ (o_retI X0 hx Bd.returns (hb hby d13_11) hr), hrun, hended, _, _, rfl, ?_, ⟨_, rfl⟩, hW, hsame.mono (by decide) (by decide)⟩
  show Q13 Z q0 h0 n0 _ s₁.heap _
  rw [e0]
  exact ⟨by rw [← hF], N0, rfl⟩
theorem d15_0 : decode jdk_29_method_45_code 0 = .ok (.lload_n 0, 1) := by decide +kernel
theorem d15_1 : decode jdk_29_method_45_code 1 = .ok (.bipush 32, 2) := by decide +kernel
theorem d15_3 : decode jdk_29_method_45_code 3 = .ok (.lshr, 1) := by decide +kernel
theorem d15_4 : decode jdk_29_method_45_code 4 = .ok (.lstore 4, 2) := by decide +kernel
theorem d15_6 : decode jdk_29_method_45_code 6 = .ok (.lload_n 0, 1) := by decide +kernel
theorem d15_7 : decode jdk_29_method_45_code 7 = .ok (.ldc2_w 138, 3) := by decide +kernel
theorem d15_10 : decode jdk_29_method_45_code 10 = .ok (.land, 1) := by decide +kernel
theorem d15_11 : decode jdk_29_method_45_code 11 = .ok (.lstore 6, 2) := by decide +kernel
theorem d15_13 : decode jdk_29_method_45_code 13 = .ok (.lload_n 2, 1) := by decide +kernel
theorem d15_14 : decode jdk_29_method_45_code 14 = .ok (.bipush 32, 2) := by decide +kernel
theorem d15_16 : decode jdk_29_method_45_code 16 = .ok (.lshr, 1) := by decide +kernel
theorem d15_17 : decode jdk_29_method_45_code 17 = .ok (.lstore 8, 2) := by decide +kernel
theorem d15_19 : decode jdk_29_method_45_code 19 = .ok (.lload_n 2, 1) := by decide +kernel
theorem d15_20 : decode jdk_29_method_45_code 20 = .ok (.ldc2_w 138, 3) := by decide +kernel
theorem d15_23 : decode jdk_29_method_45_code 23 = .ok (.land, 1) := by decide +kernel
theorem d15_24 : decode jdk_29_method_45_code 24 = .ok (.lstore 10, 2) := by decide +kernel
theorem d15_26 : decode jdk_29_method_45_code 26 = .ok (.lload 6, 2) := by decide +kernel
theorem d15_28 : decode jdk_29_method_45_code 28 = .ok (.lload 10, 2) := by decide +kernel
theorem d15_30 : decode jdk_29_method_45_code 30 = .ok (.lmul, 1) := by decide +kernel
theorem d15_31 : decode jdk_29_method_45_code 31 = .ok (.lstore 12, 2) := by decide +kernel
theorem d15_33 : decode jdk_29_method_45_code 33 = .ok (.lload 4, 2) := by decide +kernel
theorem d15_35 : decode jdk_29_method_45_code 35 = .ok (.lload 10, 2) := by decide +kernel
theorem d15_37 : decode jdk_29_method_45_code 37 = .ok (.lmul, 1) := by decide +kernel
theorem d15_38 : decode jdk_29_method_45_code 38 = .ok (.lload 12, 2) := by decide +kernel
theorem d15_40 : decode jdk_29_method_45_code 40 = .ok (.bipush 32, 2) := by decide +kernel
theorem d15_42 : decode jdk_29_method_45_code 42 = .ok (.lushr, 1) := by decide +kernel
theorem d15_43 : decode jdk_29_method_45_code 43 = .ok (.ladd, 1) := by decide +kernel
theorem d15_44 : decode jdk_29_method_45_code 44 = .ok (.lstore 14, 2) := by decide +kernel
theorem d15_46 : decode jdk_29_method_45_code 46 = .ok (.lload 14, 2) := by decide +kernel
theorem d15_48 : decode jdk_29_method_45_code 48 = .ok (.ldc2_w 138, 3) := by decide +kernel
theorem d15_51 : decode jdk_29_method_45_code 51 = .ok (.land, 1) := by decide +kernel
theorem d15_52 : decode jdk_29_method_45_code 52 = .ok (.lstore 16, 2) := by decide +kernel
theorem d15_54 : decode jdk_29_method_45_code 54 = .ok (.lload 14, 2) := by decide +kernel
theorem d15_56 : decode jdk_29_method_45_code 56 = .ok (.bipush 32, 2) := by decide +kernel
theorem d15_58 : decode jdk_29_method_45_code 58 = .ok (.lshr, 1) := by decide +kernel
theorem d15_59 : decode jdk_29_method_45_code 59 = .ok (.lstore 18, 2) := by decide +kernel
theorem d15_61 : decode jdk_29_method_45_code 61 = .ok (.lload 16, 2) := by decide +kernel
theorem d15_63 : decode jdk_29_method_45_code 63 = .ok (.lload 6, 2) := by decide +kernel
theorem d15_65 : decode jdk_29_method_45_code 65 = .ok (.lload 8, 2) := by decide +kernel
theorem d15_67 : decode jdk_29_method_45_code 67 = .ok (.lmul, 1) := by decide +kernel
theorem d15_68 : decode jdk_29_method_45_code 68 = .ok (.ladd, 1) := by decide +kernel
theorem d15_69 : decode jdk_29_method_45_code 69 = .ok (.lstore 16, 2) := by decide +kernel
theorem d15_71 : decode jdk_29_method_45_code 71 = .ok (.lload 4, 2) := by decide +kernel
theorem d15_73 : decode jdk_29_method_45_code 73 = .ok (.lload 8, 2) := by decide +kernel
theorem d15_75 : decode jdk_29_method_45_code 75 = .ok (.lmul, 1) := by decide +kernel
theorem d15_76 : decode jdk_29_method_45_code 76 = .ok (.lload 18, 2) := by decide +kernel
theorem d15_78 : decode jdk_29_method_45_code 78 = .ok (.ladd, 1) := by decide +kernel
theorem d15_79 : decode jdk_29_method_45_code 79 = .ok (.lload 16, 2) := by decide +kernel
theorem d15_81 : decode jdk_29_method_45_code 81 = .ok (.bipush 32, 2) := by decide +kernel
theorem d15_83 : decode jdk_29_method_45_code 83 = .ok (.lshr, 1) := by decide +kernel
theorem d15_84 : decode jdk_29_method_45_code 84 = .ok (.ladd, 1) := by decide +kernel
theorem d15_85 : decode jdk_29_method_45_code 85 = .ok (.lreturn, 1) := by decide +kernel
theorem ef_15 (m : MethodId) (x0 : Int64) (x1 : Int64) : entryFrame m #[(.long x0), (.long x1)] 20 = mkF m 0 #[.val (.long x0), .second, .val (.long x1), .second, .unset, .unset, .unset, .unset, .unset, .unset, .unset, .unset, .unset, .unset, .unset, .unset, .unset, .unset, .unset, .unset] [] := by first | (simp [entryFrame, mkF, argsToLocals, Value.category]; done) | rfl
def Fmh (q0 : Int64) (q1 : Int64) : Int64 := let v1 : Int64 := (q0 >>> ((32 : Int32) &&& 0x3f).toInt64); let v2 : Int64 := (q0 &&& (4294967295 : Int64)); let v3 : Int64 := (q1 >>> ((32 : Int32) &&& 0x3f).toInt64); let v4 : Int64 := (q1 &&& (4294967295 : Int64)); let v5 : Int64 := (v2 * v4); let v6 : Int64 := ((v1 * v4) + ((v5.toUInt64 >>> ((32 : Int32) &&& 0x3f).toInt64.toUInt64).toInt64)); let v7 : Int64 := (v6 &&& (4294967295 : Int64)); let v8 : Int64 := (v6 >>> ((32 : Int32) &&& 0x3f).toInt64); let v9 : Int64 := (v7 + (v2 * v3)); (((v1 * v3) + v8) + (v9 >>> ((32 : Int32) &&& 0x3f).toInt64))
def Q15 (Z : State) (q0 : Int64) (q1 : Int64) (h0 : Heap) (n0 : Nat) (v : Option Value) (h : Heap) (L : List Loc) : Prop := v = some (.long (Fmh q0 q1)) ∧ Fr n0 L ∧ h = h0
set_option maxRecDepth 65536 in
set_option maxHeartbeats 40000000 in
theorem rm15 (l : Launch) (Z : State) (aw : Array Value) (hw : ∀ d ∈ tables_1, d.before aw Z = true) (ws : List Jvm.Cond) (q0 : Int64) (q1 : Int64) (h0 : Heap) (n0 : Nat) (Z0 : n0 ≤ h0.size) :
    MetFree l (⟨"java/lang/Math", "multiplyHigh", "(JJ)J"⟩ : MethodName) (head1 (Jvm.Cond.code (⟨"java/lang/Math", "multiplyHigh", "(JJ)J"⟩ : MethodName) jdk_29_method_45_code 20 (some .long) :: ws) ({ frames := 0, cells := 0, slots := 0, locals := 0 } : Room)) (fun a U => a = #[(.long q0), (.long q1)] ∧ Z.Warmed39 U.vm ∧ U.heap = h0) (fun _ _ _ _ _ => True) (fun _ U o U' => ∃ v L, o = .returned v ∧ Q15 Z q0 q1 h0 n0 v U'.heap L ∧ FrameEnd U o U' L ({ frames := 0, cells := 0, slots := 0, locals := 0 } : Room).cells ({ frames := 0, cells := 0, slots := 0, locals := 0 } : Room).slots) := by
  refine MetFree.of_bodySF (Jvm.Free.JP.mathPlain rfl (by decide +kernel)) hisR ?_
  intro p e s m args below meth c s₁ Bd hml0 hP hK
  obtain ⟨rfl, hZ, hh⟩ := hP
  have hx := Bd.exec
  have hby := Bd.bytes
  have hml : c.maxLocals = 20 := hml0
  have hown : s.vm.findClass "java/lang/Math" = some m.cls := findClass_of_methodNamed Bd.named
  have hnm := (name_of_methodNamed Bd.named Bd.method).1
  have X0 : Stand p l e ({ frames := 0, cells := 0, slots := 0, locals := 0 } : Room) s m #[(.long q0), (.long q1)] below meth c s₁ [] 0 0 := Stand.of_body Bd
  have e0 : s₁.heap = h0 := by rw [← hh, Bd.state]; rfl
  have N0 := Fr.nil n0
  obtain ⟨A0, hA0⟩ : ∃ A0, A0 = s₁.setTop (entryFrame m #[(.long q0), (.long q1)] 20) := ⟨_, rfl⟩
  have go0 : Go p e below A0 (s₁.setTop (mkF m 0 #[.val (.long q0), .second, .val (.long q1), .second, .unset, .unset, .unset, .unset, .unset, .unset, .unset, .unset, .unset, .unset, .unset, .unset, .unset, .unset, .unset, .unset] [])) := fun t k => by rw [hA0]; exact castTop (ef_15 m q0 q1) k
  have go1 : Go p e below A0 (s₁.setTop (mkF m 6 #[.val (.long q0), .second, .val (.long q1), .second, .val (.long (q0 >>> ((32 : Int32) &&& 0x3f).toInt64)), .second, .unset, .unset, .unset, .unset, .unset, .unset, .unset, .unset, .unset, .unset, .unset, .unset, .unset, .unset] [])) := by
    intro t k
    refine go0 t ?_
    refine o_lloadN X0 hx hby d15_0 1 rfl rfl ?_
    refine o_bipush X0 hx hby d15_1 3 rfl (v := (32 : Int32)) rfl ?_
    refine o_lshr X0 hx hby d15_3 4 rfl ?_
    refine o_lstore X0 hx hby d15_4 6 rfl (l' := #[.val (.long q0), .second, .val (.long q1), .second, .val (.long (q0 >>> ((32 : Int32) &&& 0x3f).toInt64)), .second, .unset, .unset, .unset, .unset, .unset, .unset, .unset, .unset, .unset, .unset, .unset, .unset, .unset, .unset]) rfl ?_
    exact k
  obtain ⟨v1, hv1, go2⟩ : ∃ v1 : Int64, v1 = (q0 >>> ((32 : Int32) &&& 0x3f).toInt64) ∧ Go p e below A0 (s₁.setTop (mkF m 6 #[.val (.long q0), .second, .val (.long q1), .second, .val (.long v1), .second, .unset, .unset, .unset, .unset, .unset, .unset, .unset, .unset, .unset, .unset, .unset, .unset, .unset, .unset] [])) := ⟨_, rfl, go1⟩
  have go3 : Go p e below A0 (s₁.setTop (mkF m 13 #[.val (.long q0), .second, .val (.long q1), .second, .val (.long v1), .second, .val (.long (q0 &&& (4294967295 : Int64))), .second, .unset, .unset, .unset, .unset, .unset, .unset, .unset, .unset, .unset, .unset, .unset, .unset] [])) := by
    intro t k
    refine go2 t ?_
    refine o_lloadN X0 hx hby d15_6 7 rfl rfl ?_
    refine o_ldc2Long X0 hx hby hown (mvT hZ (hw _ (List.mem_of_getElem? (i := 112) rfl))) d15_7 10 rfl ?_
    refine o_land X0 hx hby d15_10 11 rfl ?_
    refine o_lstore X0 hx hby d15_11 13 rfl (l' := #[.val (.long q0), .second, .val (.long q1), .second, .val (.long v1), .second, .val (.long (q0 &&& (4294967295 : Int64))), .second, .unset, .unset, .unset, .unset, .unset, .unset, .unset, .unset, .unset, .unset, .unset, .unset]) rfl ?_
    exact k
  obtain ⟨v2, hv2, go4⟩ : ∃ v2 : Int64, v2 = (q0 &&& (4294967295 : Int64)) ∧ Go p e below A0 (s₁.setTop (mkF m 13 #[.val (.long q0), .second, .val (.long q1), .second, .val (.long v1), .second, .val (.long v2), .second, .unset, .unset, .unset, .unset, .unset, .unset, .unset, .unset, .unset, .unset, .unset, .unset] [])) := ⟨_, rfl, go3⟩
  have go5 : Go p e below A0 (s₁.setTop (mkF m 19 #[.val (.long q0), .second, .val (.long q1), .second, .val (.long v1), .second, .val (.long v2), .second, .val (.long (q1 >>> ((32 : Int32) &&& 0x3f).toInt64)), .second, .unset, .unset, .unset, .unset, .unset, .unset, .unset, .unset, .unset, .unset] [])) := by
    intro t k
    refine go4 t ?_
    refine o_lloadN X0 hx hby d15_13 14 rfl rfl ?_
    refine o_bipush X0 hx hby d15_14 16 rfl (v := (32 : Int32)) rfl ?_
    refine o_lshr X0 hx hby d15_16 17 rfl ?_
    refine o_lstore X0 hx hby d15_17 19 rfl (l' := #[.val (.long q0), .second, .val (.long q1), .second, .val (.long v1), .second, .val (.long v2), .second, .val (.long (q1 >>> ((32 : Int32) &&& 0x3f).toInt64)), .second, .unset, .unset, .unset, .unset, .unset, .unset, .unset, .unset, .unset, .unset]) rfl ?_
    exact k
  obtain ⟨v3, hv3, go6⟩ : ∃ v3 : Int64, v3 = (q1 >>> ((32 : Int32) &&& 0x3f).toInt64) ∧ Go p e below A0 (s₁.setTop (mkF m 19 #[.val (.long q0), .second, .val (.long q1), .second, .val (.long v1), .second, .val (.long v2), .second, .val (.long v3), .second, .unset, .unset, .unset, .unset, .unset, .unset, .unset, .unset, .unset, .unset] [])) := ⟨_, rfl, go5⟩
  have go7 : Go p e below A0 (s₁.setTop (mkF m 26 #[.val (.long q0), .second, .val (.long q1), .second, .val (.long v1), .second, .val (.long v2), .second, .val (.long v3), .second, .val (.long (q1 &&& (4294967295 : Int64))), .second, .unset, .unset, .unset, .unset, .unset, .unset, .unset, .unset] [])) := by
    intro t k
    refine go6 t ?_
    refine o_lloadN X0 hx hby d15_19 20 rfl rfl ?_
    refine o_ldc2Long X0 hx hby hown (mvT hZ (hw _ (List.mem_of_getElem? (i := 112) rfl))) d15_20 23 rfl ?_
    refine o_land X0 hx hby d15_23 24 rfl ?_
    refine o_lstore X0 hx hby d15_24 26 rfl (l' := #[.val (.long q0), .second, .val (.long q1), .second, .val (.long v1), .second, .val (.long v2), .second, .val (.long v3), .second, .val (.long (q1 &&& (4294967295 : Int64))), .second, .unset, .unset, .unset, .unset, .unset, .unset, .unset, .unset]) rfl ?_
    exact k
  obtain ⟨v4, hv4, go8⟩ : ∃ v4 : Int64, v4 = (q1 &&& (4294967295 : Int64)) ∧ Go p e below A0 (s₁.setTop (mkF m 26 #[.val (.long q0), .second, .val (.long q1), .second, .val (.long v1), .second, .val (.long v2), .second, .val (.long v3), .second, .val (.long v4), .second, .unset, .unset, .unset, .unset, .unset, .unset, .unset, .unset] [])) := ⟨_, rfl, go7⟩
  have go9 : Go p e below A0 (s₁.setTop (mkF m 33 #[.val (.long q0), .second, .val (.long q1), .second, .val (.long v1), .second, .val (.long v2), .second, .val (.long v3), .second, .val (.long v4), .second, .val (.long (v2 * v4)), .second, .unset, .unset, .unset, .unset, .unset, .unset] [])) := by
    intro t k
    refine go8 t ?_
    refine o_lload X0 hx hby d15_26 28 rfl rfl ?_
    refine o_lload X0 hx hby d15_28 30 rfl rfl ?_
    refine o_lmul X0 hx hby d15_30 31 rfl ?_
    refine o_lstore X0 hx hby d15_31 33 rfl (l' := #[.val (.long q0), .second, .val (.long q1), .second, .val (.long v1), .second, .val (.long v2), .second, .val (.long v3), .second, .val (.long v4), .second, .val (.long (v2 * v4)), .second, .unset, .unset, .unset, .unset, .unset, .unset]) rfl ?_
    exact k
  obtain ⟨v5, hv5, go10⟩ : ∃ v5 : Int64, v5 = (v2 * v4) ∧ Go p e below A0 (s₁.setTop (mkF m 33 #[.val (.long q0), .second, .val (.long q1), .second, .val (.long v1), .second, .val (.long v2), .second, .val (.long v3), .second, .val (.long v4), .second, .val (.long v5), .second, .unset, .unset, .unset, .unset, .unset, .unset] [])) := ⟨_, rfl, go9⟩
  have go11 : Go p e below A0 (s₁.setTop (mkF m 46 #[.val (.long q0), .second, .val (.long q1), .second, .val (.long v1), .second, .val (.long v2), .second, .val (.long v3), .second, .val (.long v4), .second, .val (.long v5), .second, .val (.long ((v1 * v4) + ((v5.toUInt64 >>> ((32 : Int32) &&& 0x3f).toInt64.toUInt64).toInt64))), .second, .unset, .unset, .unset, .unset] [])) := by
    intro t k
    refine go10 t ?_
    refine o_lload X0 hx hby d15_33 35 rfl rfl ?_
    refine o_lload X0 hx hby d15_35 37 rfl rfl ?_
    refine o_lmul X0 hx hby d15_37 38 rfl ?_
    refine o_lload X0 hx hby d15_38 40 rfl rfl ?_
    refine o_bipush X0 hx hby d15_40 42 rfl (v := (32 : Int32)) rfl ?_
    refine o_lushr X0 hx hby d15_42 43 rfl ?_
    refine o_ladd X0 hx hby d15_43 44 rfl ?_
    refine o_lstore X0 hx hby d15_44 46 rfl (l' := #[.val (.long q0), .second, .val (.long q1), .second, .val (.long v1), .second, .val (.long v2), .second, .val (.long v3), .second, .val (.long v4), .second, .val (.long v5), .second, .val (.long ((v1 * v4) + ((v5.toUInt64 >>> ((32 : Int32) &&& 0x3f).toInt64.toUInt64).toInt64))), .second, .unset, .unset, .unset, .unset]) rfl ?_
    exact k
  obtain ⟨v6, hv6, go12⟩ : ∃ v6 : Int64, v6 = ((v1 * v4) + ((v5.toUInt64 >>> ((32 : Int32) &&& 0x3f).toInt64.toUInt64).toInt64)) ∧ Go p e below A0 (s₁.setTop (mkF m 46 #[.val (.long q0), .second, .val (.long q1), .second, .val (.long v1), .second, .val (.long v2), .second, .val (.long v3), .second, .val (.long v4), .second, .val (.long v5), .second, .val (.long v6), .second, .unset, .unset, .unset, .unset] [])) := ⟨_, rfl, go11⟩
  have go13 : Go p e below A0 (s₁.setTop (mkF m 54 #[.val (.long q0), .second, .val (.long q1), .second, .val (.long v1), .second, .val (.long v2), .second, .val (.long v3), .second, .val (.long v4), .second, .val (.long v5), .second, .val (.long v6), .second, .val (.long (v6 &&& (4294967295 : Int64))), .second, .unset, .unset] [])) := by
    intro t k
    refine go12 t ?_
    refine o_lload X0 hx hby d15_46 48 rfl rfl ?_
    refine o_ldc2Long X0 hx hby hown (mvT hZ (hw _ (List.mem_of_getElem? (i := 112) rfl))) d15_48 51 rfl ?_
    refine o_land X0 hx hby d15_51 52 rfl ?_
    refine o_lstore X0 hx hby d15_52 54 rfl (l' := #[.val (.long q0), .second, .val (.long q1), .second, .val (.long v1), .second, .val (.long v2), .second, .val (.long v3), .second, .val (.long v4), .second, .val (.long v5), .second, .val (.long v6), .second, .val (.long (v6 &&& (4294967295 : Int64))), .second, .unset, .unset]) rfl ?_
    exact k
  obtain ⟨v7, hv7, go14⟩ : ∃ v7 : Int64, v7 = (v6 &&& (4294967295 : Int64)) ∧ Go p e below A0 (s₁.setTop (mkF m 54 #[.val (.long q0), .second, .val (.long q1), .second, .val (.long v1), .second, .val (.long v2), .second, .val (.long v3), .second, .val (.long v4), .second, .val (.long v5), .second, .val (.long v6), .second, .val (.long v7), .second, .unset, .unset] [])) := ⟨_, rfl, go13⟩
  have go15 : Go p e below A0 (s₁.setTop (mkF m 61 #[.val (.long q0), .second, .val (.long q1), .second, .val (.long v1), .second, .val (.long v2), .second, .val (.long v3), .second, .val (.long v4), .second, .val (.long v5), .second, .val (.long v6), .second, .val (.long v7), .second, .val (.long (v6 >>> ((32 : Int32) &&& 0x3f).toInt64)), .second] [])) := by
    intro t k
    refine go14 t ?_
    refine o_lload X0 hx hby d15_54 56 rfl rfl ?_
    refine o_bipush X0 hx hby d15_56 58 rfl (v := (32 : Int32)) rfl ?_
    refine o_lshr X0 hx hby d15_58 59 rfl ?_
    refine o_lstore X0 hx hby d15_59 61 rfl (l' := #[.val (.long q0), .second, .val (.long q1), .second, .val (.long v1), .second, .val (.long v2), .second, .val (.long v3), .second, .val (.long v4), .second, .val (.long v5), .second, .val (.long v6), .second, .val (.long v7), .second, .val (.long (v6 >>> ((32 : Int32) &&& 0x3f).toInt64)), .second]) rfl ?_
    exact k
  obtain ⟨v8, hv8, go16⟩ : ∃ v8 : Int64, v8 = (v6 >>> ((32 : Int32) &&& 0x3f).toInt64) ∧ Go p e below A0 (s₁.setTop (mkF m 61 #[.val (.long q0), .second, .val (.long q1), .second, .val (.long v1), .second, .val (.long v2), .second, .val (.long v3), .second, .val (.long v4), .second, .val (.long v5), .second, .val (.long v6), .second, .val (.long v7), .second, .val (.long v8), .second] [])) := ⟨_, rfl, go15⟩
  have go17 : Go p e below A0 (s₁.setTop (mkF m 71 #[.val (.long q0), .second, .val (.long q1), .second, .val (.long v1), .second, .val (.long v2), .second, .val (.long v3), .second, .val (.long v4), .second, .val (.long v5), .second, .val (.long v6), .second, .val (.long (v7 + (v2 * v3))), .second, .val (.long v8), .second] [])) := by
    intro t k
    refine go16 t ?_
    refine o_lload X0 hx hby d15_61 63 rfl rfl ?_
    refine o_lload X0 hx hby d15_63 65 rfl rfl ?_
    refine o_lload X0 hx hby d15_65 67 rfl rfl ?_
    refine o_lmul X0 hx hby d15_67 68 rfl ?_
    refine o_ladd X0 hx hby d15_68 69 rfl ?_
    refine o_lstore X0 hx hby d15_69 71 rfl (l' := #[.val (.long q0), .second, .val (.long q1), .second, .val (.long v1), .second, .val (.long v2), .second, .val (.long v3), .second, .val (.long v4), .second, .val (.long v5), .second, .val (.long v6), .second, .val (.long (v7 + (v2 * v3))), .second, .val (.long v8), .second]) rfl ?_
    exact k
  obtain ⟨v9, hv9, go18⟩ : ∃ v9 : Int64, v9 = (v7 + (v2 * v3)) ∧ Go p e below A0 (s₁.setTop (mkF m 71 #[.val (.long q0), .second, .val (.long q1), .second, .val (.long v1), .second, .val (.long v2), .second, .val (.long v3), .second, .val (.long v4), .second, .val (.long v5), .second, .val (.long v6), .second, .val (.long v9), .second, .val (.long v8), .second] [])) := ⟨_, rfl, go17⟩
  have go19 : Go p e below A0 (s₁.setTop (mkF m 85 #[.val (.long q0), .second, .val (.long q1), .second, .val (.long v1), .second, .val (.long v2), .second, .val (.long v3), .second, .val (.long v4), .second, .val (.long v5), .second, .val (.long v6), .second, .val (.long v9), .second, .val (.long v8), .second] [(.long (((v1 * v3) + v8) + (v9 >>> ((32 : Int32) &&& 0x3f).toInt64)))])) := by
    intro t k
    refine go18 t ?_
    refine o_lload X0 hx hby d15_71 73 rfl rfl ?_
    refine o_lload X0 hx hby d15_73 75 rfl rfl ?_
    refine o_lmul X0 hx hby d15_75 76 rfl ?_
    refine o_lload X0 hx hby d15_76 78 rfl rfl ?_
    refine o_ladd X0 hx hby d15_78 79 rfl ?_
    refine o_lload X0 hx hby d15_79 81 rfl rfl ?_
    refine o_bipush X0 hx hby d15_81 83 rfl (v := (32 : Int32)) rfl ?_
    refine o_lshr X0 hx hby d15_83 84 rfl ?_
    refine o_ladd X0 hx hby d15_84 85 rfl ?_
    exact k
  have hF : (((v1 * v3) + v8) + (v9 >>> ((32 : Int32) &&& 0x3f).toInt64)) = Fmh q0 q1 := by simp only [Fmh, hv1, hv2, hv3, hv4, hv5, hv6, hv7, hv8, hv9]
  rw [hA0] at go19
  obtain ⟨fs, hr, hrun, hended, hW, hsame⟩ := X0.leave (v := some (.long (((v1 * v3) + v8) + (v9 >>> ((32 : Int32) &&& 0x3f).toInt64)))) (fun h => by rw [Bd.returns] at h; cases h)
  refine ⟨_, _, go19 _ (o_retJ X0 hx Bd.returns (hb hby d15_85) hr), hrun, hended, _, _, rfl, ?_, ⟨_, rfl⟩, hW, hsame.mono (by decide) (by decide)⟩
  show Q15 Z q0 q1 h0 n0 _ s₁.heap _
  rw [e0]
  exact ⟨by rw [← hF], N0, rfl⟩
theorem d16_0 : decode prog_3_method_7_code 0 = .ok (.iload_n 0, 1) := by decide +kernel
theorem d16_1 : decode prog_3_method_7_code 1 = .ok (.ifCond .ne 15, 3) := by decide +kernel
theorem d16_4 : decode prog_3_method_7_code 4 = .ok (.iload_n 1, 1) := by decide +kernel
theorem d16_5 : decode prog_3_method_7_code 5 = .ok (.ifCond .ge 7, 3) := by decide +kernel
theorem d16_8 : decode prog_3_method_7_code 8 = .ok (.iconst 1, 1) := by decide +kernel
theorem d16_9 : decode prog_3_method_7_code 9 = .ok (.goto 17, 3) := by decide +kernel
theorem d16_12 : decode prog_3_method_7_code 12 = .ok (.iconst 0, 1) := by decide +kernel
theorem d16_13 : decode prog_3_method_7_code 13 = .ok (.goto 13, 3) := by decide +kernel
theorem d16_16 : decode prog_3_method_7_code 16 = .ok (.iload_n 1, 1) := by decide +kernel
theorem d16_17 : decode prog_3_method_7_code 17 = .ok (.iload_n 0, 1) := by decide +kernel
theorem d16_18 : decode prog_3_method_7_code 18 = .ok (.if_icmp .eq 7, 3) := by decide +kernel
theorem d16_21 : decode prog_3_method_7_code 21 = .ok (.iconst 1, 1) := by decide +kernel
theorem d16_22 : decode prog_3_method_7_code 22 = .ok (.goto 4, 3) := by decide +kernel
theorem d16_25 : decode prog_3_method_7_code 25 = .ok (.iconst 0, 1) := by decide +kernel
theorem d16_26 : decode prog_3_method_7_code 26 = .ok (.ireturn, 1) := by decide +kernel
theorem pn_16 : plainName "com/example/amortine/amortine/Amounts" = true := by first | (simp [plainName, overriddenIn]; done) | decide +kernel
theorem ef_16 (m : MethodId) (x0 : Int32) (x1 : Int32) : entryFrame m #[(.int x0), (.int x1)] 2 = mkF m 0 #[.val (.int x0), .val (.int x1)] [] := by first | (simp [entryFrame, mkF, argsToLocals, Value.category]; done) | rfl
def Fre (p0 : Int32) (p1 : Int32) : Int32 := let v3 : Int32 := (if p0 = (0 : Int32) then (if p1 < (0 : Int32) then (1 : Int32) else (0 : Int32)) else (if p1 = p0 then (0 : Int32) else (1 : Int32))); v3
def Q16 (Z : State) (p0 : Int32) (p1 : Int32) (h0 : Heap) (n0 : Nat) (v : Option Value) (h : Heap) (L : List Loc) : Prop := v = some (.int (Fre p0 p1)) ∧ Fr n0 L ∧ h = h0
set_option maxRecDepth 65536 in
set_option maxHeartbeats 40000000 in
theorem rm16 (l : Launch) (Z : State) (aw : Array Value) (hw : ∀ d ∈ tables_1, d.before aw Z = true) (ws : List Jvm.Cond) (p0 : Int32) (p1 : Int32) (h0 : Heap) (n0 : Nat) (Z0 : n0 ≤ h0.size) :
    MetFree l (⟨"com/example/amortine/amortine/Amounts", "reaches", "(II)Z"⟩ : MethodName) (head1 (Jvm.Cond.code (⟨"com/example/amortine/amortine/Amounts", "reaches", "(II)Z"⟩ : MethodName) prog_3_method_7_code 2 (some .boolean) :: ws) ({ frames := 0, cells := 0, slots := 0, locals := 0 } : Room)) (fun a U => a = #[(.int p0), (.int p1)] ∧ Z.Warmed39 U.vm ∧ U.heap = h0) (fun _ _ _ _ _ => True) (fun _ U o U' => ∃ v L, o = .returned v ∧ Q16 Z p0 p1 h0 n0 v U'.heap L ∧ FrameEnd U o U' L ({ frames := 0, cells := 0, slots := 0, locals := 0 } : Room).cells ({ frames := 0, cells := 0, slots := 0, locals := 0 } : Room).slots) := by
  refine MetFree.of_bodySF (plainFor_of_name pn_16) hisR ?_
  intro p e s m args below meth c s₁ Bd hml0 hP hK
  obtain ⟨rfl, hZ, hh⟩ := hP
  have hx := Bd.exec
  have hby := Bd.bytes
  have hml : c.maxLocals = 2 := hml0
  have hown : s.vm.findClass "com/example/amortine/amortine/Amounts" = some m.cls := findClass_of_methodNamed Bd.named
  have hnm := (name_of_methodNamed Bd.named Bd.method).1
  have X0 : Stand p l e ({ frames := 0, cells := 0, slots := 0, locals := 0 } : Room) s m #[(.int p0), (.int p1)] below meth c s₁ [] 0 0 := Stand.of_body Bd
  have e0 : s₁.heap = h0 := by rw [← hh, Bd.state]; rfl
  have N0 := Fr.nil n0
  obtain ⟨A0, hA0⟩ : ∃ A0, A0 = s₁.setTop (entryFrame m #[(.int p0), (.int p1)] 2) := ⟨_, rfl⟩
  have go0 : Go p e below A0 (s₁.setTop (mkF m 0 #[.val (.int p0), .val (.int p1)] [])) := fun t k => by rw [hA0]; exact castTop (ef_16 m p0 p1) k
  have go1 : Go p e below A0 (s₁.setTop (mkF m 1 #[.val (.int p0), .val (.int p1)] [(.int p0)])) := by
    intro t k
    refine go0 t ?_
    refine o_iloadN X0 hx hby d16_0 1 rfl rfl ?_
    exact k
  obtain ⟨v3, hv3, go10⟩ : ∃ (v3 : Int32), v3 = (if p0 = (0 : Int32) then (if p1 < (0 : Int32) then (1 : Int32) else (0 : Int32)) else (if p1 = p0 then (0 : Int32) else (1 : Int32))) ∧ Go p e below A0 (s₁.setTop (mkF m 26 #[.val (.int p0), .val (.int p1)] [(.int v3)])) := by
    by_cases hc1_1 : p0 = (0 : Int32)
    · have go2 : Go p e below A0 (s₁.setTop (mkF m 5 #[.val (.int p0), .val (.int p1)] [(.int p1)])) := by
        intro t k
        refine go1 t ?_
        refine o_ifN X0 hx hby d16_1 4 rfl (teq hc1_1).2 ?_
        refine o_iloadN X0 hx hby d16_4 5 rfl rfl ?_
        exact k
      obtain ⟨v1, hv1, go5⟩ : ∃ (v1 : Int32), v1 = (if p1 < (0 : Int32) then (1 : Int32) else (0 : Int32)) ∧ Go p e below A0 (s₁.setTop (mkF m 26 #[.val (.int p0), .val (.int p1)] [(.int v1)])) := by
        by_cases hc5_2 : p1 < (0 : Int32)
        · have go3 : Go p e below A0 (s₁.setTop (mkF m 26 #[.val (.int p0), .val (.int p1)] [(.int (1 : Int32))])) := by
            intro t k
            refine go2 t ?_
            refine o_ifN X0 hx hby d16_5 8 rfl (tlt hc5_2).2.1 ?_
            refine o_iconst X0 hx hby d16_8 9 rfl (v := (1 : Int32)) rfl ?_
            refine o_goto X0 hx hby d16_9 26 rfl ?_
            exact k
          exact ⟨(1 : Int32), (if_pos hc5_2).symm, go3⟩
        · have go4 : Go p e below A0 (s₁.setTop (mkF m 26 #[.val (.int p0), .val (.int p1)] [(.int (0 : Int32))])) := by
            intro t k
            refine go2 t ?_
            refine o_ifY X0 hx hby d16_5 12 rfl (flt hc5_2).2.1 ?_
            refine o_iconst X0 hx hby d16_12 13 rfl (v := (0 : Int32)) rfl ?_
            refine o_goto X0 hx hby d16_13 26 rfl ?_
            exact k
          exact ⟨(0 : Int32), (if_neg hc5_2).symm, go4⟩
      rw [hv1] at go5
      exact ⟨(if p1 < (0 : Int32) then (1 : Int32) else (0 : Int32)), (if_pos hc1_1).symm, go5⟩
    · have go6 : Go p e below A0 (s₁.setTop (mkF m 18 #[.val (.int p0), .val (.int p1)] [(.int p0), (.int p1)])) := by
        intro t k
        refine go1 t ?_
        refine o_ifY X0 hx hby d16_1 16 rfl (feq hc1_1).2 ?_
        refine o_iloadN X0 hx hby d16_16 17 rfl rfl ?_
        refine o_iloadN X0 hx hby d16_17 18 rfl rfl ?_
        exact k
      obtain ⟨v2, hv2, go9⟩ : ∃ (v2 : Int32), v2 = (if p1 = p0 then (0 : Int32) else (1 : Int32)) ∧ Go p e below A0 (s₁.setTop (mkF m 26 #[.val (.int p0), .val (.int p1)] [(.int v2)])) := by
        by_cases hc18_3 : p1 = p0
        · have go7 : Go p e below A0 (s₁.setTop (mkF m 26 #[.val (.int p0), .val (.int p1)] [(.int (0 : Int32))])) := by
            intro t k
            refine go6 t ?_
            refine o_icmpY X0 hx hby d16_18 25 rfl (teq hc18_3).1 ?_
            refine o_iconst X0 hx hby d16_25 26 rfl (v := (0 : Int32)) rfl ?_
            exact k
          exact ⟨(0 : Int32), (if_pos hc18_3).symm, go7⟩
        · have go8 : Go p e below A0 (s₁.setTop (mkF m 26 #[.val (.int p0), .val (.int p1)] [(.int (1 : Int32))])) := by
            intro t k
            refine go6 t ?_
            refine o_icmpN X0 hx hby d16_18 21 rfl (feq hc18_3).1 ?_
            refine o_iconst X0 hx hby d16_21 22 rfl (v := (1 : Int32)) rfl ?_
            refine o_goto X0 hx hby d16_22 26 rfl ?_
            exact k
          exact ⟨(1 : Int32), (if_neg hc18_3).symm, go8⟩
      rw [hv2] at go9
      exact ⟨(if p1 = p0 then (0 : Int32) else (1 : Int32)), (if_neg hc1_1).symm, go9⟩
  have hF : v3 = Fre p0 p1 := by simp only [Fre, hv3]
  rw [hA0] at go10
  obtain ⟨fs, hr, hrun, hended, hW, hsame⟩ := X0.leave (v := some (.int v3)) (fun h => by rw [Bd.returns] at h; cases h)
  refine ⟨_, _, go10 _ (o_retZ X0 hx Bd.returns (hb hby d16_26) (by rw [hv3]; (repeat' split) <;> first | exact Or.inl rfl | exact Or.inr rfl) hr), hrun, hended, _, _, rfl, ?_, ⟨_, rfl⟩, hW, hsame.mono (by decide) (by decide)⟩
  show Q16 Z p0 p1 h0 n0 _ s₁.heap _
  rw [e0]
  exact ⟨by rw [← hF], N0, rfl⟩
theorem d17_0 : decode jdk_29_method_65_code 0 = .ok (.iload_n 0, 1) := by decide +kernel
theorem d17_1 : decode jdk_29_method_65_code 1 = .ok (.iload_n 1, 1) := by decide +kernel
theorem d17_2 : decode jdk_29_method_65_code 2 = .ok (.if_icmp .lt 7, 3) := by decide +kernel
theorem d17_5 : decode jdk_29_method_65_code 5 = .ok (.iload_n 0, 1) := by decide +kernel
theorem d17_6 : decode jdk_29_method_65_code 6 = .ok (.goto 4, 3) := by decide +kernel
theorem d17_9 : decode jdk_29_method_65_code 9 = .ok (.iload_n 1, 1) := by decide +kernel
theorem d17_10 : decode jdk_29_method_65_code 10 = .ok (.ireturn, 1) := by decide +kernel
theorem ef_17 (m : MethodId) (x0 : Int32) (x1 : Int32) : entryFrame m #[(.int x0), (.int x1)] 2 = mkF m 0 #[.val (.int x0), .val (.int x1)] [] := by first | (simp [entryFrame, mkF, argsToLocals, Value.category]; done) | rfl
def Fmax (p0 : Int32) (p1 : Int32) : Int32 := let v1 : Int32 := (if p0 < p1 then p1 else p0); v1
def Q17 (Z : State) (p0 : Int32) (p1 : Int32) (h0 : Heap) (n0 : Nat) (v : Option Value) (h : Heap) (L : List Loc) : Prop := v = some (.int (Fmax p0 p1)) ∧ Fr n0 L ∧ h = h0
set_option maxRecDepth 65536 in
set_option maxHeartbeats 40000000 in
theorem rm17 (l : Launch) (Z : State) (aw : Array Value) (hw : ∀ d ∈ tables_1, d.before aw Z = true) (ws : List Jvm.Cond) (p0 : Int32) (p1 : Int32) (h0 : Heap) (n0 : Nat) (Z0 : n0 ≤ h0.size) :
    MetFree l (⟨"java/lang/Math", "max", "(II)I"⟩ : MethodName) (head1 (Jvm.Cond.code (⟨"java/lang/Math", "max", "(II)I"⟩ : MethodName) jdk_29_method_65_code 2 (some .int) :: ws) ({ frames := 0, cells := 0, slots := 0, locals := 0 } : Room)) (fun a U => a = #[(.int p0), (.int p1)] ∧ Z.Warmed39 U.vm ∧ U.heap = h0) (fun _ _ _ _ _ => True) (fun _ U o U' => ∃ v L, o = .returned v ∧ Q17 Z p0 p1 h0 n0 v U'.heap L ∧ FrameEnd U o U' L ({ frames := 0, cells := 0, slots := 0, locals := 0 } : Room).cells ({ frames := 0, cells := 0, slots := 0, locals := 0 } : Room).slots) := by
  refine MetFree.of_bodySF (Jvm.Free.JP.mathPlain rfl (by decide +kernel)) hisR ?_
  intro p e s m args below meth c s₁ Bd hml0 hP hK
  obtain ⟨rfl, hZ, hh⟩ := hP
  have hx := Bd.exec
  have hby := Bd.bytes
  have hml : c.maxLocals = 2 := hml0
  have hown : s.vm.findClass "java/lang/Math" = some m.cls := findClass_of_methodNamed Bd.named
  have hnm := (name_of_methodNamed Bd.named Bd.method).1
  have X0 : Stand p l e ({ frames := 0, cells := 0, slots := 0, locals := 0 } : Room) s m #[(.int p0), (.int p1)] below meth c s₁ [] 0 0 := Stand.of_body Bd
  have e0 : s₁.heap = h0 := by rw [← hh, Bd.state]; rfl
  have N0 := Fr.nil n0
  obtain ⟨A0, hA0⟩ : ∃ A0, A0 = s₁.setTop (entryFrame m #[(.int p0), (.int p1)] 2) := ⟨_, rfl⟩
  have go0 : Go p e below A0 (s₁.setTop (mkF m 0 #[.val (.int p0), .val (.int p1)] [])) := fun t k => by rw [hA0]; exact castTop (ef_17 m p0 p1) k
  have go1 : Go p e below A0 (s₁.setTop (mkF m 2 #[.val (.int p0), .val (.int p1)] [(.int p1), (.int p0)])) := by
    intro t k
    refine go0 t ?_
    refine o_iloadN X0 hx hby d17_0 1 rfl rfl ?_
    refine o_iloadN X0 hx hby d17_1 2 rfl rfl ?_
    exact k
  obtain ⟨v1, hv1, go4⟩ : ∃ (v1 : Int32), v1 = (if p0 < p1 then p1 else p0) ∧ Go p e below A0 (s₁.setTop (mkF m 10 #[.val (.int p0), .val (.int p1)] [(.int v1)])) := by
    by_cases hc2_1 : p0 < p1
    · have go2 : Go p e below A0 (s₁.setTop (mkF m 10 #[.val (.int p0), .val (.int p1)] [(.int p1)])) := by
        intro t k
        refine go1 t ?_
        refine o_icmpY X0 hx hby d17_2 9 rfl (tlt hc2_1).1 ?_
        refine o_iloadN X0 hx hby d17_9 10 rfl rfl ?_
        exact k
      exact ⟨p1, (if_pos hc2_1).symm, go2⟩
    · have go3 : Go p e below A0 (s₁.setTop (mkF m 10 #[.val (.int p0), .val (.int p1)] [(.int p0)])) := by
        intro t k
        refine go1 t ?_
        refine o_icmpN X0 hx hby d17_2 5 rfl (flt hc2_1).1 ?_
        refine o_iloadN X0 hx hby d17_5 6 rfl rfl ?_
        refine o_goto X0 hx hby d17_6 10 rfl ?_
        exact k
      exact ⟨p0, (if_neg hc2_1).symm, go3⟩
  have hF : v1 = Fmax p0 p1 := by simp only [Fmax, hv1]
  rw [hA0] at go4
  obtain ⟨fs, hr, hrun, hended, hW, hsame⟩ := X0.leave (v := some (.int v1)) (fun h => by rw [Bd.returns] at h; cases h)
  refine ⟨_, _, go4 _ (o_retI X0 hx Bd.returns (hb hby d17_10) hr), hrun, hended, _, _, rfl, ?_, ⟨_, rfl⟩, hW, hsame.mono (by decide) (by decide)⟩
  show Q17 Z p0 p1 h0 n0 _ s₁.heap _
  rw [e0]
  exact ⟨by rw [← hF], N0, rfl⟩
theorem d5_0 : decode prog_19_method_4_code 0 = .ok (.iload_n 2, 1) := by decide +kernel
theorem d5_1 : decode prog_19_method_4_code 1 = .ok (.ifCond .lt 32, 3) := by decide +kernel
theorem d5_4 : decode prog_19_method_4_code 4 = .ok (.iload_n 2, 1) := by decide +kernel
theorem d5_5 : decode prog_19_method_4_code 5 = .ok (.getstatic 37, 3) := by decide +kernel
theorem d5_8 : decode prog_19_method_4_code 8 = .ok (.arraylength, 1) := by decide +kernel
theorem d5_9 : decode prog_19_method_4_code 9 = .ok (.if_icmp .ge 24, 3) := by decide +kernel
theorem d5_12 : decode prog_19_method_4_code 12 = .ok (.lload_n 0, 1) := by decide +kernel
theorem d5_13 : decode prog_19_method_4_code 13 = .ok (.getstatic 43, 3) := by decide +kernel
theorem d5_16 : decode prog_19_method_4_code 16 = .ok (.iload_n 2, 1) := by decide +kernel
theorem d5_17 : decode prog_19_method_4_code 17 = .ok (.laload, 1) := by decide +kernel
theorem d5_18 : decode prog_19_method_4_code 18 = .ok (.lcmp, 1) := by decide +kernel
theorem d5_19 : decode prog_19_method_4_code 19 = .ok (.ifCond .gt 14, 3) := by decide +kernel
theorem d5_22 : decode prog_19_method_4_code 22 = .ok (.lload_n 0, 1) := by decide +kernel
theorem d5_23 : decode prog_19_method_4_code 23 = .ok (.getstatic 43, 3) := by decide +kernel
theorem d5_26 : decode prog_19_method_4_code 26 = .ok (.iload_n 2, 1) := by decide +kernel
theorem d5_27 : decode prog_19_method_4_code 27 = .ok (.laload, 1) := by decide +kernel
theorem d5_28 : decode prog_19_method_4_code 28 = .ok (.lneg, 1) := by decide +kernel
theorem d5_29 : decode prog_19_method_4_code 29 = .ok (.lcmp, 1) := by decide +kernel
theorem d5_30 : decode prog_19_method_4_code 30 = .ok (.ifCond .ge 13, 3) := by decide +kernel
theorem d5_33 : decode prog_19_method_4_code 33 = .ok (.new 46, 3) := by decide +kernel
theorem d5_36 : decode prog_19_method_4_code 36 = .ok (.dup, 1) := by decide +kernel
theorem d5_37 : decode prog_19_method_4_code 37 = .ok (.ldc 48, 2) := by decide +kernel
theorem d5_39 : decode prog_19_method_4_code 39 = .ok (.invokespecial 50, 3) := by decide +kernel
theorem d5_42 : decode prog_19_method_4_code 42 = .ok (.athrow, 1) := by decide +kernel
theorem d5_43 : decode prog_19_method_4_code 43 = .ok (.lload_n 0, 1) := by decide +kernel
theorem d5_44 : decode prog_19_method_4_code 44 = .ok (.getstatic 37, 3) := by decide +kernel
theorem d5_47 : decode prog_19_method_4_code 47 = .ok (.iload_n 2, 1) := by decide +kernel
theorem d5_48 : decode prog_19_method_4_code 48 = .ok (.laload, 1) := by decide +kernel
theorem d5_49 : decode prog_19_method_4_code 49 = .ok (.lmul, 1) := by decide +kernel
theorem d5_50 : decode prog_19_method_4_code 50 = .ok (.lreturn, 1) := by decide +kernel
theorem pn_5 : plainName "com/example/amortine/amortine/Decimals" = true := by first | (simp [plainName, overriddenIn]; done) | decide +kernel
theorem ef_5 (m : MethodId) (x0 : Int64) (x1 : Int32) : entryFrame m #[(.long x0), (.int x1)] 3 = mkF m 0 #[.val (.long x0), .second, .val (.int x1)] [] := by first | (simp [entryFrame, mkF, argsToLocals, Value.category]; done) | rfl
def Fttt (q0 : Int64) (p1 : Int32) : Int64 := (q0 * (own_ten p1))
def Q5 (Z : State) (q0 : Int64) (p1 : Int32) (lt : Addr) (lf : Addr) (kt : ClassId) (kf : ClassId) (tL : List Value) (fL : List Value) (h0 : Heap) (n0 : Nat) (v : Option Value) (h : Heap) (L : List Loc) : Prop := v = some (.long (Fttt q0 p1)) ∧ Fr n0 L ∧ h = h0
set_option maxRecDepth 65536 in
set_option maxHeartbeats 40000000 in
theorem rm5 (l : Launch) (Z : State) (aw : Array Value) (hw : ∀ d ∈ tables_1, d.before aw Z = true) (ws : List Jvm.Cond) (q0 : Int64) (p1 : Int32) (lt : Addr) (lf : Addr) (kt : ClassId) (kf : ClassId) (tL : List Value) (fL : List Value) (h0 : Heap) (n0 : Nat) (Z0 : n0 ≤ h0.size) (r0 : Sta Z Z.heap "com/example/amortine/amortine/Decimals" "LONG_TENS" "[J" (.ref lt)) (r1 : Sta Z Z.heap "com/example/amortine/amortine/Decimals" "LONG_FACTORS" "[J" (.ref lf)) (r2 : Old Z n0 h0) (r3 : Arv Z h0 lt kt .long (19 : Int32) tL (.long (0 : Int64))) (r4 : Arv Z h0 lf kf .long (19 : Int32) fL (.long (0 : Int64))) (hT : (own_T tL)) (hF : (own_F fL)) (pa2 : (¬ p1 < 0 ∧ p1 < 3)) (hq : (0 < q0.toInt ∧ q0.toInt ≤ 1200)) :
    MetFree l (⟨"com/example/amortine/amortine/Decimals", "timesTenTo", "(JI)J"⟩ : MethodName) (head1 (Jvm.Cond.code (⟨"com/example/amortine/amortine/Decimals", "timesTenTo", "(JI)J"⟩ : MethodName) prog_19_method_4_code 3 (some .long) :: ws) ({ frames := 0, cells := 0, slots := 0, locals := 0 } : Room)) (fun a U => a = #[(.long q0), (.int p1)] ∧ Z.Warmed39 U.vm ∧ U.heap = h0) (fun _ _ _ _ _ => True) (fun _ U o U' => ∃ v L, o = .returned v ∧ Q5 Z q0 p1 lt lf kt kf tL fL h0 n0 v U'.heap L ∧ FrameEnd U o U' L ({ frames := 0, cells := 0, slots := 0, locals := 0 } : Room).cells ({ frames := 0, cells := 0, slots := 0, locals := 0 } : Room).slots) := by
  refine MetFree.of_bodySF (plainFor_of_name pn_5) hisR ?_
  intro p e s m args below meth c s₁ Bd hml0 hP hK
  obtain ⟨rfl, hZ, hh⟩ := hP
  have hx := Bd.exec
  have hby := Bd.bytes
  have hml : c.maxLocals = 3 := hml0
  have hown : s.vm.findClass "com/example/amortine/amortine/Decimals" = some m.cls := findClass_of_methodNamed Bd.named
  have hnm := (name_of_methodNamed Bd.named Bd.method).1
  have X0 : Stand p l e ({ frames := 0, cells := 0, slots := 0, locals := 0 } : Room) s m #[(.long q0), (.int p1)] below meth c s₁ [] 0 0 := Stand.of_body Bd
  have e0 : s₁.heap = h0 := by rw [← hh, Bd.state]; rfl
  have N0 := Fr.nil n0
  obtain ⟨A0, hA0⟩ : ∃ A0, A0 = s₁.setTop (entryFrame m #[(.long q0), (.int p1)] 3) := ⟨_, rfl⟩
  have go0 : Go p e below A0 (s₁.setTop (mkF m 0 #[.val (.long q0), .second, .val (.int p1)] [])) := fun t k => by rw [hA0]; exact castTop (ef_5 m q0 p1) k
  obtain ⟨T1, X1, e1, st1⟩ := getS2 X0 hx hZ hown (host := "") (Or.inl (hw _ (List.mem_of_getElem? (i := 32) rfl))) Via.refl e0 (r0.ext r2.2) (g := (mkF m 5 #[.val (.long q0), .second, .val (.int p1)] [(.int p1)])) rfl (hb hby d5_5)
  obtain ⟨cl2, Ar2, q2, S2, M2, H2, G2⟩ := id r3
  obtain ⟨T3, X3, e3, st3⟩ := getS2 X1 hx hZ hown (host := "") (Or.inl (hw _ (List.mem_of_getElem? (i := 34) rfl))) Via.refl e1 (r1.ext r2.2) (g := (mkF m 13 #[.val (.long q0), .second, .val (.int p1)] [(.long q0)])) rfl (hb hby d5_13)
  obtain ⟨cl4, Ar4, q4, S4, M4, H4, G4⟩ := id r4
  have hin4 : ¬ (p1 < 0 ∨ cl4.slots.size ≤ (p1).toNatClampNeg) := inb_of S4 (own_19 pa2)
  have hat4 : cl4.slots[(p1).toNatClampNeg]? = some (.long (own_fac p1)) := H4.at hin4 (hF _ pa2)
  obtain ⟨T5, X5, e5, st5⟩ := getS2 X3 hx hZ hown (host := "") (Or.inl (hw _ (List.mem_of_getElem? (i := 34) rfl))) Via.refl e3 (r1.ext r2.2) (g := (mkF m 23 #[.val (.long q0), .second, .val (.int p1)] [(.long q0)])) rfl (hb hby d5_23)
  obtain ⟨cl6, Ar6, q6, S6, M6, H6, G6⟩ := id r4
  have hin6 : ¬ (p1 < 0 ∨ cl6.slots.size ≤ (p1).toNatClampNeg) := inb_of S6 (own_19 pa2)
  have hat6 : cl6.slots[(p1).toNatClampNeg]? = some (.long (own_fac p1)) := H6.at hin6 (hF _ pa2)
  obtain ⟨T7, X7, e7, st7⟩ := getS2 X5 hx hZ hown (host := "") (Or.inl (hw _ (List.mem_of_getElem? (i := 32) rfl))) Via.refl e5 (r0.ext r2.2) (g := (mkF m 44 #[.val (.long q0), .second, .val (.int p1)] [(.long q0)])) rfl (hb hby d5_44)
  obtain ⟨cl8, Ar8, q8, S8, M8, H8, G8⟩ := id r3
  have hin8 : ¬ (p1 < 0 ∨ cl8.slots.size ≤ (p1).toNatClampNeg) := inb_of S8 (own_19 pa2)
  have hat8 : cl8.slots[(p1).toNatClampNeg]? = some (.long (own_ten p1)) := H8.at hin8 (hT _ pa2)
  have go1 : Go p e below A0 (T7.setTop (mkF m 50 #[.val (.long q0), .second, .val (.int p1)] [(.long (q0 * (own_ten p1)))])) := by
    intro t k
    refine go0 t ?_
    refine o_iloadN X0 hx hby d5_0 1 rfl rfl ?_
    refine o_ifN X0 hx hby d5_1 4 rfl (flt (pa2.1)).1 ?_
    refine o_iloadN X0 hx hby d5_4 5 rfl rfl ?_
    refine st1 _ ?_
    show Steps p.tables e below (T1.setTop (mkF m 8 #[.val (.long q0), .second, .val (.int p1)] [(.ref lt), (.int p1)])) _
    refine X1.arraylength hx (by rw [e1]; exact Ar2.1) (State.isArrayOf_alike hZ.alike Ar2.2.1) (g := (mkF m 8 #[.val (.long q0), .second, .val (.int p1)] [(.ref lt), (.int p1)])) rfl rfl (hb hby d5_8) _ ?_
    rw [len_of S2 M2]
    show Steps p.tables e below (T1.setTop (mkF m 9 #[.val (.long q0), .second, .val (.int p1)] [(.int (19 : Int32)), (.int p1)])) _
    refine o_icmpN X1 hx hby d5_9 12 rfl (tlt ((own_19 pa2).2)).2.1 ?_
    refine o_lloadN X1 hx hby d5_12 13 rfl rfl ?_
    refine st3 _ ?_
    show Steps p.tables e below (T3.setTop (mkF m 16 #[.val (.long q0), .second, .val (.int p1)] [(.ref lf), (.long q0)])) _
    refine o_iloadN X3 hx hby d5_16 17 rfl rfl ?_
    refine X3.laload hx (j := p1) (v := (.long (own_fac p1))) (by rw [e3]; exact Ar4.1) (State.isArrayOf_alike hZ.alike Ar4.2.1) Ar4.2.2 hin4 hat4 (g := (mkF m 17 #[.val (.long q0), .second, .val (.int p1)] [(.int p1), (.ref lf), (.long q0)])) rfl rfl (hb hby d5_17) _ ?_
    show Steps p.tables e below (T3.setTop (mkF m 18 #[.val (.long q0), .second, .val (.int p1)] [(.long (own_fac p1)), (.long q0)])) _
    refine o_lcmp X3 hx hby d5_18 19 rfl ?_
    refine o_ifN X3 hx hby d5_19 22 rfl (flt (fun q => (own_fa pa2 hq) ((lw_gt q0 (own_fac p1)).mp q))).2.2.1 ?_
    refine o_lloadN X3 hx hby d5_22 23 rfl rfl ?_
    refine st5 _ ?_
    show Steps p.tables e below (T5.setTop (mkF m 26 #[.val (.long q0), .second, .val (.int p1)] [(.ref lf), (.long q0)])) _
    refine o_iloadN X5 hx hby d5_26 27 rfl rfl ?_
    refine X5.laload hx (j := p1) (v := (.long (own_fac p1))) (by rw [e5]; exact Ar6.1) (State.isArrayOf_alike hZ.alike Ar6.2.1) Ar6.2.2 hin6 hat6 (g := (mkF m 27 #[.val (.long q0), .second, .val (.int p1)] [(.int p1), (.ref lf), (.long q0)])) rfl rfl (hb hby d5_27) _ ?_
    show Steps p.tables e below (T5.setTop (mkF m 28 #[.val (.long q0), .second, .val (.int p1)] [(.long (own_fac p1)), (.long q0)])) _
    refine o_lneg X5 hx hby d5_28 29 rfl ?_
    refine o_lcmp X5 hx hby d5_29 30 rfl ?_
    refine o_ifY X5 hx hby d5_30 43 rfl (flt (fun q => (own_fb pa2 hq) ((lw_lt q0 (-(own_fac p1))).mp q))).2.1 ?_
    refine o_lloadN X5 hx hby d5_43 44 rfl rfl ?_
    refine st7 _ ?_
    show Steps p.tables e below (T7.setTop (mkF m 47 #[.val (.long q0), .second, .val (.int p1)] [(.ref lt), (.long q0)])) _
    refine o_iloadN X7 hx hby d5_47 48 rfl rfl ?_
    refine X7.laload hx (j := p1) (v := (.long (own_ten p1))) (by rw [e7]; exact Ar8.1) (State.isArrayOf_alike hZ.alike Ar8.2.1) Ar8.2.2 hin8 hat8 (g := (mkF m 48 #[.val (.long q0), .second, .val (.int p1)] [(.int p1), (.ref lt), (.long q0)])) rfl rfl (hb hby d5_48) _ ?_
    show Steps p.tables e below (T7.setTop (mkF m 49 #[.val (.long q0), .second, .val (.int p1)] [(.long (own_ten p1)), (.long q0)])) _
    refine o_lmul X7 hx hby d5_49 50 rfl ?_
    exact k
  have hF : (q0 * (own_ten p1)) = (Fttt q0 p1) := by simp only [Fttt]
  rw [hA0] at go1
  obtain ⟨fs, hr, hrun, hended, hW, hsame⟩ := X7.leave (v := some (.long (q0 * (own_ten p1)))) (fun h => by rw [Bd.returns] at h; cases h)
  refine ⟨_, _, go1 _ (o_retJ X7 hx Bd.returns (hb hby d5_50) hr), hrun, hended, _, _, rfl, ?_, ⟨_, rfl⟩, hW, hsame.mono (by decide) (by decide)⟩
  show Q5 Z q0 p1 lt lf kt kf tL fL h0 n0 _ T7.heap _
  rw [e7]
  exact ⟨by rw [← hF], N0, rfl⟩
theorem own_td {q0 q1 v1 : Int64} {p : Int32} (h2 : ¬ p < 0 ∧ p < 3) (hq : 0 < q0.toInt ∧ q0.toInt ≤ 1200) (hd : 0 < q1.toInt ∧ q1.toInt ≤ 4096) (hv1 : v1 = Fttt q0 p) : ¬ ((v1 + q1) < (0 : Int64)) := by
  have k : 0 < v1.toInt ∧ v1.toInt ≤ 120000 := by rw [hv1]; exact own_tr h2 hq
  have c := c_ladd v1 q1; have r := rng64 (v1 + q1)
  exact own_nn1 (by omega)
theorem d4_0 : decode prog_60_method_17_code 0 = .ok (.lload_n 0, 1) := by decide +kernel
theorem d4_1 : decode prog_60_method_17_code 1 = .ok (.iload 4, 2) := by decide +kernel
theorem d4_3 : decode prog_60_method_17_code 3 = .ok (.invokestatic 146, 3) := by decide +kernel
theorem d4_6 : decode prog_60_method_17_code 6 = .ok (.lstore 5, 2) := by decide +kernel
theorem d4_8 : decode prog_60_method_17_code 8 = .ok (.goto 10, 3) := by decide +kernel
theorem d4_11 : decode prog_60_method_17_code 11 = .ok (.astore 7, 2) := by decide +kernel
theorem d4_13 : decode prog_60_method_17_code 13 = .ok (.ldc2_w 150, 3) := by decide +kernel
theorem d4_16 : decode prog_60_method_17_code 16 = .ok (.lstore 5, 2) := by decide +kernel
theorem d4_18 : decode prog_60_method_17_code 18 = .ok (.lload 5, 2) := by decide +kernel
theorem d4_20 : decode prog_60_method_17_code 20 = .ok (.lload_n 2, 1) := by decide +kernel
theorem d4_21 : decode prog_60_method_17_code 21 = .ok (.ladd, 1) := by decide +kernel
theorem d4_22 : decode prog_60_method_17_code 22 = .ok (.lconst 0, 1) := by decide +kernel
theorem d4_23 : decode prog_60_method_17_code 23 = .ok (.lcmp, 1) := by decide +kernel
theorem d4_24 : decode prog_60_method_17_code 24 = .ok (.ifCond .ge 9, 3) := by decide +kernel
theorem d4_27 : decode prog_60_method_17_code 27 = .ok (.ldc2_w 150, 3) := by decide +kernel
theorem d4_30 : decode prog_60_method_17_code 30 = .ok (.goto 5, 3) := by decide +kernel
theorem d4_33 : decode prog_60_method_17_code 33 = .ok (.lload 5, 2) := by decide +kernel
theorem d4_35 : decode prog_60_method_17_code 35 = .ok (.lreturn, 1) := by decide +kernel
theorem pd_4 : parseMethodDescriptor "(JI)J" = some ⟨[.long, .int], some .long⟩ := by decide +kernel
theorem ef_4 (m : MethodId) (x0 : Int64) (x1 : Int64) (x2 : Int32) : entryFrame m #[(.long x0), (.long x1), (.int x2)] 8 = mkF m 0 #[.val (.long x0), .second, .val (.long x1), .second, .val (.int x2), .unset, .unset, .unset] [] := by first | (simp [entryFrame, mkF, argsToLocals, Value.category]; done) | rfl
def Ftd (q0 : Int64) (q1 : Int64) (p2 : Int32) : Int64 := let v1 : Int64 := (Fttt q0 p2); v1
set_option maxRecDepth 65536 in
set_option maxHeartbeats 4000000 in
theorem pf4_c24_0 (q0 : Int64) (q1 : Int64) (p2 : Int32) (lt : Addr) (lf : Addr) (kt : ClassId) (kf : ClassId) (tL : List Value) (fL : List Value) (pa2 : ¬ p2 < 0 ∧ p2 < 3) (hq : 0 < q0.toInt ∧ q0.toInt ≤ 1200) (hd : 0 < q1.toInt ∧ q1.toInt ≤ 4096) (v1 : Int64) (hv1 : v1 = (Fttt q0 p2)) : ¬ ((v1 + q1) < (0 : Int64)) := by
  exact own_td pa2 hq hd hv1
def Q4 (Z : State) (q0 : Int64) (q1 : Int64) (p2 : Int32) (lt : Addr) (lf : Addr) (kt : ClassId) (kf : ClassId) (tL : List Value) (fL : List Value) (h0 : Heap) (n0 : Nat) (v : Option Value) (h : Heap) (L : List Loc) : Prop := v = some (.long (Ftd q0 q1 p2)) ∧ Fr n0 L ∧ h = h0
set_option maxRecDepth 65536 in
set_option maxHeartbeats 40000000 in
theorem rm4 (l : Launch) (Z : State) (aw : Array Value) (hw : ∀ d ∈ tables_1, d.before aw Z = true) (ws : List Jvm.Cond) (q0 : Int64) (q1 : Int64) (p2 : Int32) (lt : Addr) (lf : Addr) (kt : ClassId) (kf : ClassId) (tL : List Value) (fL : List Value) (h0 : Heap) (n0 : Nat) (Z0 : n0 ≤ h0.size) (r0 : Sta Z Z.heap "com/example/amortine/amortine/Decimals" "LONG_TENS" "[J" (.ref lt)) (r1 : Sta Z Z.heap "com/example/amortine/amortine/Decimals" "LONG_FACTORS" "[J" (.ref lf)) (r2 : Old Z n0 h0) (r3 : Arv Z h0 lt kt .long (19 : Int32) tL (.long (0 : Int64))) (r4 : Arv Z h0 lf kf .long (19 : Int32) fL (.long (0 : Int64))) (hT : (own_T tL)) (hF : (own_F fL)) (pa2 : (¬ p2 < 0 ∧ p2 < 3)) (hq : (0 < q0.toInt ∧ q0.toInt ≤ 1200)) (hd : (0 < q1.toInt ∧ q1.toInt ≤ 4096)) :
    MetFree l (⟨"com/example/amortine/amortine/PeriodRate", "termsDivisor", "(JJI)J"⟩ : MethodName) (head1 (Jvm.Cond.codeWith (⟨"com/example/amortine/amortine/PeriodRate", "termsDivisor", "(JJI)J"⟩ : MethodName) prog_60_method_17_code 8 (Option.some Jvm.ClassFile.FieldType.long) [((0 : Nat), (8 : Nat), (11 : Nat), (107 : Nat))] :: ws) ({ frames := 1, cells := 0, slots := 0, locals := 14 } : Room)) (fun a U => a = #[(.long q0), (.long q1), (.int p2)] ∧ Z.Warmed39 U.vm ∧ U.heap = h0) (fun _ _ _ _ _ => True) (fun _ U o U' => ∃ v L, o = .returned v ∧ Q4 Z q0 q1 p2 lt lf kt kf tL fL h0 n0 v U'.heap L ∧ FrameEnd U o U' L ({ frames := 1, cells := 0, slots := 0, locals := 14 } : Room).cells ({ frames := 1, cells := 0, slots := 0, locals := 14 } : Room).slots) := by
  refine MetFree.of_bodySF (plainFor_of_name pn_3) hisWith ?_
  intro p e s m args below meth c s₁ Bd hml0 hP hK
  obtain ⟨rfl, hZ, hh⟩ := hP
  have hx := Bd.exec
  have hby := Bd.bytes
  have hml : c.maxLocals = 8 := hml0
  have hown : s.vm.findClass "com/example/amortine/amortine/PeriodRate" = some m.cls := findClass_of_methodNamed Bd.named
  have hnm := (name_of_methodNamed Bd.named Bd.method).1
  have X0 : Stand p l e ({ frames := 1, cells := 0, slots := 0, locals := 14 } : Room) s m #[(.long q0), (.long q1), (.int p2)] below meth c s₁ [] 0 0 := Stand.of_body Bd
  have e0 : s₁.heap = h0 := by rw [← hh, Bd.state]; rfl
  have N0 := Fr.nil n0
  obtain ⟨A0, hA0⟩ : ∃ A0, A0 = s₁.setTop (entryFrame m #[(.long q0), (.long q1), (.int p2)] 8) := ⟨_, rfl⟩
  have go0 : Go p e below A0 (s₁.setTop (mkF m 0 #[.val (.long q0), .second, .val (.long q1), .second, .val (.int p2), .unset, .unset, .unset] [])) := fun t k => by rw [hA0]; exact castTop (ef_4 m q0 q1 p2) k
  have go1 : Go p e below A0 (s₁.setTop (mkF m 3 #[.val (.long q0), .second, .val (.long q1), .second, .val (.int p2), .unset, .unset, .unset] [(.int p2), (.long q0)])) := by
    intro t k
    refine go0 t ?_
    refine o_lloadN X0 hx hby d4_0 1 rfl rfl ?_
    refine o_iload X0 hx hby d4_1 3 rfl rfl ?_
    exact k
  obtain ⟨_, _, ⟨T1, L1, k1, n1⟩, -, X1, ⟨Lc1, hQ1, l1, y1, z1⟩, st1⟩ := Jvm.LawKit.callS X0 hx (y := (⟨"com/example/amortine/amortine/Decimals", "timesTenTo", "(JI)J"⟩ : MethodName)) hown (mvT hZ (hw _ (List.mem_of_getElem? (i := 28) rfl))) (mvT hZ (hw _ (List.mem_of_getElem? (i := 29) rfl))) (mvT hZ (hw _ (List.mem_of_getElem? (i := 30) rfl))) (mvT hZ (hw _ (List.mem_of_getElem? (i := 31) rfl))) (by decide) (backOf (W := 0) (rm5 l Z aw hw [] q0 p2 lt lf kt kf tL fL h0 n0 Z0 (r0) (r1) (r2) (r3) (r4) (hT) (hF) (pa2) (hq)) hZ (hw _ (List.mem_of_getElem? (i := 31) rfl)) (hw _ (List.mem_of_getElem? (i := 30) rfl)) (by decide) (by decide)) (g := (mkF m 3 #[.val (.long q0), .second, .val (.long q1), .second, .val (.int p2), .unset, .unset, .unset] [(.int p2), (.long q0)])) rfl (by rw [hml]; rfl) (argsL := [(.long q0), (.int p2)]) (rest := []) (lenOf pd_4 rfl) rfl (by show 2 * 0 + _ ≤ _; exact Nat.le_of_eq rfl) (hb hby d4_3) (fun _ _ => ⟨rfl, e0, (by decide : 0 + 0 ≤ _), (by decide : 0 + 0 ≤ _)⟩)
  dsimp only [Pt.U, Pt.locs, Pt.cells, Pt.slots] at X1 l1 y1 z1 st1 hQ1
  obtain rfl : k1 = 0 := y1
  obtain rfl : n1 = 0 := z1
  obtain ⟨rfl, N1q, e1⟩ := hQ1
  have N1 : Fr n0 L1 := by rw [l1]; exact Fr.app N0 N1q
  have go2 : Go p e below A0 (T1.setTop (mkF m 6 #[.val (.long q0), .second, .val (.long q1), .second, .val (.int p2), .unset, .unset, .unset] [(.long (Fttt q0 p2))])) := by
    intro t k
    refine go1 t ?_
    refine st1 _ ?_
    show Steps p.tables e below (T1.setTop (mkF m 6 #[.val (.long q0), .second, .val (.long q1), .second, .val (.int p2), .unset, .unset, .unset] [(.long (Fttt q0 p2))])) _
    exact k
  obtain ⟨v1, hv1, go3⟩ : ∃ v1 : Int64, v1 = (Fttt q0 p2) ∧ Go p e below A0 (T1.setTop (mkF m 6 #[.val (.long q0), .second, .val (.long q1), .second, .val (.int p2), .unset, .unset, .unset] [(.long v1)])) := ⟨_, rfl, go2⟩
  have go4 : Go p e below A0 (T1.setTop (mkF m 8 #[.val (.long q0), .second, .val (.long q1), .second, .val (.int p2), .val (.long v1), .second, .unset] [])) := by
    intro t k
    refine go3 t ?_
    refine o_lstore X1 hx hby d4_6 8 rfl (l' := #[.val (.long q0), .second, .val (.long q1), .second, .val (.int p2), .val (.long v1), .second, .unset]) rfl ?_
    exact k
  have go5 : Go p e below A0 (T1.setTop (mkF m 24 #[.val (.long q0), .second, .val (.long q1), .second, .val (.int p2), .val (.long v1), .second, .unset] [(.int (lcmpW (v1 + q1) (0 : Int64)))])) := by
    intro t k
    refine go4 t ?_
    refine o_goto X1 hx hby d4_8 18 rfl ?_
    refine o_lload X1 hx hby d4_18 20 rfl rfl ?_
    refine o_lloadN X1 hx hby d4_20 21 rfl rfl ?_
    refine o_ladd X1 hx hby d4_21 22 rfl ?_
    refine o_lconst X1 hx hby d4_22 23 rfl (v := (0 : Int64)) rfl ?_
    refine o_lcmp X1 hx hby d4_23 24 rfl ?_
    exact k
  have f_c24_1 : ¬ ((v1 + q1) < (0 : Int64)) := pf4_c24_0 q0 q1 p2 lt lf kt kf tL fL pa2 hq hd v1 hv1
  have go6 : Go p e below A0 (T1.setTop (mkF m 35 #[.val (.long q0), .second, .val (.long q1), .second, .val (.int p2), .val (.long v1), .second, .unset] [(.long v1)])) := by
    intro t k
    refine go5 t ?_
    refine o_ifY X1 hx hby d4_24 33 rfl (flt (fun q => (f_c24_1) ((lw_lt (v1 + q1) (0 : Int64)).mp q))).2.1 ?_
    refine o_lload X1 hx hby d4_33 35 rfl rfl ?_
    exact k
  have hF : v1 = (Ftd q0 q1 p2) := by simp only [Ftd, hv1]
  rw [hA0] at go6
  obtain ⟨fs, hr, hrun, hended, hW, hsame⟩ := X1.leave (v := some (.long v1)) (fun h => by rw [Bd.returns] at h; cases h)
  refine ⟨_, _, go6 _ (o_retJ X1 hx Bd.returns (hb hby d4_35) hr), hrun, hended, _, _, rfl, ?_, ⟨_, rfl⟩, hW, hsame.mono (by decide) (by decide)⟩
  show Q4 Z q0 q1 p2 lt lf kt kf tL fL h0 n0 _ T1.heap _
  rw [e1]
  exact ⟨by rw [← hF], N1, rfl⟩
def own_u (x : Int64) : Nat := x.toBitVec.toNat
theorem u_lt (x : Int64) : own_u x < 18446744073709551616 := x.toBitVec.isLt
theorem u_inj {x y : Int64} (h : own_u x = own_u y) : x = y := Int64.toBitVec_inj.mp (BitVec.eq_of_toNat_eq h)
theorem u_add (x y : Int64) : own_u (x + y) = (own_u x + own_u y) % 18446744073709551616 := BitVec.toNat_add _ _
theorem u_sub (x y : Int64) : own_u (x - y) = (18446744073709551616 - own_u y + own_u x) % 18446744073709551616 := BitVec.toNat_sub _ _
theorem u_mul (x y : Int64) : own_u (x * y) = (own_u x * own_u y) % 18446744073709551616 := BitVec.toNat_mul _ _
theorem u_half (x : Int64) : own_u (x &&& (4294967295 : Int64)) = own_u x % 4294967296 := by
  show (x.toBitVec &&& (4294967295 : Int64).toBitVec).toNat = _
  rw [BitVec.toNat_and, show (4294967295 : Int64).toBitVec.toNat = 2 ^ 32 - 1 from by decide, Nat.and_two_pow_sub_one_eq_mod]; rfl
theorem u_63 (x : Int64) : own_u (x &&& (9223372036854775807 : Int64)) = own_u x % 9223372036854775808 := by
  show (x.toBitVec &&& (9223372036854775807 : Int64).toBitVec).toNat = _
  rw [BitVec.toNat_and, show (9223372036854775807 : Int64).toBitVec.toNat = 2 ^ 63 - 1 from by decide, Nat.and_two_pow_sub_one_eq_mod]; rfl
theorem u_shl (x : Int64) (q : Int32) (k : Nat) (hk : q.toBitVec.toNat % 64 = k) : own_u (x <<< (q &&& 0x3f).toInt64) = own_u x * 2 ^ k % 18446744073709551616 := by
  show (x.toBitVec <<< ((q &&& 0x3f).toInt64.toBitVec.smod 64)).toNat = _
  rw [BitVec.shiftLeft_eq', (sm64 q k hk).1, smod64 k (sm64 q k hk).2, BitVec.toNat_shiftLeft, Nat.shiftLeft_eq]; rfl
theorem u_shr (x : Int64) (q : Int32) (k : Nat) (hk : q.toBitVec.toNat % 64 = k) : own_u ((x.toUInt64 >>> (q &&& 0x3f).toInt64.toUInt64).toInt64) = own_u x / 2 ^ k := by
  have h5 := (sm64 q k hk).2
  show (x.toBitVec >>> ((q &&& 0x3f).toInt64.toBitVec % 64)).toNat = x.toBitVec.toNat / 2 ^ k
  rw [BitVec.ushiftRight_eq', BitVec.toNat_ushiftRight, Nat.shiftRight_eq_div_pow, BitVec.toNat_umod, (sm64 q k hk).1, BitVec.toNat_ofNat]; congr 2; show k % 2 ^ 64 % 64 = k; omega
theorem n_or (a b k : Nat) (ha : a % 2 ^ k = 0) (hb : b < 2 ^ k) : a ||| b = a + b := by
  have : a = 2 ^ k * (a / 2 ^ k) := (Nat.mul_div_cancel' (Nat.dvd_of_mod_eq_zero ha)).symm
  rw [this, ← Nat.two_pow_add_eq_or_of_lt hb]
theorem u_or (x y : Int64) (k : Nat) (ha : own_u x % 2 ^ k = 0) (hb : own_u y < 2 ^ k) : own_u (x ||| y) = own_u x + own_u y := by
  show (x.toBitVec ||| y.toBitVec).toNat = _
  rw [BitVec.toNat_or]; exact n_or _ _ k ha hb
theorem u_int (x : Int64) : x.toInt = if own_u x < 9223372036854775808 then (own_u x : Int) else (own_u x : Int) - 18446744073709551616 := by
  show x.toBitVec.toInt = _
  rw [BitVec.toInt_eq_toNat_cond]; unfold own_u; have := x.toBitVec.isLt
  split <;> split <;> omega
theorem u_ltu (x y : Int64) : (x + (-9223372036854775808 : Int64)) < (y + (-9223372036854775808 : Int64)) ↔ own_u x < own_u y := by
  have h : own_u (-9223372036854775808 : Int64) = 9223372036854775808 := by decide
  have hx := u_lt x; have hy := u_lt y
  rw [Int64.lt_iff_toInt_lt, u_int (x + _), u_int (y + _), u_add, u_add, h]
  split <;> split <;> omega
theorem u_lts {x y : Int64} (hx : own_u x < 9223372036854775808) (hy : own_u y < 9223372036854775808) : x < y ↔ own_u x < own_u y := by
  rw [Int64.lt_iff_toInt_lt, u_int x, u_int y, if_pos hx, if_pos hy]; omega
theorem u_div {x y : Int64} (hx : own_u x < 9223372036854775808) (hy : own_u y < 9223372036854775808) (h0 : 0 < own_u y) : own_u (x / y) = own_u x / own_u y := by
  have e : (x / y).toInt = ((own_u x / own_u y : Nat) : Int) := by
    rw [Int64.toInt_div_of_ne_right x y (fun q => by rw [q] at hy; revert hy; decide), u_int x, u_int y, if_pos hx, if_pos hy, Int.tdiv_eq_ediv_of_nonneg (by omega), Int.natCast_ediv]
  have b : own_u x / own_u y ≤ own_u x := Nat.div_le_self _ _
  rw [u_int (x / y)] at e
  have := u_lt (x / y)
  generalize own_u x / own_u y = Q at *
  split at e <;> omega
theorem u_mod {x y : Int64} (hx : own_u x < 9223372036854775808) (hy : own_u y < 9223372036854775808) : own_u (x % y) = own_u x % own_u y := by
  have e : (x % y).toInt = ((own_u x % own_u y : Nat) : Int) := by
    rw [Int64.toInt_mod, u_int x, u_int y, if_pos hx, if_pos hy, Int.tmod_eq_emod_of_nonneg (by omega), Int.natCast_emod]
  have b : own_u x % own_u y ≤ own_u x := Nat.mod_le _ _
  rw [u_int (x % y)] at e
  have := u_lt (x % y)
  generalize own_u x % own_u y = Q at *
  split at e <;> omega
-- one digit of the quotient, in naturals: u the rest so far, below n = dh * 2^32 + dl; l the next half word
theorem u_sub' {x y : Int64} (h : own_u y ≤ own_u x) : own_u (x - y) = own_u x - own_u y := by
  have := u_lt x; have := u_lt y; rw [u_sub]; omega
theorem u_add' {x y : Int64} (h : own_u x + own_u y < 18446744073709551616) : own_u (x + y) = own_u x + own_u y := by rw [u_add]; omega
theorem u_mul' {x y : Int64} (h : own_u x * own_u y < 18446744073709551616) : own_u (x * y) = own_u x * own_u y := by rw [u_mul, Nat.mod_eq_of_lt h]
theorem own_wd {p : Int32} {v : Int64} (hp : 0 < p.toInt ∧ p.toInt ≤ 12) (hv : v = Fwd p) : 0 < v.toInt ∧ v.toInt ≤ 1200 := by
  have k := c_lmul (100 : Int64) p.toInt64; have r := rng64 v
  rw [show (100 : Int64) * p.toInt64 = v from hv.symm, c_i2l, show (100 : Int64).toInt = 100 from by decide] at k; have z := own_eq64 k r (by omega); omega
theorem own_dv {p2 p3 : Int32} {q1 v1 v2 : Int64} (h2 : ¬ p2 < 0 ∧ p2 < 3) (hp : 0 < p3.toInt ∧ p3.toInt ≤ 12) (hv1 : v1 = Fwd p3) (hv2 : v2 = Ftd v1 q1 p2) : 0 < v2.toInt ∧ v2.toInt ≤ 120000 := by
  rw [hv2]; exact own_tr h2 (own_wd hp hv1)
theorem own_dv0 {p2 p3 : Int32} {q1 v1 v2 : Int64} (h2 : ¬ p2 < 0 ∧ p2 < 3) (hp : 0 < p3.toInt ∧ p3.toInt ≤ 12) (hv1 : v1 = Fwd p3) (hv2 : v2 = Ftd v1 q1 p2) : ¬ (v2 < (0 : Int64)) := own_nn1 (own_dv h2 hp hv1 hv2).1
theorem own_sig {x : Int64} (h : 0 < x.toInt) : Fsig x = 1 := by
  have e1 : (x >>> ((63 : Int32) &&& 0x3f).toInt64) = 0 := by
    apply Int64.toInt_inj.mp; rw [c_lshr x 63 63 (by decide)]; have r := rng64 x; simp only [Int64.reduceToInt]; omega
  have e2 : ((-x).toUInt64 >>> ((63 : Int32) &&& 0x3f).toInt64.toUInt64).toInt64 = 1 := by
    apply Int64.toInt_inj.mp; rw [c_lushr (-x) 63 63 (by decide) (by decide)]; have c := c_lneg x; have r := rng64 x; have r2 := rng64 (-x); simp only [Int64.reduceToInt]; omega
  unfold Fsig; rw [e1, e2]; decide
theorem own_c90 {a b q r v1 v3 v4 : Int64} {v2 v5 v6 : Int32} (hA : 120000 ≤ a.toInt ∧ a.toInt < 137438953472) (hB : 0 ≤ b.toInt ∧ b.toInt < a.toInt) (hP : 1 ≤ a.toInt - q.toInt - b.toInt ∧ a.toInt - q.toInt - b.toInt ≤ 4294967296) (hr : 1 ≤ r.toInt ∧ r.toInt ≤ 1125899906842624)
    (hv1 : v1 = (a - b)) (hv2 : v2 = Fsig v1) (hv3 : v3 = (a - (q - r))) (hv4 : v4 = (v3 - b)) (hv5 : v5 = Fsig v4) (hv6 : v6 = Fre v2 v5) : v6 = (0 : Int32) := by
  have p1 : 0 < v1.toInt := by have c := c_lsub a b; have s := rng64 v1; rw [← hv1] at c; omega
  have p4 : 0 < v4.toInt := by
    have c := c_lsub q r; have s := rng64 (q - r); have c2 := c_lsub a (q - r); have s2 := rng64 v3; rw [← hv3] at c2; have c3 := c_lsub v3 b; have s3 := rng64 v4; rw [← hv4] at c3; omega
  rw [hv6, hv2, hv5, own_sig p1, own_sig p4]; decide
/-- the parts of a product -/
theorem own_parts (X1 X0 Y1 Y0 : Int) : (X1 * 4294967296 + X0) * (Y1 * 4294967296 + Y0) = X1 * Y1 * 18446744073709551616 + (X1 * Y0 + X0 * Y1) * 4294967296 + X0 * Y0 := by
  rw [Int.add_mul, Int.mul_add, Int.mul_add]
  have e1 : X1 * 4294967296 * (Y1 * 4294967296) = X1 * Y1 * 18446744073709551616 := by
    rw [Int.mul_assoc, Int.mul_left_comm 4294967296 Y1 4294967296, ← Int.mul_assoc]; rfl
  have e2 : X1 * 4294967296 * Y0 = X1 * Y0 * 4294967296 := by rw [Int.mul_assoc, Int.mul_comm 4294967296 Y0, ← Int.mul_assoc]
  have e3 : X0 * (Y1 * 4294967296) = X0 * Y1 * 4294967296 := by rw [Int.mul_assoc]
  rw [e1, e2, e3]; omega
theorem own_mhI {a b c e t s C1 : Int} (h1 : C1 = c / 4294967296) (h2 : t = a + C1) (h3 : s = t % 4294967296 + b) :
    (e + t / 4294967296 + s / 4294967296) * 18446744073709551616 ≤ e * 18446744073709551616 + (a + b) * 4294967296 + c ∧ e * 18446744073709551616 + (a + b) * 4294967296 + c < (e + t / 4294967296 + s / 4294967296 + 1) * 18446744073709551616 := by
  obtain ⟨U, hU⟩ : ∃ U, U = t / 4294967296 + s / 4294967296 := ⟨_, rfl⟩
  have e1 : e + t / 4294967296 + s / 4294967296 = e + U := by omega
  rw [e1]
  have u1 : U * 4294967296 ≤ t + b ∧ t + b < U * 4294967296 + 4294967296 := by omega
  have c1 : C1 * 4294967296 ≤ c ∧ c < C1 * 4294967296 + 4294967296 := by omega
  clear hU e1 h3 h1
  omega
theorem own_mul {A B a b : Int} (h1 : 0 ≤ a) (h2 : a < A) (h3 : 0 ≤ b) (h4 : b < B) : 0 ≤ a * b ∧ a * b ≤ (A - 1) * (B - 1) := ⟨Int.mul_nonneg h1 h3, Int.mul_le_mul (by omega) (by omega) h3 (by omega)⟩
theorem own_mh {x y : Int64} (hx : 0 ≤ x.toInt) (hx2 : x.toInt < 562949953421312) : (Fmh x y).toInt * 18446744073709551616 ≤ x.toInt * y.toInt ∧ x.toInt * y.toInt < ((Fmh x y).toInt + 1) * 18446744073709551616 := by
  obtain ⟨v1, h1⟩ : ∃ v, v = (x >>> ((32 : Int32) &&& 0x3f).toInt64) := ⟨_, rfl⟩
  obtain ⟨v2, h2⟩ : ∃ v, v = (x &&& (4294967295 : Int64)) := ⟨_, rfl⟩
  obtain ⟨v3, h3⟩ : ∃ v, v = (y >>> ((32 : Int32) &&& 0x3f).toInt64) := ⟨_, rfl⟩
  obtain ⟨v4, h4⟩ : ∃ v, v = (y &&& (4294967295 : Int64)) := ⟨_, rfl⟩
  obtain ⟨v5, h5⟩ : ∃ v, v = ((v2 * v4).toUInt64 >>> ((32 : Int32) &&& 0x3f).toInt64.toUInt64).toInt64 := ⟨_, rfl⟩
  obtain ⟨v6, h6⟩ : ∃ v, v = (v1 * v4) + v5 := ⟨_, rfl⟩
  obtain ⟨v7, h7⟩ : ∃ v, v = (v6 &&& (4294967295 : Int64)) := ⟨_, rfl⟩
  obtain ⟨v8, h8⟩ : ∃ v, v = (v6 >>> ((32 : Int32) &&& 0x3f).toInt64) := ⟨_, rfl⟩
  obtain ⟨v9, h9⟩ : ∃ v, v = (v7 + (v2 * v3)) := ⟨_, rfl⟩
  obtain ⟨v10, h10⟩ : ∃ v, v = (v9 >>> ((32 : Int32) &&& 0x3f).toInt64) := ⟨_, rfl⟩
  have hF : Fmh x y = ((v1 * v3) + v8) + v10 := by simp only [Fmh, h1, h2, h3, h4, h5, h6, h7, h8, h9, h10]
  have i1 : v1.toInt = x.toInt / 4294967296 := by rw [h1]; exact c_lshr x 32 32 (by decide)
  have i2 : v2.toInt = x.toInt % 4294967296 := by rw [h2]; exact c_maskL x _ 32 (by decide) (by decide)
  have i3 : v3.toInt = y.toInt / 4294967296 := by rw [h3]; exact c_lshr y 32 32 (by decide)
  have i4 : v4.toInt = y.toInt % 4294967296 := by rw [h4]; exact c_maskL y _ 32 (by decide) (by decide)
  have ry := rng64 y
  have b1 : 0 ≤ v1.toInt ∧ v1.toInt < 131072 := by omega
  have b2 : 0 ≤ v2.toInt ∧ v2.toInt < 4294967296 := by omega
  have b3 : -2147483648 ≤ v3.toInt ∧ v3.toInt < 2147483648 := by omega
  have b4 : 0 ≤ v4.toInt ∧ v4.toInt < 4294967296 := by omega
  have pc := own_mul b2.1 b2.2 b4.1 b4.2
  have pa := own_mul b1.1 b1.2 b4.1 b4.2
  have pb : -9223372036854775808 ≤ v2.toInt * v3.toInt ∧ v2.toInt * v3.toInt ≤ 9223372030412324865 := by
    have q1 : 0 ≤ v2.toInt * (v3.toInt + 2147483648) := Int.mul_nonneg b2.1 (by omega)
    have q2 : v2.toInt * (v3.toInt + 1) ≤ 4294967295 * 2147483648 ∨ v3.toInt < 0 := by
      rcases Int.lt_or_le v3.toInt 0 with h | h
      · exact Or.inr h
      · exact Or.inl (Int.mul_le_mul (by omega) (by omega) (by omega) (by decide))
    have q3 : v3.toInt < 0 → 0 ≤ v2.toInt * (- v3.toInt) := fun h => Int.mul_nonneg b2.1 (by omega)
    have q4 : 0 ≤ v3.toInt → v2.toInt * v3.toInt ≤ 4294967295 * 2147483647 := fun h => Int.mul_le_mul (by omega) (by omega) h (by decide)
    rw [Int.mul_add] at q1
    rw [Int.mul_neg] at q3
    rcases Int.lt_or_le v3.toInt 0 with h | h
    · have := q3 h; omega
    · have := q4 h; omega
  have pe : -281474976710656 ≤ v1.toInt * v3.toInt ∧ v1.toInt * v3.toInt ≤ 281474976710656 := by
    have q1 : 0 ≤ v1.toInt * (v3.toInt + 2147483648) := Int.mul_nonneg b1.1 (by omega)
    have q2 : 0 ≤ v1.toInt * (2147483648 - v3.toInt) := Int.mul_nonneg b1.1 (by omega)
    rw [Int.mul_add] at q1
    rw [Int.mul_sub] at q2
    omega
  have i5 : v5.toInt = (v2.toInt * v4.toInt) / 4294967296 := by
    have k := c_lmul v2 v4
    have l : v5.toInt = ((v2 * v4).toInt % 18446744073709551616) / 4294967296 := by rw [h5]; exact c_lushr _ 32 32 (by decide) (by decide)
    generalize v2.toInt * v4.toInt = c at k pc ⊢
    have m : (v2 * v4).toInt % 18446744073709551616 = c := by omega
    rw [l, m]
  have i6 : v6.toInt = v1.toInt * v4.toInt + (v2.toInt * v4.toInt) / 4294967296 := by
    have k := c_lmul v1 v4; have k2 := c_ladd (v1 * v4) v5; have r1 := rng64 (v1 * v4); have r2 := rng64 v6
    rw [← h6, i5] at k2
    generalize v2.toInt * v4.toInt = c at k2 pc ⊢
    generalize v1.toInt * v4.toInt = a at k pa ⊢
    omega
  have i7 : v7.toInt = v6.toInt % 4294967296 := by rw [h7]; exact c_maskL v6 _ 32 (by decide) (by decide)
  have i8 : v8.toInt = v6.toInt / 4294967296 := by rw [h8]; exact c_lshr v6 32 32 (by decide)
  have i9 : v9.toInt = v6.toInt % 4294967296 + v2.toInt * v3.toInt := by
    have k := c_lmul v2 v3; have k2 := c_ladd v7 (v2 * v3); have r1 := rng64 (v2 * v3); have r2 := rng64 v9
    rw [← h9, i7] at k2
    generalize v2.toInt * v3.toInt = b at k pb ⊢
    omega
  have i10 : v10.toInt = v9.toInt / 4294967296 := by rw [h10]; exact c_lshr v9 32 32 (by decide)
  have iF : (Fmh x y).toInt = v1.toInt * v3.toInt + v6.toInt / 4294967296 + v9.toInt / 4294967296 := by
    have k := c_lmul v1 v3; have k2 := c_ladd (v1 * v3) v8; have k3 := c_ladd ((v1 * v3) + v8) v10; have r1 := rng64 (v1 * v3); have r2 := rng64 ((v1 * v3) + v8); have r3 := rng64 (Fmh x y); have r6 := rng64 v6; have r9 := rng64 v9
    rw [← hF, i10] at k3
    rw [i8] at k2
    generalize v1.toInt * v3.toInt = e at k pe ⊢
    omega
  have main := own_mhI (a := v1.toInt * v4.toInt) (b := v2.toInt * v3.toInt) (c := v2.toInt * v4.toInt) (e := v1.toInt * v3.toInt) rfl i6 i9
  have px : x.toInt * y.toInt = v1.toInt * v3.toInt * 18446744073709551616 + (v1.toInt * v4.toInt + v2.toInt * v3.toInt) * 4294967296 + v2.toInt * v4.toInt := by
    rw [← own_parts, show v1.toInt * 4294967296 + v2.toInt = x.toInt from by omega, show v3.toInt * 4294967296 + v4.toInt = y.toInt from by omega]
  rw [px, iF]; exact main
theorem d1_0 : decode prog_60_method_2_code 0 = .ok (.aload_n 0, 1) := by decide +kernel
theorem d1_1 : decode prog_60_method_2_code 1 = .ok (.invokespecial 3, 3) := by decide +kernel
theorem d1_4 : decode prog_60_method_2_code 4 = .ok (.aload_n 0, 1) := by decide +kernel
theorem d1_5 : decode prog_60_method_2_code 5 = .ok (.iload 4, 2) := by decide +kernel
theorem d1_7 : decode prog_60_method_2_code 7 = .ok (.invokestatic 13, 3) := by decide +kernel
theorem d1_10 : decode prog_60_method_2_code 10 = .ok (.putfield 17, 3) := by decide +kernel
theorem d1_13 : decode prog_60_method_2_code 13 = .ok (.aload_n 0, 1) := by decide +kernel
theorem d1_14 : decode prog_60_method_2_code 14 = .ok (.lload_n 1, 1) := by decide +kernel
theorem d1_15 : decode prog_60_method_2_code 15 = .ok (.putfield 20, 3) := by decide +kernel
theorem d1_18 : decode prog_60_method_2_code 18 = .ok (.aload_n 0, 1) := by decide +kernel
theorem d1_19 : decode prog_60_method_2_code 19 = .ok (.iload_n 3, 1) := by decide +kernel
theorem d1_20 : decode prog_60_method_2_code 20 = .ok (.putfield 23, 3) := by decide +kernel
theorem d1_23 : decode prog_60_method_2_code 23 = .ok (.aload_n 0, 1) := by decide +kernel
theorem d1_24 : decode prog_60_method_2_code 24 = .ok (.iconst 1, 1) := by decide +kernel
theorem d1_25 : decode prog_60_method_2_code 25 = .ok (.putfield 27, 3) := by decide +kernel
theorem d1_28 : decode prog_60_method_2_code 28 = .ok (.aload_n 0, 1) := by decide +kernel
theorem d1_29 : decode prog_60_method_2_code 29 = .ok (.getfield 17, 3) := by decide +kernel
theorem d1_32 : decode prog_60_method_2_code 32 = .ok (.lload_n 1, 1) := by decide +kernel
theorem d1_33 : decode prog_60_method_2_code 33 = .ok (.iload_n 3, 1) := by decide +kernel
theorem d1_34 : decode prog_60_method_2_code 34 = .ok (.invokestatic 31, 3) := by decide +kernel
theorem d1_37 : decode prog_60_method_2_code 37 = .ok (.lstore 5, 2) := by decide +kernel
theorem d1_39 : decode prog_60_method_2_code 39 = .ok (.aload_n 0, 1) := by decide +kernel
theorem d1_40 : decode prog_60_method_2_code 40 = .ok (.lload 5, 2) := by decide +kernel
theorem d1_42 : decode prog_60_method_2_code 42 = .ok (.lconst 0, 1) := by decide +kernel
theorem d1_43 : decode prog_60_method_2_code 43 = .ok (.lcmp, 1) := by decide +kernel
theorem d1_44 : decode prog_60_method_2_code 44 = .ok (.ifCond .ge 7, 3) := by decide +kernel
theorem d1_47 : decode prog_60_method_2_code 47 = .ok (.aconst_null, 1) := by decide +kernel
theorem d1_48 : decode prog_60_method_2_code 48 = .ok (.goto 15, 3) := by decide +kernel
theorem d1_51 : decode prog_60_method_2_code 51 = .ok (.iconst 2, 1) := by decide +kernel
theorem d1_52 : decode prog_60_method_2_code 52 = .ok (.newarray .long, 2) := by decide +kernel
theorem d1_54 : decode prog_60_method_2_code 54 = .ok (.dup, 1) := by decide +kernel
theorem d1_55 : decode prog_60_method_2_code 55 = .ok (.iconst 0, 1) := by decide +kernel
theorem d1_56 : decode prog_60_method_2_code 56 = .ok (.lload 5, 2) := by decide +kernel
theorem d1_58 : decode prog_60_method_2_code 58 = .ok (.lastore, 1) := by decide +kernel
theorem d1_59 : decode prog_60_method_2_code 59 = .ok (.dup, 1) := by decide +kernel
theorem d1_60 : decode prog_60_method_2_code 60 = .ok (.iconst 1, 1) := by decide +kernel
theorem d1_61 : decode prog_60_method_2_code 61 = .ok (.lload_n 1, 1) := by decide +kernel
theorem d1_62 : decode prog_60_method_2_code 62 = .ok (.lastore, 1) := by decide +kernel
theorem d1_63 : decode prog_60_method_2_code 63 = .ok (.putfield 35, 3) := by decide +kernel
theorem d1_66 : decode prog_60_method_2_code 66 = .ok (.return_, 1) := by decide +kernel
theorem pd_5 : parseMethodDescriptor "(I)J" = some ⟨[.int], some .long⟩ := by decide +kernel
theorem pd_6 : parseMethodDescriptor "(JJI)J" = some ⟨[.long, .long, .int], some .long⟩ := by decide +kernel
theorem ef_1 (m : MethodId) (x0 : Addr) (x1 : Int64) (x2 : Int32) (x3 : Int32) : entryFrame m #[(.ref x0), (.long x1), (.int x2), (.int x3)] 7 = mkF m 0 #[.val (.ref x0), .val (.long x1), .second, .val (.int x2), .val (.int x3), .unset, .unset] [] := by first | (simp [entryFrame, mkF, argsToLocals, Value.category]; done) | rfl
set_option maxRecDepth 65536 in
set_option maxHeartbeats 4000000 in
theorem pf1_hq_0 (a0 : Addr) (q1 : Int64) (p2 : Int32) (p3 : Int32) (lt : Addr) (lf : Addr) (kt : ClassId) (kf : ClassId) (tL : List Value) (fL : List Value) (pa2 : ¬ p2 < 0 ∧ p2 < 3) (hp : 0 < p3.toInt ∧ p3.toInt ≤ 12) (hd : 0 < q1.toInt ∧ q1.toInt ≤ 4096) (v1 : Int64) (hv1 : v1 = (Fwd p3)) : 0 < v1.toInt ∧ v1.toInt ≤ 1200 := by
  exact own_wd hp hv1
set_option maxRecDepth 65536 in
set_option maxHeartbeats 4000000 in
theorem pf1_c44_1 (a0 : Addr) (q1 : Int64) (p2 : Int32) (p3 : Int32) (lt : Addr) (lf : Addr) (kt : ClassId) (kf : ClassId) (tL : List Value) (fL : List Value) (pa2 : ¬ p2 < 0 ∧ p2 < 3) (hp : 0 < p3.toInt ∧ p3.toInt ≤ 12) (hd : 0 < q1.toInt ∧ q1.toInt ≤ 4096) (v1 : Int64) (v2 : Int64) (hv1 : v1 = (Fwd p3)) (hv2 : v2 = (Ftd v1 q1 p2)) : ¬ (v2 < (0 : Int64)) := by
  exact own_dv0 pa2 hp hv1 hv2
set_option maxRecDepth 65536 in
set_option maxHeartbeats 4000000 in
theorem pl_div (a0 : Addr) (q1 : Int64) (p2 : Int32) (p3 : Int32) (lt : Addr) (lf : Addr) (kt : ClassId) (kf : ClassId) (tL : List Value) (fL : List Value) (pa2 : ¬ p2 < 0 ∧ p2 < 3) (hp : 0 < p3.toInt ∧ p3.toInt ≤ 12) (hd : 0 < q1.toInt ∧ q1.toInt ≤ 4096) (v1 : Int64) (v2 : Int64) (hv1 : v1 = (Fwd p3)) (hv2 : v2 = (Ftd v1 q1 p2)) : 0 < v2.toInt ∧ v2.toInt ≤ 120000 := by
  exact own_dv pa2 hp hv1 hv2
def Q1 (Z : State) (a0 : Addr) (q1 : Int64) (p2 : Int32) (p3 : Int32) (lt : Addr) (lf : Addr) (kt : ClassId) (kf : ClassId) (tL : List Value) (fL : List Value) (h0 : Heap) (n0 : Nat) (v : Option Value) (h : Heap) (L : List Loc) : Prop := ∃ kb : ClassId, ∃ dv : Int64, ∃ b : Addr, v = none ∧ Fr n0 L ∧ Keep h0 h [a0] ∧ h0.size ≤ b ∧ FP Z h a0 "wholeTermsAsked" "Z" (.int (1 : Int32)) ∧ FP Z h a0 "wholeTerms" "[J" (.ref b) ∧ Arv Z h b kb .long (2 : Int32) [(.long dv), (.long q1)] (.long (0 : Int64)) ∧ (0 < dv.toInt ∧ dv.toInt ≤ 120000) ∧ True
set_option maxRecDepth 65536 in
set_option maxHeartbeats 40000000 in
theorem rm1 (l : Launch) (Z : State) (aw : Array Value) (hw : ∀ d ∈ tables_1, d.before aw Z = true) (ws : List Jvm.Cond) (a0 : Addr) (q1 : Int64) (p2 : Int32) (p3 : Int32) (lt : Addr) (lf : Addr) (kt : ClassId) (kf : ClassId) (tL : List Value) (fL : List Value) (h0 : Heap) (n0 : Nat) (Z0 : n0 ≤ h0.size) (r0 : Exa Z h0 a0 "com/example/amortine/amortine/PeriodRate") (r1 : n0 ≤ a0) (r2 : FP Z h0 a0 "wholeDivisor" "J" (.long (0 : Int64))) (r3 : FP Z h0 a0 "rateDigits" "J" (.long (0 : Int64))) (r4 : FP Z h0 a0 "rateDecimals" "I" (.int (0 : Int32))) (r5 : FP Z h0 a0 "wholeTermsAsked" "Z" (.int (0 : Int32))) (r6 : FP Z h0 a0 "wholeTerms" "[J" .null) (r7 : Sta Z Z.heap "com/example/amortine/amortine/Decimals" "LONG_TENS" "[J" (.ref lt)) (r8 : Sta Z Z.heap "com/example/amortine/amortine/Decimals" "LONG_FACTORS" "[J" (.ref lf)) (r9 : Old Z n0 h0) (r10 : Arv Z h0 lt kt .long (19 : Int32) tL (.long (0 : Int64))) (r11 : Arv Z h0 lf kf .long (19 : Int32) fL (.long (0 : Int64))) (hT : (own_T tL)) (hF : (own_F fL)) (r14 : lt ≠ a0) (r15 : lf ≠ a0) (pa2 : (¬ p2 < 0 ∧ p2 < 3)) (hp : (0 < p3.toInt ∧ p3.toInt ≤ 12)) (hd : (0 < q1.toInt ∧ q1.toInt ≤ 4096)) :
    MetFree l (⟨"com/example/amortine/amortine/PeriodRate", "<init>", "(JII)V"⟩ : MethodName) (head1 (Jvm.Cond.code (⟨"com/example/amortine/amortine/PeriodRate", "<init>", "(JII)V"⟩ : MethodName) prog_60_method_2_code 7 none :: ws) ({ frames := 2, cells := 1, slots := 2, locals := 33 } : Room)) (fun a U => a = #[(.ref a0), (.long q1), (.int p2), (.int p3)] ∧ Z.Warmed39 U.vm ∧ U.heap = h0) (fun _ _ _ _ _ => True) (fun _ U o U' => ∃ v L, o = .returned v ∧ Q1 Z a0 q1 p2 p3 lt lf kt kf tL fL h0 n0 v U'.heap L ∧ FrameEnd U o U' L ({ frames := 2, cells := 1, slots := 2, locals := 33 } : Room).cells ({ frames := 2, cells := 1, slots := 2, locals := 33 } : Room).slots) := by
  refine MetFree.of_bodySF (plainFor_of_name pn_3) hisR ?_
  intro p e s m args below meth c s₁ Bd hml0 hP hK
  obtain ⟨rfl, hZ, hh⟩ := hP
  have hx := Bd.exec
  have hby := Bd.bytes
  have hml : c.maxLocals = 7 := hml0
  have hown : s.vm.findClass "com/example/amortine/amortine/PeriodRate" = some m.cls := findClass_of_methodNamed Bd.named
  have hnm := (name_of_methodNamed Bd.named Bd.method).1
  have X0 : Stand p l e ({ frames := 2, cells := 1, slots := 2, locals := 33 } : Room) s m #[(.ref a0), (.long q1), (.int p2), (.int p3)] below meth c s₁ [] 0 0 := Stand.of_body Bd
  have e0 : s₁.heap = h0 := by rw [← hh, Bd.state]; rfl
  have N0 := Fr.nil n0
  obtain ⟨A0, hA0⟩ : ∃ A0, A0 = s₁.setTop (entryFrame m #[(.ref a0), (.long q1), (.int p2), (.int p3)] 7) := ⟨_, rfl⟩
  have go0 : Go p e below A0 (s₁.setTop (mkF m 0 #[.val (.ref a0), .val (.long q1), .second, .val (.int p2), .val (.int p3), .unset, .unset] [])) := fun t k => by rw [hA0]; exact castTop (ef_1 m a0 q1 p2 p3) k
  have wl18 : (Jvm.Cond.laysFinal "com/example/amortine/amortine/PeriodRate" "com/example/amortine/amortine/PeriodRate" "wholeDivisor" "J").before aw Z = true := (hw _ (List.mem_of_getElem? (i := 18) rfl))
  have wl20 : (Jvm.Cond.laysFinal "com/example/amortine/amortine/PeriodRate" "com/example/amortine/amortine/PeriodRate" "rateDigits" "J").before aw Z = true := (hw _ (List.mem_of_getElem? (i := 20) rfl))
  have wl22 : (Jvm.Cond.laysFinal "com/example/amortine/amortine/PeriodRate" "com/example/amortine/amortine/PeriodRate" "rateDecimals" "I").before aw Z = true := (hw _ (List.mem_of_getElem? (i := 22) rfl))
  have wl24 : (Jvm.Cond.lays "com/example/amortine/amortine/PeriodRate" "com/example/amortine/amortine/PeriodRate" "wholeTermsAsked" "Z").before aw Z = true := (hw _ (List.mem_of_getElem? (i := 24) rfl))
  have wl38 : (Jvm.Cond.lays "com/example/amortine/amortine/PeriodRate" "com/example/amortine/amortine/PeriodRate" "wholeTerms" "[J").before aw Z = true := (hw _ (List.mem_of_getElem? (i := 38) rfl))
  obtain ⟨T1, X1, e1, st1⟩ := initO X0 hx hZ hown (hw _ (List.mem_of_getElem? (i := 10) rfl)) (hw _ (List.mem_of_getElem? (i := 11) rfl)) (hw _ (List.mem_of_getElem? (i := 12) rfl)) e0 (g := (mkF m 1 #[.val (.ref a0), .val (.long q1), .second, .val (.int p2), .val (.int p3), .unset, .unset] [(.ref a0)])) rfl (by rw [hml]; rfl) rfl (hb hby d1_1) (by decide) (W := 0) (by show 2 * 0 + _ ≤ _; exact Nat.le_of_eq rfl) (by decide)
  have go1 : Go p e below A0 (T1.setTop (mkF m 7 #[.val (.ref a0), .val (.long q1), .second, .val (.int p2), .val (.int p3), .unset, .unset] [(.int p3), (.ref a0)])) := by
    intro t k
    refine go0 t ?_
    refine o_aloadN X0 hx hby d1_0 1 rfl rfl rfl ?_
    refine st1 _ ?_
    refine o_aloadN X1 hx hby d1_4 5 rfl rfl rfl ?_
    refine o_iload X1 hx hby d1_5 7 rfl rfl ?_
    exact k
  obtain ⟨_, _, ⟨T2, L2, k2, n2⟩, -, X2, ⟨Lc2, hQ2, l2, y2, z2⟩, st2⟩ := Jvm.LawKit.callS X1 hx (y := (⟨"com/example/amortine/amortine/PeriodRate", "wholeDivisor", "(I)J"⟩ : MethodName)) hown (mvT hZ (hw _ (List.mem_of_getElem? (i := 13) rfl))) (mvT hZ (hw _ (List.mem_of_getElem? (i := 14) rfl))) (mvT hZ (hw _ (List.mem_of_getElem? (i := 6) rfl))) (mvT hZ (hw _ (List.mem_of_getElem? (i := 15) rfl))) (by decide) (backOf (W := 1) (rm3 l Z aw hw [] p3 h0 n0 Z0) hZ (hw _ (List.mem_of_getElem? (i := 15) rfl)) (hw _ (List.mem_of_getElem? (i := 6) rfl)) (by decide) (by decide)) (g := (mkF m 7 #[.val (.ref a0), .val (.long q1), .second, .val (.int p2), .val (.int p3), .unset, .unset] [(.int p3), (.ref a0)])) rfl (by rw [hml]; rfl) (argsL := [(.int p3)]) (rest := [(.ref a0)]) (lenOf pd_5 rfl) rfl (by show 2 * 0 + _ ≤ _; exact Nat.le_of_eq rfl) (hb hby d1_7) (fun _ _ => ⟨rfl, e1, (by decide : 0 + 0 ≤ _), (by decide : 0 + 0 ≤ _)⟩)
  dsimp only [Pt.U, Pt.locs, Pt.cells, Pt.slots] at X2 l2 y2 z2 st2 hQ2
  obtain rfl : k2 = 0 := y2
  obtain rfl : n2 = 0 := z2
  obtain ⟨rfl, N2q, e2⟩ := hQ2
  have N2 : Fr n0 L2 := by rw [l2]; exact Fr.app N0 N2q
  have go2 : Go p e below A0 (T2.setTop (mkF m 10 #[.val (.ref a0), .val (.long q1), .second, .val (.int p2), .val (.int p3), .unset, .unset] [(.long (Fwd p3)), (.ref a0)])) := by
    intro t k
    refine go1 t ?_
    refine st2 _ ?_
    show Steps p.tables e below (T2.setTop (mkF m 10 #[.val (.ref a0), .val (.long q1), .second, .val (.int p2), .val (.int p3), .unset, .unset] [(.long (Fwd p3)), (.ref a0)])) _
    exact k
  obtain ⟨v1, hv1, go3⟩ : ∃ v1 : Int64, v1 = (Fwd p3) ∧ Go p e below A0 (T2.setTop (mkF m 10 #[.val (.ref a0), .val (.long q1), .second, .val (.int p2), .val (.int p3), .unset, .unset] [(.long v1), (.ref a0)])) := ⟨_, rfl, go2⟩
  obtain ⟨T3, h3, X3, e3, W3, st3⟩ := putF X2 hx hZ hown (host := "") (Or.inl (hw _ (List.mem_of_getElem? (i := 17) rfl))) Via.refl e2 r2 r0 (Or.inr ⟨(hw _ (List.mem_of_getElem? (i := 18) rfl)), rfl, hnm⟩) (hw _ (List.mem_of_getElem? (i := 5) rfl)) (ty := .long) (by decide) rfl rfl (g := (mkF m 10 #[.val (.ref a0), .val (.long q1), .second, .val (.int p2), .val (.int p3), .unset, .unset] [(.long v1), (.ref a0)])) rfl rfl (hb hby d1_10)
  have f1 : Exa Z h3 a0 "com/example/amortine/amortine/PeriodRate" := r0.wr W3
  have f2 : FP Z h3 a0 "rateDigits" "J" (.long (0 : Int64)) := r3.other W3 (Or.inr (slot_ne (Or.inr wl20) (Or.inr wl18) (by decide) (t := .long) (t' := .long) (by decide) (by decide)))
  have f3 : FP Z h3 a0 "rateDecimals" "I" (.int (0 : Int32)) := r4.other W3 (Or.inr (slot_ne (Or.inr wl22) (Or.inr wl18) (by decide) (t := .int) (t' := .long) (by decide) (by decide)))
  have f4 : FP Z h3 a0 "wholeTermsAsked" "Z" (.int (0 : Int32)) := r5.other W3 (Or.inr (slot_ne (Or.inl wl24) (Or.inr wl18) (by decide) (t := .boolean) (t' := .long) (by decide) (by decide)))
  have f5 : FP Z h3 a0 "wholeTerms" "[J" .null := r6.other W3 (Or.inr (slot_ne (Or.inl wl38) (Or.inr wl18) (by decide) (t := (.array .long)) (t' := .long) (by decide) (by decide)))
  have f6 : Old Z n0 h3 := r9.wr W3 r1
  have f7 : Arv Z h3 lt kt .long (19 : Int32) tL (.long (0 : Int64)) := r10.other W3 r14
  have f8 : Arv Z h3 lf kf .long (19 : Int32) fL (.long (0 : Int64)) := r11.other W3 r15
  have Zp3 : n0 ≤ h3.size := Nat.le_trans Z0 (Keep.of_wr W3).1
  have K3 : Keep h0 h3 [a0] := (Keep.refl h0 [a0]).wr W3 (Or.inl (List.mem_of_getElem? (i := 0) rfl))
  have N3 := Fr.snoc X3 N2 r1
  have f9 : FP Z h3 a0 "wholeDivisor" "J" (.long v1) := r2.same W3
  have go4 : Go p e below A0 (T3.setTop (mkF m 15 #[.val (.ref a0), .val (.long q1), .second, .val (.int p2), .val (.int p3), .unset, .unset] [(.long q1), (.ref a0)])) := by
    intro t k
    refine go3 t ?_
    refine st3 _ ?_
    show Steps p.tables e below (T3.setTop (mkF m 13 #[.val (.ref a0), .val (.long q1), .second, .val (.int p2), .val (.int p3), .unset, .unset] [])) _
    refine o_aloadN X3 hx hby d1_13 14 rfl rfl rfl ?_
    refine o_lloadN X3 hx hby d1_14 15 rfl rfl ?_
    exact k
  obtain ⟨T4, h4, X4, e4, W4, st4⟩ := putF X3 hx hZ hown (host := "") (Or.inl (hw _ (List.mem_of_getElem? (i := 19) rfl))) Via.refl e3 f2 f1 (Or.inr ⟨(hw _ (List.mem_of_getElem? (i := 20) rfl)), rfl, hnm⟩) (hw _ (List.mem_of_getElem? (i := 5) rfl)) (ty := .long) (by decide) rfl rfl (g := (mkF m 15 #[.val (.ref a0), .val (.long q1), .second, .val (.int p2), .val (.int p3), .unset, .unset] [(.long q1), (.ref a0)])) rfl rfl (hb hby d1_15)
  have f10 : Exa Z h4 a0 "com/example/amortine/amortine/PeriodRate" := f1.wr W4
  have f11 : FP Z h4 a0 "rateDecimals" "I" (.int (0 : Int32)) := f3.other W4 (Or.inr (slot_ne (Or.inr wl22) (Or.inr wl20) (by decide) (t := .int) (t' := .long) (by decide) (by decide)))
  have f12 : FP Z h4 a0 "wholeTermsAsked" "Z" (.int (0 : Int32)) := f4.other W4 (Or.inr (slot_ne (Or.inl wl24) (Or.inr wl20) (by decide) (t := .boolean) (t' := .long) (by decide) (by decide)))
  have f13 : FP Z h4 a0 "wholeTerms" "[J" .null := f5.other W4 (Or.inr (slot_ne (Or.inl wl38) (Or.inr wl20) (by decide) (t := (.array .long)) (t' := .long) (by decide) (by decide)))
  have f14 : Old Z n0 h4 := f6.wr W4 r1
  have f15 : Arv Z h4 lt kt .long (19 : Int32) tL (.long (0 : Int64)) := f7.other W4 r14
  have f16 : Arv Z h4 lf kf .long (19 : Int32) fL (.long (0 : Int64)) := f8.other W4 r15
  have f17 : FP Z h4 a0 "wholeDivisor" "J" (.long v1) := f9.other W4 (Or.inr (slot_ne (Or.inr wl18) (Or.inr wl20) (by decide) (t := .long) (t' := .long) (by decide) (by decide)))
  have Zp4 : n0 ≤ h4.size := Nat.le_trans Zp3 (Keep.of_wr W4).1
  have K4 : Keep h0 h4 [a0] := K3.wr W4 (Or.inl (List.mem_of_getElem? (i := 0) rfl))
  have N4 := Fr.snoc X4 N3 r1
  have f18 : FP Z h4 a0 "rateDigits" "J" (.long q1) := f2.same W4
  have go5 : Go p e below A0 (T4.setTop (mkF m 20 #[.val (.ref a0), .val (.long q1), .second, .val (.int p2), .val (.int p3), .unset, .unset] [(.int p2), (.ref a0)])) := by
    intro t k
    refine go4 t ?_
    refine st4 _ ?_
    show Steps p.tables e below (T4.setTop (mkF m 18 #[.val (.ref a0), .val (.long q1), .second, .val (.int p2), .val (.int p3), .unset, .unset] [])) _
    refine o_aloadN X4 hx hby d1_18 19 rfl rfl rfl ?_
    refine o_iloadN X4 hx hby d1_19 20 rfl rfl ?_
    exact k
  obtain ⟨T5, h5, X5, e5, W5, st5⟩ := putF X4 hx hZ hown (host := "") (Or.inl (hw _ (List.mem_of_getElem? (i := 21) rfl))) Via.refl e4 f11 f10 (Or.inr ⟨(hw _ (List.mem_of_getElem? (i := 22) rfl)), rfl, hnm⟩) (hw _ (List.mem_of_getElem? (i := 5) rfl)) (ty := .int) (by decide) rfl rfl (g := (mkF m 20 #[.val (.ref a0), .val (.long q1), .second, .val (.int p2), .val (.int p3), .unset, .unset] [(.int p2), (.ref a0)])) rfl rfl (hb hby d1_20)
  have f19 : Exa Z h5 a0 "com/example/amortine/amortine/PeriodRate" := f10.wr W5
  have f20 : FP Z h5 a0 "wholeTermsAsked" "Z" (.int (0 : Int32)) := f12.other W5 (Or.inr (slot_ne (Or.inl wl24) (Or.inr wl22) (by decide) (t := .boolean) (t' := .int) (by decide) (by decide)))
  have f21 : FP Z h5 a0 "wholeTerms" "[J" .null := f13.other W5 (Or.inr (slot_ne (Or.inl wl38) (Or.inr wl22) (by decide) (t := (.array .long)) (t' := .int) (by decide) (by decide)))
  have f22 : Old Z n0 h5 := f14.wr W5 r1
  have f23 : Arv Z h5 lt kt .long (19 : Int32) tL (.long (0 : Int64)) := f15.other W5 r14
  have f24 : Arv Z h5 lf kf .long (19 : Int32) fL (.long (0 : Int64)) := f16.other W5 r15
  have f25 : FP Z h5 a0 "wholeDivisor" "J" (.long v1) := f17.other W5 (Or.inr (slot_ne (Or.inr wl18) (Or.inr wl22) (by decide) (t := .long) (t' := .int) (by decide) (by decide)))
  have f26 : FP Z h5 a0 "rateDigits" "J" (.long q1) := f18.other W5 (Or.inr (slot_ne (Or.inr wl20) (Or.inr wl22) (by decide) (t := .long) (t' := .int) (by decide) (by decide)))
  have Zp5 : n0 ≤ h5.size := Nat.le_trans Zp4 (Keep.of_wr W5).1
  have K5 : Keep h0 h5 [a0] := K4.wr W5 (Or.inl (List.mem_of_getElem? (i := 0) rfl))
  have N5 := Fr.snoc X5 N4 r1
  have f27 : FP Z h5 a0 "rateDecimals" "I" (.int p2) := f11.same W5
  have go6 : Go p e below A0 (T5.setTop (mkF m 25 #[.val (.ref a0), .val (.long q1), .second, .val (.int p2), .val (.int p3), .unset, .unset] [(.int (1 : Int32)), (.ref a0)])) := by
    intro t k
    refine go5 t ?_
    refine st5 _ ?_
    show Steps p.tables e below (T5.setTop (mkF m 23 #[.val (.ref a0), .val (.long q1), .second, .val (.int p2), .val (.int p3), .unset, .unset] [])) _
    refine o_aloadN X5 hx hby d1_23 24 rfl rfl rfl ?_
    refine o_iconst X5 hx hby d1_24 25 rfl (v := (1 : Int32)) rfl ?_
    exact k
  obtain ⟨T6, h6, X6, e6, W6, st6⟩ := putF X5 hx hZ hown (host := "") (Or.inl (hw _ (List.mem_of_getElem? (i := 23) rfl))) Via.refl e5 f20 f19 (Or.inl (hw _ (List.mem_of_getElem? (i := 24) rfl))) (hw _ (List.mem_of_getElem? (i := 5) rfl)) (ty := .boolean) (by decide) (by decide) (by decide) (g := (mkF m 25 #[.val (.ref a0), .val (.long q1), .second, .val (.int p2), .val (.int p3), .unset, .unset] [(.int (1 : Int32)), (.ref a0)])) rfl rfl (hb hby d1_25)
  have f28 : Exa Z h6 a0 "com/example/amortine/amortine/PeriodRate" := f19.wr W6
  have f29 : FP Z h6 a0 "wholeTerms" "[J" .null := f21.other W6 (Or.inr (slot_ne (Or.inl wl38) (Or.inl wl24) (by decide) (t := (.array .long)) (t' := .boolean) (by decide) (by decide)))
  have f30 : Old Z n0 h6 := f22.wr W6 r1
  have f31 : Arv Z h6 lt kt .long (19 : Int32) tL (.long (0 : Int64)) := f23.other W6 r14
  have f32 : Arv Z h6 lf kf .long (19 : Int32) fL (.long (0 : Int64)) := f24.other W6 r15
  have f33 : FP Z h6 a0 "wholeDivisor" "J" (.long v1) := f25.other W6 (Or.inr (slot_ne (Or.inr wl18) (Or.inl wl24) (by decide) (t := .long) (t' := .boolean) (by decide) (by decide)))
  have f34 : FP Z h6 a0 "rateDigits" "J" (.long q1) := f26.other W6 (Or.inr (slot_ne (Or.inr wl20) (Or.inl wl24) (by decide) (t := .long) (t' := .boolean) (by decide) (by decide)))
  have f35 : FP Z h6 a0 "rateDecimals" "I" (.int p2) := f27.other W6 (Or.inr (slot_ne (Or.inr wl22) (Or.inl wl24) (by decide) (t := .int) (t' := .boolean) (by decide) (by decide)))
  have Zp6 : n0 ≤ h6.size := Nat.le_trans Zp5 (Keep.of_wr W6).1
  have K6 : Keep h0 h6 [a0] := K5.wr W6 (Or.inl (List.mem_of_getElem? (i := 0) rfl))
  have N6 := Fr.snoc X6 N5 r1
  have f36 : FP Z h6 a0 "wholeTermsAsked" "Z" (.int (1 : Int32)) := f20.same W6
  obtain ⟨T7, X7, e7, st7⟩ := getF X6 hx hZ hown (host := "") (Or.inl (hw _ (List.mem_of_getElem? (i := 17) rfl))) Via.refl e6 f33 (g := (mkF m 29 #[.val (.ref a0), .val (.long q1), .second, .val (.int p2), .val (.int p3), .unset, .unset] [(.ref a0)])) rfl rfl (hb hby d1_29)
  have go7 : Go p e below A0 (T7.setTop (mkF m 34 #[.val (.ref a0), .val (.long q1), .second, .val (.int p2), .val (.int p3), .unset, .unset] [(.int p2), (.long q1), (.long v1)])) := by
    intro t k
    refine go6 t ?_
    refine st6 _ ?_
    show Steps p.tables e below (T6.setTop (mkF m 28 #[.val (.ref a0), .val (.long q1), .second, .val (.int p2), .val (.int p3), .unset, .unset] [])) _
    refine o_aloadN X6 hx hby d1_28 29 rfl rfl rfl ?_
    refine st7 _ ?_
    show Steps p.tables e below (T7.setTop (mkF m 32 #[.val (.ref a0), .val (.long q1), .second, .val (.int p2), .val (.int p3), .unset, .unset] [(.long v1)])) _
    refine o_lloadN X7 hx hby d1_32 33 rfl rfl ?_
    refine o_iloadN X7 hx hby d1_33 34 rfl rfl ?_
    exact k
  have f_hq_1 : 0 < v1.toInt ∧ v1.toInt ≤ 1200 := pf1_hq_0 a0 q1 p2 p3 lt lf kt kf tL fL pa2 hp hd v1 hv1
  obtain ⟨_, _, ⟨T8, L8, k8, n8⟩, -, X8, ⟨Lc8, hQ8, l8, y8, z8⟩, st8⟩ := callSH X7 hx (y := (⟨"com/example/amortine/amortine/PeriodRate", "termsDivisor", "(JJI)J"⟩ : MethodName)) hown (mvT hZ (hw _ (List.mem_of_getElem? (i := 25) rfl))) (mvT hZ (hw _ (List.mem_of_getElem? (i := 26) rfl))) (mvT hZ (hw _ (List.mem_of_getElem? (i := 6) rfl))) (mvT hZ (hw _ (List.mem_of_getElem? (i := 27) rfl))) (by decide) (backOfWith (W := 0) (rm4 l Z aw hw [] v1 q1 p2 lt lf kt kf tL fL h6 n0 Zp6 (r7) (r8) (f30) (f31) (f32) (hT) (hF) (pa2) (f_hq_1) (hd)) hZ (hw _ (List.mem_of_getElem? (i := 27) rfl)) (hw _ (List.mem_of_getElem? (i := 6) rfl)) (by decide) (by decide)) (g := (mkF m 34 #[.val (.ref a0), .val (.long q1), .second, .val (.int p2), .val (.int p3), .unset, .unset] [(.int p2), (.long q1), (.long v1)])) rfl (by rw [hml]; rfl) (argsL := [(.long v1), (.long q1), (.int p2)]) (rest := []) (lenOf pd_6 rfl) rfl (by show 2 * 0 + _ ≤ _; exact Nat.le_of_eq rfl) (hb hby d1_34) (fun _ _ => ⟨rfl, e7, (by decide : 0 + 0 ≤ _), (by decide : 0 + 0 ≤ _)⟩)
  dsimp only [Pt.U, Pt.locs, Pt.cells, Pt.slots] at X8 l8 y8 z8 st8 hQ8
  obtain rfl : k8 = 0 := y8
  obtain rfl : n8 = 0 := z8
  obtain ⟨rfl, N8q, e8⟩ := hQ8
  have N8 : Fr n0 L8 := by rw [l8]; exact Fr.app N6 N8q
  have go8 : Go p e below A0 (T8.setTop (mkF m 37 #[.val (.ref a0), .val (.long q1), .second, .val (.int p2), .val (.int p3), .unset, .unset] [(.long (Ftd v1 q1 p2))])) := by
    intro t k
    refine go7 t ?_
    refine st8 _ ?_
    show Steps p.tables e below (T8.setTop (mkF m 37 #[.val (.ref a0), .val (.long q1), .second, .val (.int p2), .val (.int p3), .unset, .unset] [(.long (Ftd v1 q1 p2))])) _
    exact k
  obtain ⟨v2, hv2, go9⟩ : ∃ v2 : Int64, v2 = (Ftd v1 q1 p2) ∧ Go p e below A0 (T8.setTop (mkF m 37 #[.val (.ref a0), .val (.long q1), .second, .val (.int p2), .val (.int p3), .unset, .unset] [(.long v2)])) := ⟨_, rfl, go8⟩
  have go10 : Go p e below A0 (T8.setTop (mkF m 39 #[.val (.ref a0), .val (.long q1), .second, .val (.int p2), .val (.int p3), .val (.long v2), .second] [])) := by
    intro t k
    refine go9 t ?_
    refine o_lstore X8 hx hby d1_37 39 rfl (l' := #[.val (.ref a0), .val (.long q1), .second, .val (.int p2), .val (.int p3), .val (.long v2), .second]) rfl ?_
    exact k
  have go11 : Go p e below A0 (T8.setTop (mkF m 44 #[.val (.ref a0), .val (.long q1), .second, .val (.int p2), .val (.int p3), .val (.long v2), .second] [(.int (lcmpW v2 (0 : Int64))), (.ref a0)])) := by
    intro t k
    refine go10 t ?_
    refine o_aloadN X8 hx hby d1_39 40 rfl rfl rfl ?_
    refine o_lload X8 hx hby d1_40 42 rfl rfl ?_
    refine o_lconst X8 hx hby d1_42 43 rfl (v := (0 : Int64)) rfl ?_
    refine o_lcmp X8 hx hby d1_43 44 rfl ?_
    exact k
  have f_c44_2 : ¬ (v2 < (0 : Int64)) := pf1_c44_1 a0 q1 p2 p3 lt lf kt kf tL fL pa2 hp hd v1 v2 hv1 hv2
  obtain ⟨T9, h9, k9, X9, e9, E9, A9, st9⟩ := newP X8 hx hZ (hw _ (List.mem_of_getElem? (i := 36) rfl)) e8 (g := (mkF m 52 #[.val (.ref a0), .val (.long q1), .second, .val (.int p2), .val (.int p3), .val (.long v2), .second] [(.int (2 : Int32)), (.ref a0)])) rfl (hb hby d1_52) rfl (by decide) (cap := 2) (by decide) (by decide) (by decide) (by decide)
  obtain ⟨b9, g9⟩ : ∃ z, z = h6.size := ⟨_, rfl⟩
  rw [← g9] at A9 st9
  have ne_a0_b9 : a0 ≠ b9 := Nat.ne_of_lt (Nat.lt_of_lt_of_le f28.lt (Nat.le_of_eq g9.symm))
  have ne_lt_b9 : lt ≠ b9 := Nat.ne_of_lt (Nat.lt_of_lt_of_le f31.lt (Nat.le_of_eq g9.symm))
  have ne_lf_b9 : lf ≠ b9 := Nat.ne_of_lt (Nat.lt_of_lt_of_le f32.lt (Nat.le_of_eq g9.symm))
  have g_b9 : n0 ≤ b9 := Nat.le_trans Zp6 (Nat.le_of_eq g9.symm)
  have sz_b9 : h0.size ≤ b9 := Nat.le_trans K6.1 (Nat.le_of_eq g9.symm)
  have f37 : Exa Z h9 a0 "com/example/amortine/amortine/PeriodRate" := f28.ext E9
  have f38 : FP Z h9 a0 "wholeTerms" "[J" .null := f29.ext E9
  have f39 : Old Z n0 h9 := f30.ext E9
  have f40 : Arv Z h9 lt kt .long (19 : Int32) tL (.long (0 : Int64)) := f31.ext E9
  have f41 : Arv Z h9 lf kf .long (19 : Int32) fL (.long (0 : Int64)) := f32.ext E9
  have f42 : FP Z h9 a0 "wholeDivisor" "J" (.long v1) := f33.ext E9
  have f43 : FP Z h9 a0 "rateDigits" "J" (.long q1) := f34.ext E9
  have f44 : FP Z h9 a0 "rateDecimals" "I" (.int p2) := f35.ext E9
  have f45 : FP Z h9 a0 "wholeTermsAsked" "Z" (.int (1 : Int32)) := f36.ext E9
  have Zp9 : n0 ≤ h9.size := Nat.le_trans Zp6 E9.1
  have K9 : Keep h0 h9 [a0] := K6.ext E9
  have f46 : Arv Z h9 b9 k9 .long (2 : Int32) [(.long (0 : Int64)), (.long (0 : Int64))] (.long (0 : Int64)) := (Arv.new A9 (by decide)).pad (pad_rep [] (.long (0 : Int64)) 2)
  have go12 : Go p e below A0 (T9.setTop (mkF m 58 #[.val (.ref a0), .val (.long q1), .second, .val (.int p2), .val (.int p3), .val (.long v2), .second] [(.long v2), (.int (0 : Int32)), (.ref b9), (.ref b9), (.ref a0)])) := by
    intro t k
    refine go11 t ?_
    refine o_ifY X8 hx hby d1_44 51 rfl (flt (fun q => (f_c44_2) ((lw_lt v2 (0 : Int64)).mp q))).2.1 ?_
    refine o_iconst X8 hx hby d1_51 52 rfl (v := (2 : Int32)) rfl ?_
    refine st9 _ ?_
    show Steps p.tables e below (T9.setTop (mkF m 54 #[.val (.ref a0), .val (.long q1), .second, .val (.int p2), .val (.int p3), .val (.long v2), .second] [(.ref b9), (.ref a0)])) _
    refine o_dup X9 hx hby d1_54 55 rfl rfl ?_
    refine o_iconst X9 hx hby d1_55 56 rfl (v := (0 : Int32)) rfl ?_
    refine o_lload X9 hx hby d1_56 58 rfl rfl ?_
    exact k
  obtain ⟨cl10, Ar10, q10, S10, M10, H10, G10⟩ := id f46
  have hin10 : ¬ ((0 : Int32) < 0 ∨ cl10.slots.size ≤ ((0 : Int32)).toNatClampNeg) := inb_of S10 ⟨by decide, by decide⟩
  obtain ⟨T10, h10, X10, e10, W10, st10⟩ := stJ X9 hx hZ e9 Ar10 (j := (0 : Int32)) hin10 (g := (mkF m 58 #[.val (.ref a0), .val (.long q1), .second, .val (.int p2), .val (.int p3), .val (.long v2), .second] [(.long v2), (.int (0 : Int32)), (.ref b9), (.ref b9), (.ref a0)])) rfl rfl (hb hby d1_58)
  have f47 : Exa Z h10 a0 "com/example/amortine/amortine/PeriodRate" := f37.wr W10
  have f48 : FP Z h10 a0 "wholeTerms" "[J" .null := f38.other W10 (Or.inl ne_a0_b9)
  have f49 : Old Z n0 h10 := f39.wr W10 g_b9
  have f50 : Arv Z h10 lt kt .long (19 : Int32) tL (.long (0 : Int64)) := f40.other W10 ne_lt_b9
  have f51 : Arv Z h10 lf kf .long (19 : Int32) fL (.long (0 : Int64)) := f41.other W10 ne_lf_b9
  have f52 : FP Z h10 a0 "wholeDivisor" "J" (.long v1) := f42.other W10 (Or.inl ne_a0_b9)
  have f53 : FP Z h10 a0 "rateDigits" "J" (.long q1) := f43.other W10 (Or.inl ne_a0_b9)
  have f54 : FP Z h10 a0 "rateDecimals" "I" (.int p2) := f44.other W10 (Or.inl ne_a0_b9)
  have f55 : FP Z h10 a0 "wholeTermsAsked" "Z" (.int (1 : Int32)) := f45.other W10 (Or.inl ne_a0_b9)
  have Zp10 : n0 ≤ h10.size := Nat.le_trans Zp9 (Keep.of_wr W10).1
  have K10 : Keep h0 h10 [a0] := K9.wr W10 (Or.inr sz_b9)
  have N10 := Fr.snoc X10 N8 g_b9
  have f56 : Arv Z h10 b9 k9 .long (2 : Int32) [(.long v2), (.long (0 : Int64))] (.long (0 : Int64)) := Arv.set Ar10 q10 S10 M10 H10 G10 rfl W10 0 rfl (Nat.le_of_ble_eq_true rfl)
  have go13 : Go p e below A0 (T10.setTop (mkF m 62 #[.val (.ref a0), .val (.long q1), .second, .val (.int p2), .val (.int p3), .val (.long v2), .second] [(.long q1), (.int (1 : Int32)), (.ref b9), (.ref b9), (.ref a0)])) := by
    intro t k
    refine go12 t ?_
    refine st10 _ ?_
    show Steps p.tables e below (T10.setTop (mkF m 59 #[.val (.ref a0), .val (.long q1), .second, .val (.int p2), .val (.int p3), .val (.long v2), .second] [(.ref b9), (.ref a0)])) _
    refine o_dup X10 hx hby d1_59 60 rfl rfl ?_
    refine o_iconst X10 hx hby d1_60 61 rfl (v := (1 : Int32)) rfl ?_
    refine o_lloadN X10 hx hby d1_61 62 rfl rfl ?_
    exact k
  obtain ⟨cl11, Ar11, q11, S11, M11, H11, G11⟩ := id f56
  have hin11 : ¬ ((1 : Int32) < 0 ∨ cl11.slots.size ≤ ((1 : Int32)).toNatClampNeg) := inb_of S11 ⟨by decide, by decide⟩
  obtain ⟨T11, h11, X11, e11, W11, st11⟩ := stJ X10 hx hZ e10 Ar11 (j := (1 : Int32)) hin11 (g := (mkF m 62 #[.val (.ref a0), .val (.long q1), .second, .val (.int p2), .val (.int p3), .val (.long v2), .second] [(.long q1), (.int (1 : Int32)), (.ref b9), (.ref b9), (.ref a0)])) rfl rfl (hb hby d1_62)
  have f57 : Exa Z h11 a0 "com/example/amortine/amortine/PeriodRate" := f47.wr W11
  have f58 : FP Z h11 a0 "wholeTerms" "[J" .null := f48.other W11 (Or.inl ne_a0_b9)
  have f59 : Old Z n0 h11 := f49.wr W11 g_b9
  have f60 : Arv Z h11 lt kt .long (19 : Int32) tL (.long (0 : Int64)) := f50.other W11 ne_lt_b9
  have f61 : Arv Z h11 lf kf .long (19 : Int32) fL (.long (0 : Int64)) := f51.other W11 ne_lf_b9
  have f62 : FP Z h11 a0 "wholeDivisor" "J" (.long v1) := f52.other W11 (Or.inl ne_a0_b9)
  have f63 : FP Z h11 a0 "rateDigits" "J" (.long q1) := f53.other W11 (Or.inl ne_a0_b9)
  have f64 : FP Z h11 a0 "rateDecimals" "I" (.int p2) := f54.other W11 (Or.inl ne_a0_b9)
  have f65 : FP Z h11 a0 "wholeTermsAsked" "Z" (.int (1 : Int32)) := f55.other W11 (Or.inl ne_a0_b9)
  have Zp11 : n0 ≤ h11.size := Nat.le_trans Zp10 (Keep.of_wr W11).1
  have K11 : Keep h0 h11 [a0] := K10.wr W11 (Or.inr sz_b9)
  have N11 := Fr.snoc X11 N10 g_b9
  have f66 : Arv Z h11 b9 k9 .long (2 : Int32) [(.long v2), (.long q1)] (.long (0 : Int64)) := Arv.set Ar11 q11 S11 M11 H11 G11 rfl W11 1 rfl (Nat.le_of_ble_eq_true rfl)
  have go14 : Go p e below A0 (T11.setTop (mkF m 63 #[.val (.ref a0), .val (.long q1), .second, .val (.int p2), .val (.int p3), .val (.long v2), .second] [(.ref b9), (.ref a0)])) := by
    intro t k
    refine go13 t ?_
    refine st11 _ ?_
    show Steps p.tables e below (T11.setTop (mkF m 63 #[.val (.ref a0), .val (.long q1), .second, .val (.int p2), .val (.int p3), .val (.long v2), .second] [(.ref b9), (.ref a0)])) _
    exact k
  obtain ⟨T12, h12, X12, e12, W12, st12⟩ := putF X11 hx hZ hown (host := "") (Or.inl (hw _ (List.mem_of_getElem? (i := 37) rfl))) Via.refl e11 f58 f57 (Or.inl (hw _ (List.mem_of_getElem? (i := 38) rfl))) (hw _ (List.mem_of_getElem? (i := 5) rfl)) (ty := (.array .long)) (by decide) rfl rfl (g := (mkF m 63 #[.val (.ref a0), .val (.long q1), .second, .val (.int p2), .val (.int p3), .val (.long v2), .second] [(.ref b9), (.ref a0)])) rfl rfl (hb hby d1_63)
  have f67 : Exa Z h12 a0 "com/example/amortine/amortine/PeriodRate" := f57.wr W12
  have f68 : Old Z n0 h12 := f59.wr W12 r1
  have f69 : Arv Z h12 lt kt .long (19 : Int32) tL (.long (0 : Int64)) := f60.other W12 r14
  have f70 : Arv Z h12 lf kf .long (19 : Int32) fL (.long (0 : Int64)) := f61.other W12 r15
  have f71 : FP Z h12 a0 "wholeDivisor" "J" (.long v1) := f62.other W12 (Or.inr (slot_ne (Or.inr wl18) (Or.inl wl38) (by decide) (t := .long) (t' := (.array .long)) (by decide) (by decide)))
  have f72 : FP Z h12 a0 "rateDigits" "J" (.long q1) := f63.other W12 (Or.inr (slot_ne (Or.inr wl20) (Or.inl wl38) (by decide) (t := .long) (t' := (.array .long)) (by decide) (by decide)))
  have f73 : FP Z h12 a0 "rateDecimals" "I" (.int p2) := f64.other W12 (Or.inr (slot_ne (Or.inr wl22) (Or.inl wl38) (by decide) (t := .int) (t' := (.array .long)) (by decide) (by decide)))
  have f74 : FP Z h12 a0 "wholeTermsAsked" "Z" (.int (1 : Int32)) := f65.other W12 (Or.inr (slot_ne (Or.inl wl24) (Or.inl wl38) (by decide) (t := .boolean) (t' := (.array .long)) (by decide) (by decide)))
  have f75 : Arv Z h12 b9 k9 .long (2 : Int32) [(.long v2), (.long q1)] (.long (0 : Int64)) := f66.other W12 (Ne.symm ne_a0_b9)
  have Zp12 : n0 ≤ h12.size := Nat.le_trans Zp11 (Keep.of_wr W12).1
  have K12 : Keep h0 h12 [a0] := K11.wr W12 (Or.inl (List.mem_of_getElem? (i := 0) rfl))
  have N12 := Fr.snoc X12 N11 r1
  have f76 : FP Z h12 a0 "wholeTerms" "[J" (.ref b9) := f58.same W12
  have go15 : Go p e below A0 (T12.setTop (mkF m 66 #[.val (.ref a0), .val (.long q1), .second, .val (.int p2), .val (.int p3), .val (.long v2), .second] [])) := by
    intro t k
    refine go14 t ?_
    refine st12 _ ?_
    show Steps p.tables e below (T12.setTop (mkF m 66 #[.val (.ref a0), .val (.long q1), .second, .val (.int p2), .val (.int p3), .val (.long v2), .second] [])) _
    exact k
  rw [hA0] at go15
  obtain ⟨fs, hr, hrun, hended, hW, hsame⟩ := X12.leave (v := none) (fun _ => rfl)
  refine ⟨_, _, go15 _ (X12.returnOut hx Bd.returns (hb hby d1_66) hr), hrun, hended, _, _, rfl, ?_, ⟨_, rfl⟩, hW, hsame.mono (by decide) (by decide)⟩
  show Q1 Z a0 q1 p2 p3 lt lf kt kf tL fL h0 n0 _ T12.heap _
  rw [e12]
  exact ⟨k9, v2, b9, rfl, N12, K12, sz_b9, f74, f76, f75, pl_div a0 q1 p2 p3 lt lf kt kf tL fL pa2 hp hd v1 v2 hv1 hv2, trivial⟩
theorem d9_0 : decode prog_60_method_15_code 0 = .ok (.aload_n 0, 1) := by decide +kernel
theorem d9_1 : decode prog_60_method_15_code 1 = .ok (.getfield 27, 3) := by decide +kernel
theorem d9_4 : decode prog_60_method_15_code 4 = .ok (.ifCond .ne 62, 3) := by decide +kernel
theorem d9_7 : decode prog_60_method_15_code 7 = .ok (.aload_n 0, 1) := by decide +kernel
theorem d9_8 : decode prog_60_method_15_code 8 = .ok (.iconst 1, 1) := by decide +kernel
theorem d9_9 : decode prog_60_method_15_code 9 = .ok (.putfield 27, 3) := by decide +kernel
theorem d9_12 : decode prog_60_method_15_code 12 = .ok (.aload_n 0, 1) := by decide +kernel
theorem d9_13 : decode prog_60_method_15_code 13 = .ok (.invokevirtual 70, 3) := by decide +kernel
theorem d9_16 : decode prog_60_method_15_code 16 = .ok (.invokevirtual 127, 3) := by decide +kernel
theorem d9_19 : decode prog_60_method_15_code 19 = .ok (.ifCond .lt 47, 3) := by decide +kernel
theorem d9_22 : decode prog_60_method_15_code 22 = .ok (.aload_n 0, 1) := by decide +kernel
theorem d9_23 : decode prog_60_method_15_code 23 = .ok (.invokevirtual 70, 3) := by decide +kernel
theorem d9_26 : decode prog_60_method_15_code 26 = .ok (.invokevirtual 131, 3) := by decide +kernel
theorem d9_29 : decode prog_60_method_15_code 29 = .ok (.ifCond .lt 37, 3) := by decide +kernel
theorem d9_32 : decode prog_60_method_15_code 32 = .ok (.aload_n 0, 1) := by decide +kernel
theorem d9_33 : decode prog_60_method_15_code 33 = .ok (.aload_n 0, 1) := by decide +kernel
theorem d9_34 : decode prog_60_method_15_code 34 = .ok (.invokevirtual 70, 3) := by decide +kernel
theorem d9_37 : decode prog_60_method_15_code 37 = .ok (.invokestatic 134, 3) := by decide +kernel
theorem d9_40 : decode prog_60_method_15_code 40 = .ok (.aload_n 0, 1) := by decide +kernel
theorem d9_41 : decode prog_60_method_15_code 41 = .ok (.invokevirtual 70, 3) := by decide +kernel
theorem d9_44 : decode prog_60_method_15_code 44 = .ok (.invokevirtual 131, 3) := by decide +kernel
theorem d9_47 : decode prog_60_method_15_code 47 = .ok (.aload_n 0, 1) := by decide +kernel
theorem d9_48 : decode prog_60_method_15_code 48 = .ok (.getfield 17, 3) := by decide +kernel
theorem d9_51 : decode prog_60_method_15_code 51 = .ok (.invokestatic 138, 3) := by decide +kernel
theorem d9_54 : decode prog_60_method_15_code 54 = .ok (.putfield 35, 3) := by decide +kernel
theorem d9_57 : decode prog_60_method_15_code 57 = .ok (.goto 9, 3) := by decide +kernel
theorem d9_60 : decode prog_60_method_15_code 60 = .ok (.astore_n 1, 1) := by decide +kernel
theorem d9_61 : decode prog_60_method_15_code 61 = .ok (.aload_n 0, 1) := by decide +kernel
theorem d9_62 : decode prog_60_method_15_code 62 = .ok (.aconst_null, 1) := by decide +kernel
theorem d9_63 : decode prog_60_method_15_code 63 = .ok (.putfield 35, 3) := by decide +kernel
theorem d9_66 : decode prog_60_method_15_code 66 = .ok (.aload_n 0, 1) := by decide +kernel
theorem d9_67 : decode prog_60_method_15_code 67 = .ok (.getfield 35, 3) := by decide +kernel
theorem d9_70 : decode prog_60_method_15_code 70 = .ok (.areturn, 1) := by decide +kernel
theorem ef_9 (m : MethodId) (x0 : Addr) : entryFrame m #[(.ref x0)] 2 = mkF m 0 #[.val (.ref x0), .unset] [] := by first | (simp [entryFrame, mkF, argsToLocals, Value.category]; done) | rfl
def Q9 (Z : State) (a0 : Addr) (b : Addr) (h0 : Heap) (n0 : Nat) (v : Option Value) (h : Heap) (L : List Loc) : Prop := v = some (.ref b) ∧ Fr n0 L ∧ h = h0
set_option maxRecDepth 65536 in
set_option maxHeartbeats 40000000 in
theorem rm9 (l : Launch) (Z : State) (aw : Array Value) (hw : ∀ d ∈ tables_1, d.before aw Z = true) (ws : List Jvm.Cond) (a0 : Addr) (b : Addr) (h0 : Heap) (n0 : Nat) (Z0 : n0 ≤ h0.size) (r0 : FP Z h0 a0 "wholeTermsAsked" "Z" (.int (1 : Int32))) (r1 : FP Z h0 a0 "wholeTerms" "[J" (.ref b)) :
    MetFree l (⟨"com/example/amortine/amortine/PeriodRate", "wholeTerms", "()[J"⟩ : MethodName) (head1 (Jvm.Cond.codeWith (⟨"com/example/amortine/amortine/PeriodRate", "wholeTerms", "()[J"⟩ : MethodName) prog_60_method_15_code 2 (Option.some (Jvm.ClassFile.FieldType.array Jvm.ClassFile.FieldType.long)) [((32 : Nat), (57 : Nat), (60 : Nat), (107 : Nat))] :: ws) ({ frames := 0, cells := 0, slots := 0, locals := 0 } : Room)) (fun a U => a = #[(.ref a0)] ∧ Z.Warmed39 U.vm ∧ U.heap = h0) (fun _ _ _ _ _ => True) (fun _ U o U' => ∃ v L, o = .returned v ∧ Q9 Z a0 b h0 n0 v U'.heap L ∧ FrameEnd U o U' L ({ frames := 0, cells := 0, slots := 0, locals := 0 } : Room).cells ({ frames := 0, cells := 0, slots := 0, locals := 0 } : Room).slots) := by
  refine MetFree.of_bodySF (plainFor_of_name pn_3) hisWith ?_
  intro p e s m args below meth c s₁ Bd hml0 hP hK
  obtain ⟨rfl, hZ, hh⟩ := hP
  have hx := Bd.exec
  have hby := Bd.bytes
  have hml : c.maxLocals = 2 := hml0
  have hown : s.vm.findClass "com/example/amortine/amortine/PeriodRate" = some m.cls := findClass_of_methodNamed Bd.named
  have hnm := (name_of_methodNamed Bd.named Bd.method).1
  have X0 : Stand p l e ({ frames := 0, cells := 0, slots := 0, locals := 0 } : Room) s m #[(.ref a0)] below meth c s₁ [] 0 0 := Stand.of_body Bd
  have e0 : s₁.heap = h0 := by rw [← hh, Bd.state]; rfl
  have N0 := Fr.nil n0
  obtain ⟨A0, hA0⟩ : ∃ A0, A0 = s₁.setTop (entryFrame m #[(.ref a0)] 2) := ⟨_, rfl⟩
  have go0 : Go p e below A0 (s₁.setTop (mkF m 0 #[.val (.ref a0), .unset] [])) := fun t k => by rw [hA0]; exact castTop (ef_9 m a0) k
  obtain ⟨T1, X1, e1, st1⟩ := getF X0 hx hZ hown (host := "") (Or.inl (hw _ (List.mem_of_getElem? (i := 23) rfl))) Via.refl e0 r0 (g := (mkF m 1 #[.val (.ref a0), .unset] [(.ref a0)])) rfl rfl (hb hby d9_1)
  obtain ⟨T2, X2, e2, st2⟩ := getF X1 hx hZ hown (host := "") (Or.inl (hw _ (List.mem_of_getElem? (i := 37) rfl))) Via.refl e1 r1 (g := (mkF m 67 #[.val (.ref a0), .unset] [(.ref a0)])) rfl rfl (hb hby d9_67)
  have go1 : Go p e below A0 (T2.setTop (mkF m 70 #[.val (.ref a0), .unset] [(.ref b)])) := by
    intro t k
    refine go0 t ?_
    refine o_aloadN X0 hx hby d9_0 1 rfl rfl rfl ?_
    refine st1 _ ?_
    show Steps p.tables e below (T1.setTop (mkF m 4 #[.val (.ref a0), .unset] [(.int (1 : Int32))])) _
    refine o_ifY X1 hx hby d9_4 66 rfl (feq (show ¬ ((1 : Int32) = (0 : Int32)) by decide)).2 ?_
    refine o_aloadN X1 hx hby d9_66 67 rfl rfl rfl ?_
    refine st2 _ ?_
    show Steps p.tables e below (T2.setTop (mkF m 70 #[.val (.ref a0), .unset] [(.ref b)])) _
    exact k
  rw [hA0] at go1
  obtain ⟨fs, hr, hrun, hended, hW, hsame⟩ := X2.leave (v := some (.ref b)) (fun h => by rw [Bd.returns] at h; cases h)
  refine ⟨_, _, go1 _ (o_retR X2 hx Bd.returns rfl (hb hby d9_70) rfl rfl hr), hrun, hended, _, _, rfl, ?_, ⟨_, rfl⟩, hW, hsame.mono (by decide) (by decide)⟩
  show Q9 Z a0 b h0 n0 _ T2.heap _
  rw [e2]
  exact ⟨rfl, N0, rfl⟩
theorem d10_0 : decode prog_19_method_13_code 0 = .ok (.lload_n 2, 1) := by decide +kernel
theorem d10_1 : decode prog_19_method_13_code 1 = .ok (.lstore 4, 2) := by decide +kernel
theorem d10_3 : decode prog_19_method_13_code 3 = .ok (.lload_n 0, 1) := by decide +kernel
theorem d10_4 : decode prog_19_method_13_code 4 = .ok (.lstore 6, 2) := by decide +kernel
theorem d10_6 : decode prog_19_method_13_code 6 = .ok (.lload 6, 2) := by decide +kernel
theorem d10_8 : decode prog_19_method_13_code 8 = .ok (.lconst 0, 1) := by decide +kernel
theorem d10_9 : decode prog_19_method_13_code 9 = .ok (.lcmp, 1) := by decide +kernel
theorem d10_10 : decode prog_19_method_13_code 10 = .ok (.ifCond .eq 21, 3) := by decide +kernel
theorem d10_13 : decode prog_19_method_13_code 13 = .ok (.lload 4, 2) := by decide +kernel
theorem d10_15 : decode prog_19_method_13_code 15 = .ok (.lload 6, 2) := by decide +kernel
theorem d10_17 : decode prog_19_method_13_code 17 = .ok (.lrem, 1) := by decide +kernel
theorem d10_18 : decode prog_19_method_13_code 18 = .ok (.lstore 8, 2) := by decide +kernel
theorem d10_20 : decode prog_19_method_13_code 20 = .ok (.lload 6, 2) := by decide +kernel
theorem d10_22 : decode prog_19_method_13_code 22 = .ok (.lstore 4, 2) := by decide +kernel
theorem d10_24 : decode prog_19_method_13_code 24 = .ok (.lload 8, 2) := by decide +kernel
theorem d10_26 : decode prog_19_method_13_code 26 = .ok (.lstore 6, 2) := by decide +kernel
theorem d10_28 : decode prog_19_method_13_code 28 = .ok (.goto (-22), 3) := by decide +kernel
theorem d10_31 : decode prog_19_method_13_code 31 = .ok (.lload 4, 2) := by decide +kernel
theorem d10_33 : decode prog_19_method_13_code 33 = .ok (.lreturn, 1) := by decide +kernel
theorem ef_10 (m : MethodId) (x0 : Int64) (x1 : Int64) : entryFrame m #[(.long x0), (.long x1)] 10 = mkF m 0 #[.val (.long x0), .second, .val (.long x1), .second, .unset, .unset, .unset, .unset, .unset, .unset] [] := by first | (simp [entryFrame, mkF, argsToLocals, Value.category]; done) | rfl
set_option maxRecDepth 65536 in
set_option maxHeartbeats 4000000 in
theorem pf10_nz17_0 (q0 : Int64) (q1 : Int64) (y4 : Int64) (y6 : Int64) (hz : ¬ (y6 = (0 : Int64))) : ¬ (y6 = (0 : Int64)) := by
  exact hz
def Q10 (Z : State) (q0 : Int64) (q1 : Int64) (h0 : Heap) (n0 : Nat) (v : Option Value) (h : Heap) (L : List Loc) : Prop := ∃ r : Int64, v = some (.long r) ∧ Fr n0 L ∧ h = h0 ∧ (own_g q1 q0 r) ∧ True
set_option maxRecDepth 65536 in
set_option maxHeartbeats 40000000 in
theorem rm10 (l : Launch) (Z : State) (aw : Array Value) (hw : ∀ d ∈ tables_1, d.before aw Z = true) (ws : List Jvm.Cond) (q0 : Int64) (q1 : Int64) (h0 : Heap) (n0 : Nat) (Z0 : n0 ≤ h0.size) (pa0 : (0 < q0.toInt)) (pa1 : (0 < q1.toInt)) :
    MetFree l (⟨"com/example/amortine/amortine/Decimals", "gcd", "(JJ)J"⟩ : MethodName) (head1 (Jvm.Cond.code (⟨"com/example/amortine/amortine/Decimals", "gcd", "(JJ)J"⟩ : MethodName) prog_19_method_13_code 10 (some .long) :: ws) ({ frames := 0, cells := 0, slots := 0, locals := 0 } : Room)) (fun a U => a = #[(.long q0), (.long q1)] ∧ Z.Warmed39 U.vm ∧ U.heap = h0) (fun _ _ _ _ _ => True) (fun _ U o U' => ∃ v L, o = .returned v ∧ Q10 Z q0 q1 h0 n0 v U'.heap L ∧ FrameEnd U o U' L ({ frames := 0, cells := 0, slots := 0, locals := 0 } : Room).cells ({ frames := 0, cells := 0, slots := 0, locals := 0 } : Room).slots) := by
  refine MetFree.of_bodySF (plainFor_of_name pn_5) hisR ?_
  intro p e s m args below meth c s₁ Bd hml0 hP hK
  obtain ⟨rfl, hZ, hh⟩ := hP
  have hx := Bd.exec
  have hby := Bd.bytes
  have hml : c.maxLocals = 10 := hml0
  have hown : s.vm.findClass "com/example/amortine/amortine/Decimals" = some m.cls := findClass_of_methodNamed Bd.named
  have hnm := (name_of_methodNamed Bd.named Bd.method).1
  have X0 : Stand p l e ({ frames := 0, cells := 0, slots := 0, locals := 0 } : Room) s m #[(.long q0), (.long q1)] below meth c s₁ [] 0 0 := Stand.of_body Bd
  have e0 : s₁.heap = h0 := by rw [← hh, Bd.state]; rfl
  have N0 := Fr.nil n0
  obtain ⟨A0, hA0⟩ : ∃ A0, A0 = s₁.setTop (entryFrame m #[(.long q0), (.long q1)] 10) := ⟨_, rfl⟩
  have go0 : Go p e below A0 (s₁.setTop (mkF m 0 #[.val (.long q0), .second, .val (.long q1), .second, .unset, .unset, .unset, .unset, .unset, .unset] [])) := fun t k => by rw [hA0]; exact castTop (ef_10 m q0 q1) k
  have go1 : Go p e below A0 (s₁.setTop (mkF m 3 #[.val (.long q0), .second, .val (.long q1), .second, .val (.long q1), .second, .unset, .unset, .unset, .unset] [])) := by
    intro t k
    refine go0 t ?_
    refine o_lloadN X0 hx hby d10_0 1 rfl rfl ?_
    refine o_lstore X0 hx hby d10_1 3 rfl (l' := #[.val (.long q0), .second, .val (.long q1), .second, .val (.long q1), .second, .unset, .unset, .unset, .unset]) rfl ?_
    exact k
  have go2 : Go p e below A0 (s₁.setTop (mkF m 6 #[.val (.long q0), .second, .val (.long q1), .second, .val (.long q1), .second, .val (.long q0), .second, .unset, .unset] [])) := by
    intro t k
    refine go1 t ?_
    refine o_lloadN X0 hx hby d10_3 4 rfl rfl ?_
    refine o_lstore X0 hx hby d10_4 6 rfl (l' := #[.val (.long q0), .second, .val (.long q1), .second, .val (.long q1), .second, .val (.long q0), .second, .unset, .unset]) rfl ?_
    exact k
  have loop : ∀ (n : Nat) (y4 y6 : Int64) (x8 x9 : Slot), ((x8 = .unset ∧ x9 = .unset) ∨ ∃ y : Int64, x8 = .val (.long y) ∧ x9 = .second) → 0 < y4.toInt → 0 ≤ y6.toInt → y6.toInt ≤ (n : Int) → Go p e below A0 (s₁.setTop (mkF m 6 #[.val (.long q0), .second, .val (.long q1), .second, .val (.long y4), .second, .val (.long y6), .second, x8, x9] [])) → ∃ (w4 w6 : Int64) (w8 w9 : Slot), own_g y4 y6 w4 ∧ Go p e below A0 (s₁.setTop (mkF m 31 #[.val (.long q0), .second, .val (.long q1), .second, .val (.long w4), .second, .val (.long w6), .second, w8, w9] [])) := by
    intro n; induction n with
    | zero => 
      intro y4 y6 x8 x9 h8 hp hq hn gl
      have hz : y6 = (0 : Int64) := own_z0 hq hn
      have go3 : Go p e below A0 (s₁.setTop (mkF m 31 #[.val (.long q0), .second, .val (.long q1), .second, .val (.long y4), .second, .val (.long y6), .second, x8, x9] [])) := by
        intro t k
        refine gl t ?_
        refine o_lload X0 hx hby d10_6 8 rfl rfl ?_
        refine o_lconst X0 hx hby d10_8 9 rfl (v := (0 : Int64)) rfl ?_
        refine o_lcmp X0 hx hby d10_9 10 rfl ?_
        refine o_ifY X0 hx hby d10_10 31 rfl (teq ((lw_eq y6 (0 : Int64)).mpr hz)).1 ?_
        exact k
      exact ⟨y4, y6, x8, x9, own_g0 hp hz, go3⟩
    | succ n ih => 
      intro y4 y6 x8 x9 h8 hp hq hn gl
      by_cases hz : y6 = (0 : Int64)
      · have go4 : Go p e below A0 (s₁.setTop (mkF m 31 #[.val (.long q0), .second, .val (.long q1), .second, .val (.long y4), .second, .val (.long y6), .second, x8, x9] [])) := by
          intro t k
          refine gl t ?_
          refine o_lload X0 hx hby d10_6 8 rfl rfl ?_
          refine o_lconst X0 hx hby d10_8 9 rfl (v := (0 : Int64)) rfl ?_
          refine o_lcmp X0 hx hby d10_9 10 rfl ?_
          refine o_ifY X0 hx hby d10_10 31 rfl (teq ((lw_eq y6 (0 : Int64)).mpr hz)).1 ?_
          exact k
        exact ⟨y4, y6, x8, x9, own_g0 hp hz, go4⟩
      · have go5 : Go p e below A0 (s₁.setTop (mkF m 17 #[.val (.long q0), .second, .val (.long q1), .second, .val (.long y4), .second, .val (.long y6), .second, x8, x9] [(.long y6), (.long y4)])) := by
          intro t k
          refine gl t ?_
          refine o_lload X0 hx hby d10_6 8 rfl rfl ?_
          refine o_lconst X0 hx hby d10_8 9 rfl (v := (0 : Int64)) rfl ?_
          refine o_lcmp X0 hx hby d10_9 10 rfl ?_
          refine o_ifN X0 hx hby d10_10 13 rfl (feq (fun q => hz ((lw_eq y6 (0 : Int64)).mp q))).1 ?_
          refine o_lload X0 hx hby d10_13 15 rfl rfl ?_
          refine o_lload X0 hx hby d10_15 17 rfl rfl ?_
          exact k
        have f_nz17_1 : ¬ (y6 = (0 : Int64)) := pf10_nz17_0 q0 q1 y4 y6 hz
        have go6 : Go p e below A0 (s₁.setTop (mkF m 20 #[.val (.long q0), .second, .val (.long q1), .second, .val (.long y4), .second, .val (.long y6), .second, .val (.long (y4 % y6)), .second] [])) := by
          intro t k
          refine go5 t ?_
          refine o_lrem X0 hx hby d10_17 18 rfl f_nz17_1 ?_
          refine o_lstore X0 hx hby d10_18 20 rfl (l' := #[.val (.long q0), .second, .val (.long q1), .second, .val (.long y4), .second, .val (.long y6), .second, .val (.long (y4 % y6)), .second]) (by rcases h8 with ⟨rfl, rfl⟩ | ⟨y, rfl, rfl⟩ <;> rfl) ?_
          exact k
        obtain ⟨v1, hv1, go7⟩ : ∃ v1 : Int64, v1 = (y4 % y6) ∧ Go p e below A0 (s₁.setTop (mkF m 20 #[.val (.long q0), .second, .val (.long q1), .second, .val (.long y4), .second, .val (.long y6), .second, .val (.long v1), .second] [])) := ⟨_, rfl, go6⟩
        have go8 : Go p e below A0 (s₁.setTop (mkF m 24 #[.val (.long q0), .second, .val (.long q1), .second, .val (.long y6), .second, .val (.long y6), .second, .val (.long v1), .second] [])) := by
          intro t k
          refine go7 t ?_
          refine o_lload X0 hx hby d10_20 22 rfl rfl ?_
          refine o_lstore X0 hx hby d10_22 24 rfl (l' := #[.val (.long q0), .second, .val (.long q1), .second, .val (.long y6), .second, .val (.long y6), .second, .val (.long v1), .second]) rfl ?_
          exact k
        have go9 : Go p e below A0 (s₁.setTop (mkF m 28 #[.val (.long q0), .second, .val (.long q1), .second, .val (.long y6), .second, .val (.long v1), .second, .val (.long v1), .second] [])) := by
          intro t k
          refine go8 t ?_
          refine o_lload X0 hx hby d10_24 26 rfl rfl ?_
          refine o_lstore X0 hx hby d10_26 28 rfl (l' := #[.val (.long q0), .second, .val (.long q1), .second, .val (.long y6), .second, .val (.long v1), .second, .val (.long v1), .second]) rfl ?_
          exact k
        have go10 : Go p e below A0 (s₁.setTop (mkF m 6 #[.val (.long q0), .second, .val (.long q1), .second, .val (.long y6), .second, .val (.long v1), .second, .val (.long v1), .second] [])) := by
          intro t k
          refine go9 t ?_
          refine o_goto X0 hx hby d10_28 6 rfl ?_
          exact k
        obtain ⟨w4, w6, w8, w9, hr, gw⟩ := ih y6 v1 (.val (.long v1)) (.second) (Or.inr ⟨_, rfl, rfl⟩) (own_gp hq hz) (own_gr hp hq hz hv1).1 (own_gn (own_gr hp hq hz hv1).2 hn) go10
        exact ⟨w4, w6, w8, w9, own_gs hp hq hz hv1 hr, gw⟩
  obtain ⟨w4, w6, w8, w9, hrw, gw⟩ := loop q0.toInt.toNat q1 q0 .unset .unset (Or.inl ⟨rfl, rfl⟩) pa1 (Int.le_of_lt pa0) (Int.self_le_toNat _) go2
  have go11 : Go p e below A0 (s₁.setTop (mkF m 33 #[.val (.long q0), .second, .val (.long q1), .second, .val (.long w4), .second, .val (.long w6), .second, w8, w9] [(.long w4)])) := by
    intro t k
    refine gw t ?_
    refine o_lload X0 hx hby d10_31 33 rfl rfl ?_
    exact k
  rw [hA0] at go11
  obtain ⟨fs, hr, hrun, hended, hW, hsame⟩ := X0.leave (v := some (.long w4)) (fun h => by rw [Bd.returns] at h; cases h)
  refine ⟨_, _, go11 _ (o_retJ X0 hx Bd.returns (hb hby d10_33) hr), hrun, hended, _, _, rfl, ?_, ⟨_, rfl⟩, hW, hsame.mono (by decide) (by decide)⟩
  show Q10 Z q0 q1 h0 n0 _ s₁.heap _
  rw [e0]
  exact ⟨w4, rfl, N0, rfl, hrw, trivial⟩
theorem d8_0 : decode prog_60_method_14_code 0 = .ok (.aload_n 0, 1) := by decide +kernel
theorem d8_1 : decode prog_60_method_14_code 1 = .ok (.invokevirtual 112, 3) := by decide +kernel
theorem d8_4 : decode prog_60_method_14_code 4 = .ok (.astore_n 1, 1) := by decide +kernel
theorem d8_5 : decode prog_60_method_14_code 5 = .ok (.aconst_null, 1) := by decide +kernel
theorem d8_6 : decode prog_60_method_14_code 6 = .ok (.astore_n 2, 1) := by decide +kernel
theorem d8_7 : decode prog_60_method_14_code 7 = .ok (.aload_n 1, 1) := by decide +kernel
theorem d8_8 : decode prog_60_method_14_code 8 = .ok (.ifnull 33, 3) := by decide +kernel
theorem d8_11 : decode prog_60_method_14_code 11 = .ok (.aload_n 1, 1) := by decide +kernel
theorem d8_12 : decode prog_60_method_14_code 12 = .ok (.iconst 1, 1) := by decide +kernel
theorem d8_13 : decode prog_60_method_14_code 13 = .ok (.laload, 1) := by decide +kernel
theorem d8_14 : decode prog_60_method_14_code 14 = .ok (.aload_n 1, 1) := by decide +kernel
theorem d8_15 : decode prog_60_method_14_code 15 = .ok (.iconst 0, 1) := by decide +kernel
theorem d8_16 : decode prog_60_method_14_code 16 = .ok (.laload, 1) := by decide +kernel
theorem d8_17 : decode prog_60_method_14_code 17 = .ok (.invokestatic 123, 3) := by decide +kernel
theorem d8_20 : decode prog_60_method_14_code 20 = .ok (.lstore_n 3, 1) := by decide +kernel
theorem d8_21 : decode prog_60_method_14_code 21 = .ok (.iconst 2, 1) := by decide +kernel
theorem d8_22 : decode prog_60_method_14_code 22 = .ok (.newarray .long, 2) := by decide +kernel
theorem d8_24 : decode prog_60_method_14_code 24 = .ok (.dup, 1) := by decide +kernel
theorem d8_25 : decode prog_60_method_14_code 25 = .ok (.iconst 0, 1) := by decide +kernel
theorem d8_26 : decode prog_60_method_14_code 26 = .ok (.aload_n 1, 1) := by decide +kernel
theorem d8_27 : decode prog_60_method_14_code 27 = .ok (.iconst 1, 1) := by decide +kernel
theorem d8_28 : decode prog_60_method_14_code 28 = .ok (.laload, 1) := by decide +kernel
theorem d8_29 : decode prog_60_method_14_code 29 = .ok (.lload_n 3, 1) := by decide +kernel
theorem d8_30 : decode prog_60_method_14_code 30 = .ok (.ldiv, 1) := by decide +kernel
theorem d8_31 : decode prog_60_method_14_code 31 = .ok (.lastore, 1) := by decide +kernel
theorem d8_32 : decode prog_60_method_14_code 32 = .ok (.dup, 1) := by decide +kernel
theorem d8_33 : decode prog_60_method_14_code 33 = .ok (.iconst 1, 1) := by decide +kernel
theorem d8_34 : decode prog_60_method_14_code 34 = .ok (.aload_n 1, 1) := by decide +kernel
theorem d8_35 : decode prog_60_method_14_code 35 = .ok (.iconst 0, 1) := by decide +kernel
theorem d8_36 : decode prog_60_method_14_code 36 = .ok (.laload, 1) := by decide +kernel
theorem d8_37 : decode prog_60_method_14_code 37 = .ok (.lload_n 3, 1) := by decide +kernel
theorem d8_38 : decode prog_60_method_14_code 38 = .ok (.ldiv, 1) := by decide +kernel
theorem d8_39 : decode prog_60_method_14_code 39 = .ok (.lastore, 1) := by decide +kernel
theorem d8_40 : decode prog_60_method_14_code 40 = .ok (.astore_n 2, 1) := by decide +kernel
theorem d8_41 : decode prog_60_method_14_code 41 = .ok (.aload_n 2, 1) := by decide +kernel
theorem d8_42 : decode prog_60_method_14_code 42 = .ok (.areturn, 1) := by decide +kernel
theorem pd_7 : parseMethodDescriptor "()[J" = some ⟨[], some (.array .long)⟩ := by decide +kernel
theorem pd_8 : parseMethodDescriptor "(JJ)J" = some ⟨[.long, .long], some .long⟩ := by decide +kernel
theorem ef_8 (m : MethodId) (x0 : Addr) : entryFrame m #[(.ref x0)] 5 = mkF m 0 #[.val (.ref x0), .unset, .unset, .unset, .unset] [] := by first | (simp [entryFrame, mkF, argsToLocals, Value.category]; done) | rfl
set_option maxRecDepth 65536 in
set_option maxHeartbeats 4000000 in
theorem pf8_nz30_0 (a0 : Addr) (b : Addr) (kb : ClassId) (x0 : Int64) (x1 : Int64) (pa0 : 0 < x0.toInt ∧ x0.toInt ≤ 120000) (pa1 : 0 < x1.toInt ∧ x1.toInt ≤ 4096) (r4_r : Int64) (qf4_0 : own_g x0 x1 r4_r) : ¬ (r4_r = (0 : Int64)) := by
  exact own_gnz pa0 pa1 qf4_0
set_option maxRecDepth 65536 in
set_option maxHeartbeats 4000000 in
theorem pf8_nz38_1 (a0 : Addr) (b : Addr) (kb : ClassId) (x0 : Int64) (x1 : Int64) (pa0 : 0 < x0.toInt ∧ x0.toInt ≤ 120000) (pa1 : 0 < x1.toInt ∧ x1.toInt ≤ 4096) (r4_r : Int64) (v1 : Int64) (hv1 : v1 = (x1 / r4_r)) (qf4_0 : own_g x0 x1 r4_r) : ¬ (r4_r = (0 : Int64)) := by
  exact own_gnz pa0 pa1 qf4_0
set_option maxRecDepth 65536 in
set_option maxHeartbeats 4000000 in
theorem pl_rate (a0 : Addr) (b : Addr) (kb : ClassId) (x0 : Int64) (x1 : Int64) (pa0 : 0 < x0.toInt ∧ x0.toInt ≤ 120000) (pa1 : 0 < x1.toInt ∧ x1.toInt ≤ 4096) (r4_r : Int64) (v1 : Int64) (v2 : Int64) (hv1 : v1 = (x1 / r4_r)) (hv2 : v2 = (x0 / r4_r)) (qf4_0 : own_g x0 x1 r4_r) : own_rate v1 v2 := by
  exact own_rt pa0 pa1 qf4_0 hv1 hv2
def Q8 (Z : State) (a0 : Addr) (b : Addr) (kb : ClassId) (x0 : Int64) (x1 : Int64) (h0 : Heap) (n0 : Nat) (v : Option Value) (h : Heap) (L : List Loc) : Prop := ∃ kc : ClassId, ∃ n : Int64, ∃ d : Int64, ∃ c : Addr, v = some (.ref c) ∧ Fr n0 L ∧ Keep h0 h [] ∧ h0.size ≤ c ∧ Arv Z h c kc .long (2 : Int32) [(.long n), (.long d)] (.long (0 : Int64)) ∧ (own_rate n d) ∧ True
set_option maxRecDepth 65536 in
set_option maxHeartbeats 40000000 in
theorem rm8 (l : Launch) (Z : State) (aw : Array Value) (hw : ∀ d ∈ tables_1, d.before aw Z = true) (ws : List Jvm.Cond) (a0 : Addr) (b : Addr) (kb : ClassId) (x0 : Int64) (x1 : Int64) (h0 : Heap) (n0 : Nat) (Z0 : n0 ≤ h0.size) (r0 : Exa Z h0 a0 "com/example/amortine/amortine/PeriodRate") (r1 : FP Z h0 a0 "wholeTermsAsked" "Z" (.int (1 : Int32))) (r2 : FP Z h0 a0 "wholeTerms" "[J" (.ref b)) (r3 : Arv Z h0 b kb .long (2 : Int32) [(.long x0), (.long x1)] (.long (0 : Int64))) (pa0 : (0 < x0.toInt ∧ x0.toInt ≤ 120000)) (pa1 : (0 < x1.toInt ∧ x1.toInt ≤ 4096)) :
    MetFree l (⟨"com/example/amortine/amortine/PeriodRate", "perPeriodInLongs", "()[J"⟩ : MethodName) (head1 (Jvm.Cond.code (⟨"com/example/amortine/amortine/PeriodRate", "perPeriodInLongs", "()[J"⟩ : MethodName) prog_60_method_14_code 5 (some (.array .long)) :: ws) ({ frames := 1, cells := 1, slots := 2, locals := 21 } : Room)) (fun a U => a = #[(.ref a0)] ∧ Z.Warmed39 U.vm ∧ U.heap = h0) (fun _ _ _ _ _ => True) (fun _ U o U' => ∃ v L, o = .returned v ∧ Q8 Z a0 b kb x0 x1 h0 n0 v U'.heap L ∧ FrameEnd U o U' L ({ frames := 1, cells := 1, slots := 2, locals := 21 } : Room).cells ({ frames := 1, cells := 1, slots := 2, locals := 21 } : Room).slots) := by
  refine MetFree.of_bodySF (plainFor_of_name pn_3) hisR ?_
  intro p e s m args below meth c s₁ Bd hml0 hP hK
  obtain ⟨rfl, hZ, hh⟩ := hP
  have hx := Bd.exec
  have hby := Bd.bytes
  have hml : c.maxLocals = 5 := hml0
  have hown : s.vm.findClass "com/example/amortine/amortine/PeriodRate" = some m.cls := findClass_of_methodNamed Bd.named
  have hnm := (name_of_methodNamed Bd.named Bd.method).1
  have X0 : Stand p l e ({ frames := 1, cells := 1, slots := 2, locals := 21 } : Room) s m #[(.ref a0)] below meth c s₁ [] 0 0 := Stand.of_body Bd
  have e0 : s₁.heap = h0 := by rw [← hh, Bd.state]; rfl
  have N0 := Fr.nil n0
  obtain ⟨A0, hA0⟩ : ∃ A0, A0 = s₁.setTop (entryFrame m #[(.ref a0)] 5) := ⟨_, rfl⟩
  have go0 : Go p e below A0 (s₁.setTop (mkF m 0 #[.val (.ref a0), .unset, .unset, .unset, .unset] [])) := fun t k => by rw [hA0]; exact castTop (ef_8 m a0) k
  obtain ⟨cq1, kq1, q1a, q1b, q1c⟩ := isOf hZ e0 r0
  obtain ⟨_, _, ⟨T1, L1, k1, n1⟩, -, X1, ⟨Lc1, hQ1, l1, y1, z1⟩, st1⟩ := X0.virtualBack hx (y := (⟨"com/example/amortine/amortine/PeriodRate", "wholeTerms", "()[J"⟩ : MethodName)) (z := (⟨"com/example/amortine/amortine/PeriodRate", "wholeTerms", "()[J"⟩ : MethodName)) hown (mvT hZ (hw _ (List.mem_of_getElem? (i := 67) rfl))) (mvT hZ (hw _ (List.mem_of_getElem? (i := 68) rfl))) (notFace_of_selects (args := #[]) (mvT hZ (hw _ (List.mem_of_getElem? (i := 70) rfl)))) (mvT hZ (hw _ (List.mem_of_getElem? (i := 70) rfl))) (mvT hZ (hw _ (List.mem_of_getElem? (i := 69) rfl))) (by decide) (backOfWith (W := 0) (rm9 l Z aw hw [] a0 b h0 n0 Z0 (r1) (r2)) hZ (hw _ (List.mem_of_getElem? (i := 71) rfl)) (hw _ (List.mem_of_getElem? (i := 6) rfl)) (by decide) (by decide)) q1a q1c (g := (mkF m 1 #[.val (.ref a0), .unset, .unset, .unset, .unset] [(.ref a0)])) rfl (by rw [hml]; rfl) (Steps.refl _) (argsL := []) (rest := []) (lenOf pd_7 rfl) rfl (by show 2 * 0 + _ ≤ _; exact Nat.le_of_eq rfl) (hb hby d8_1) (fun _ _ => ⟨rfl, e0, (by decide : 0 + 0 ≤ _), (by decide : 0 + 0 ≤ _)⟩)
  dsimp only [Pt.U, Pt.locs, Pt.cells, Pt.slots] at X1 l1 y1 z1 st1 hQ1
  obtain rfl : k1 = 0 := y1
  obtain rfl : n1 = 0 := z1
  obtain ⟨rfl, N1q, e1⟩ := hQ1
  have N1 : Fr n0 L1 := by rw [l1]; exact Fr.app N0 N1q
  have go1 : Go p e below A0 (T1.setTop (mkF m 4 #[.val (.ref a0), .unset, .unset, .unset, .unset] [(.ref b)])) := by
    intro t k
    refine go0 t ?_
    refine o_aloadN X0 hx hby d8_0 1 rfl rfl rfl ?_
    refine st1.trans ?_
    show Steps p.tables e below (T1.setTop (mkF m 4 #[.val (.ref a0), .unset, .unset, .unset, .unset] [(.ref b)])) _
    exact k
  obtain ⟨cl2, Ar2, q2, S2, M2, H2, G2⟩ := id r3
  have hin2 : ¬ ((1 : Int32) < 0 ∨ cl2.slots.size ≤ ((1 : Int32)).toNatClampNeg) := inb_of S2 ⟨by decide, by decide⟩
  have hat2 : cl2.slots[((1 : Int32)).toNatClampNeg]? = some (.long x1) := H2.at hin2 rfl
  obtain ⟨cl3, Ar3, q3, S3, M3, H3, G3⟩ := id r3
  have hin3 : ¬ ((0 : Int32) < 0 ∨ cl3.slots.size ≤ ((0 : Int32)).toNatClampNeg) := inb_of S3 ⟨by decide, by decide⟩
  have hat3 : cl3.slots[((0 : Int32)).toNatClampNeg]? = some (.long x0) := H3.at hin3 rfl
  have go2 : Go p e below A0 (T1.setTop (mkF m 17 #[.val (.ref a0), .val (.ref b), .val .null, .unset, .unset] [(.long x0), (.long x1)])) := by
    intro t k
    refine go1 t ?_
    refine o_astoreN X1 hx hby d8_4 5 rfl rfl (l' := #[.val (.ref a0), .val (.ref b), .unset, .unset, .unset]) rfl ?_
    refine o_aconstNull X1 hx hby d8_5 6 rfl ?_
    refine o_astoreN X1 hx hby d8_6 7 rfl rfl (l' := #[.val (.ref a0), .val (.ref b), .val .null, .unset, .unset]) rfl ?_
    refine o_aloadN X1 hx hby d8_7 8 rfl rfl rfl ?_
    refine o_ifnullN X1 hx hby d8_8 11 rfl ?_
    refine o_aloadN X1 hx hby d8_11 12 rfl rfl rfl ?_
    refine o_iconst X1 hx hby d8_12 13 rfl (v := (1 : Int32)) rfl ?_
    refine X1.laload hx (j := (1 : Int32)) (v := (.long x1)) (by rw [e1]; exact Ar2.1) (State.isArrayOf_alike hZ.alike Ar2.2.1) Ar2.2.2 hin2 hat2 (g := (mkF m 13 #[.val (.ref a0), .val (.ref b), .val .null, .unset, .unset] [(.int (1 : Int32)), (.ref b)])) rfl rfl (hb hby d8_13) _ ?_
    show Steps p.tables e below (T1.setTop (mkF m 14 #[.val (.ref a0), .val (.ref b), .val .null, .unset, .unset] [(.long x1)])) _
    refine o_aloadN X1 hx hby d8_14 15 rfl rfl rfl ?_
    refine o_iconst X1 hx hby d8_15 16 rfl (v := (0 : Int32)) rfl ?_
    refine X1.laload hx (j := (0 : Int32)) (v := (.long x0)) (by rw [e1]; exact Ar3.1) (State.isArrayOf_alike hZ.alike Ar3.2.1) Ar3.2.2 hin3 hat3 (g := (mkF m 16 #[.val (.ref a0), .val (.ref b), .val .null, .unset, .unset] [(.int (0 : Int32)), (.ref b), (.long x1)])) rfl rfl (hb hby d8_16) _ ?_
    show Steps p.tables e below (T1.setTop (mkF m 17 #[.val (.ref a0), .val (.ref b), .val .null, .unset, .unset] [(.long x0), (.long x1)])) _
    exact k
  obtain ⟨_, _, ⟨T4, L4, k4, n4⟩, -, X4, ⟨Lc4, hQ4, l4, y4, z4⟩, st4⟩ := Jvm.LawKit.callS X1 hx (y := (⟨"com/example/amortine/amortine/Decimals", "gcd", "(JJ)J"⟩ : MethodName)) hown (mvT hZ (hw _ (List.mem_of_getElem? (i := 72) rfl))) (mvT hZ (hw _ (List.mem_of_getElem? (i := 73) rfl))) (mvT hZ (hw _ (List.mem_of_getElem? (i := 30) rfl))) (mvT hZ (hw _ (List.mem_of_getElem? (i := 74) rfl))) (by decide) (backOf (W := 0) (rm10 l Z aw hw [] x1 x0 h0 n0 Z0 (pa1.1) (pa0.1)) hZ (hw _ (List.mem_of_getElem? (i := 74) rfl)) (hw _ (List.mem_of_getElem? (i := 30) rfl)) (by decide) (by decide)) (g := (mkF m 17 #[.val (.ref a0), .val (.ref b), .val .null, .unset, .unset] [(.long x0), (.long x1)])) rfl (by rw [hml]; rfl) (argsL := [(.long x1), (.long x0)]) (rest := []) (lenOf pd_8 rfl) rfl (by show 2 * 0 + _ ≤ _; exact Nat.le_of_eq rfl) (hb hby d8_17) (fun _ _ => ⟨rfl, e1, (by decide : 0 + 0 ≤ _), (by decide : 0 + 0 ≤ _)⟩)
  dsimp only [Pt.U, Pt.locs, Pt.cells, Pt.slots] at X4 l4 y4 z4 st4 hQ4
  obtain rfl : k4 = 0 := y4
  obtain rfl : n4 = 0 := z4
  obtain ⟨r4_r, rfl, N4q, e4, qf4_0, -⟩ := hQ4
  have N4 : Fr n0 L4 := by rw [l4]; exact Fr.app N1 N4q
  have go3 : Go p e below A0 (T4.setTop (mkF m 20 #[.val (.ref a0), .val (.ref b), .val .null, .unset, .unset] [(.long r4_r)])) := by
    intro t k
    refine go2 t ?_
    refine st4 _ ?_
    show Steps p.tables e below (T4.setTop (mkF m 20 #[.val (.ref a0), .val (.ref b), .val .null, .unset, .unset] [(.long r4_r)])) _
    exact k
  have go4 : Go p e below A0 (T4.setTop (mkF m 21 #[.val (.ref a0), .val (.ref b), .val .null, .val (.long r4_r), .second] [])) := by
    intro t k
    refine go3 t ?_
    refine o_lstoreN X4 hx hby d8_20 21 rfl (l' := #[.val (.ref a0), .val (.ref b), .val .null, .val (.long r4_r), .second]) rfl ?_
    exact k
  obtain ⟨T5, h5, k5, X5, e5, E5, A5, st5⟩ := newP X4 hx hZ (hw _ (List.mem_of_getElem? (i := 36) rfl)) e4 (g := (mkF m 22 #[.val (.ref a0), .val (.ref b), .val .null, .val (.long r4_r), .second] [(.int (2 : Int32))])) rfl (hb hby d8_22) rfl (by decide) (cap := 2) (by decide) (by decide) (by decide) (by decide)
  obtain ⟨b5, g5⟩ : ∃ z, z = h0.size := ⟨_, rfl⟩
  rw [← g5] at A5 st5
  have ne_a0_b5 : a0 ≠ b5 := Nat.ne_of_lt (Nat.lt_of_lt_of_le r0.lt (Nat.le_of_eq g5.symm))
  have ne_b_b5 : b ≠ b5 := Nat.ne_of_lt (Nat.lt_of_lt_of_le r3.lt (Nat.le_of_eq g5.symm))
  have g_b5 : n0 ≤ b5 := Nat.le_trans Z0 (Nat.le_of_eq g5.symm)
  have sz_b5 : h0.size ≤ b5 := Nat.le_trans (Keep.refl h0 []).1 (Nat.le_of_eq g5.symm)
  have f1 : Exa Z h5 a0 "com/example/amortine/amortine/PeriodRate" := r0.ext E5
  have f2 : FP Z h5 a0 "wholeTermsAsked" "Z" (.int (1 : Int32)) := r1.ext E5
  have f3 : FP Z h5 a0 "wholeTerms" "[J" (.ref b) := r2.ext E5
  have f4 : Arv Z h5 b kb .long (2 : Int32) [(.long x0), (.long x1)] (.long (0 : Int64)) := r3.ext E5
  have Zp5 : n0 ≤ h5.size := Nat.le_trans Z0 E5.1
  have K5 : Keep h0 h5 [] := (Keep.refl h0 []).ext E5
  have f5 : Arv Z h5 b5 k5 .long (2 : Int32) [(.long (0 : Int64)), (.long (0 : Int64))] (.long (0 : Int64)) := (Arv.new A5 (by decide)).pad (pad_rep [] (.long (0 : Int64)) 2)
  obtain ⟨cl6, Ar6, q6, S6, M6, H6, G6⟩ := id f4
  have hin6 : ¬ ((1 : Int32) < 0 ∨ cl6.slots.size ≤ ((1 : Int32)).toNatClampNeg) := inb_of S6 ⟨by decide, by decide⟩
  have hat6 : cl6.slots[((1 : Int32)).toNatClampNeg]? = some (.long x1) := H6.at hin6 rfl
  have go5 : Go p e below A0 (T5.setTop (mkF m 30 #[.val (.ref a0), .val (.ref b), .val .null, .val (.long r4_r), .second] [(.long r4_r), (.long x1), (.int (0 : Int32)), (.ref b5), (.ref b5)])) := by
    intro t k
    refine go4 t ?_
    refine o_iconst X4 hx hby d8_21 22 rfl (v := (2 : Int32)) rfl ?_
    refine st5 _ ?_
    show Steps p.tables e below (T5.setTop (mkF m 24 #[.val (.ref a0), .val (.ref b), .val .null, .val (.long r4_r), .second] [(.ref b5)])) _
    refine o_dup X5 hx hby d8_24 25 rfl rfl ?_
    refine o_iconst X5 hx hby d8_25 26 rfl (v := (0 : Int32)) rfl ?_
    refine o_aloadN X5 hx hby d8_26 27 rfl rfl rfl ?_
    refine o_iconst X5 hx hby d8_27 28 rfl (v := (1 : Int32)) rfl ?_
    refine X5.laload hx (j := (1 : Int32)) (v := (.long x1)) (by rw [e5]; exact Ar6.1) (State.isArrayOf_alike hZ.alike Ar6.2.1) Ar6.2.2 hin6 hat6 (g := (mkF m 28 #[.val (.ref a0), .val (.ref b), .val .null, .val (.long r4_r), .second] [(.int (1 : Int32)), (.ref b), (.int (0 : Int32)), (.ref b5), (.ref b5)])) rfl rfl (hb hby d8_28) _ ?_
    show Steps p.tables e below (T5.setTop (mkF m 29 #[.val (.ref a0), .val (.ref b), .val .null, .val (.long r4_r), .second] [(.long x1), (.int (0 : Int32)), (.ref b5), (.ref b5)])) _
    refine o_lloadN X5 hx hby d8_29 30 rfl rfl ?_
    exact k
  have f_nz30_1 : ¬ (r4_r = (0 : Int64)) := pf8_nz30_0 a0 b kb x0 x1 pa0 pa1 r4_r qf4_0
  have go6 : Go p e below A0 (T5.setTop (mkF m 31 #[.val (.ref a0), .val (.ref b), .val .null, .val (.long r4_r), .second] [(.long (x1 / r4_r)), (.int (0 : Int32)), (.ref b5), (.ref b5)])) := by
    intro t k
    refine go5 t ?_
    refine o_ldiv X5 hx hby d8_30 31 rfl f_nz30_1 ?_
    exact k
  obtain ⟨v1, hv1, go7⟩ : ∃ v1 : Int64, v1 = (x1 / r4_r) ∧ Go p e below A0 (T5.setTop (mkF m 31 #[.val (.ref a0), .val (.ref b), .val .null, .val (.long r4_r), .second] [(.long v1), (.int (0 : Int32)), (.ref b5), (.ref b5)])) := ⟨_, rfl, go6⟩
  obtain ⟨cl7, Ar7, q7, S7, M7, H7, G7⟩ := id f5
  have hin7 : ¬ ((0 : Int32) < 0 ∨ cl7.slots.size ≤ ((0 : Int32)).toNatClampNeg) := inb_of S7 ⟨by decide, by decide⟩
  obtain ⟨T7, h7, X7, e7, W7, st7⟩ := stJ X5 hx hZ e5 Ar7 (j := (0 : Int32)) hin7 (g := (mkF m 31 #[.val (.ref a0), .val (.ref b), .val .null, .val (.long r4_r), .second] [(.long v1), (.int (0 : Int32)), (.ref b5), (.ref b5)])) rfl rfl (hb hby d8_31)
  have f6 : Exa Z h7 a0 "com/example/amortine/amortine/PeriodRate" := f1.wr W7
  have f7 : FP Z h7 a0 "wholeTermsAsked" "Z" (.int (1 : Int32)) := f2.other W7 (Or.inl ne_a0_b5)
  have f8 : FP Z h7 a0 "wholeTerms" "[J" (.ref b) := f3.other W7 (Or.inl ne_a0_b5)
  have f9 : Arv Z h7 b kb .long (2 : Int32) [(.long x0), (.long x1)] (.long (0 : Int64)) := f4.other W7 ne_b_b5
  have Zp7 : n0 ≤ h7.size := Nat.le_trans Zp5 (Keep.of_wr W7).1
  have K7 : Keep h0 h7 [] := K5.wr W7 (Or.inr sz_b5)
  have N7 := Fr.snoc X7 N4 g_b5
  have f10 : Arv Z h7 b5 k5 .long (2 : Int32) [(.long v1), (.long (0 : Int64))] (.long (0 : Int64)) := Arv.set Ar7 q7 S7 M7 H7 G7 rfl W7 0 rfl (Nat.le_of_ble_eq_true rfl)
  obtain ⟨cl8, Ar8, q8, S8, M8, H8, G8⟩ := id f9
  have hin8 : ¬ ((0 : Int32) < 0 ∨ cl8.slots.size ≤ ((0 : Int32)).toNatClampNeg) := inb_of S8 ⟨by decide, by decide⟩
  have hat8 : cl8.slots[((0 : Int32)).toNatClampNeg]? = some (.long x0) := H8.at hin8 rfl
  have go8 : Go p e below A0 (T7.setTop (mkF m 38 #[.val (.ref a0), .val (.ref b), .val .null, .val (.long r4_r), .second] [(.long r4_r), (.long x0), (.int (1 : Int32)), (.ref b5), (.ref b5)])) := by
    intro t k
    refine go7 t ?_
    refine st7 _ ?_
    show Steps p.tables e below (T7.setTop (mkF m 32 #[.val (.ref a0), .val (.ref b), .val .null, .val (.long r4_r), .second] [(.ref b5)])) _
    refine o_dup X7 hx hby d8_32 33 rfl rfl ?_
    refine o_iconst X7 hx hby d8_33 34 rfl (v := (1 : Int32)) rfl ?_
    refine o_aloadN X7 hx hby d8_34 35 rfl rfl rfl ?_
    refine o_iconst X7 hx hby d8_35 36 rfl (v := (0 : Int32)) rfl ?_
    refine X7.laload hx (j := (0 : Int32)) (v := (.long x0)) (by rw [e7]; exact Ar8.1) (State.isArrayOf_alike hZ.alike Ar8.2.1) Ar8.2.2 hin8 hat8 (g := (mkF m 36 #[.val (.ref a0), .val (.ref b), .val .null, .val (.long r4_r), .second] [(.int (0 : Int32)), (.ref b), (.int (1 : Int32)), (.ref b5), (.ref b5)])) rfl rfl (hb hby d8_36) _ ?_
    show Steps p.tables e below (T7.setTop (mkF m 37 #[.val (.ref a0), .val (.ref b), .val .null, .val (.long r4_r), .second] [(.long x0), (.int (1 : Int32)), (.ref b5), (.ref b5)])) _
    refine o_lloadN X7 hx hby d8_37 38 rfl rfl ?_
    exact k
  have f_nz38_2 : ¬ (r4_r = (0 : Int64)) := pf8_nz38_1 a0 b kb x0 x1 pa0 pa1 r4_r v1 hv1 qf4_0
  have go9 : Go p e below A0 (T7.setTop (mkF m 39 #[.val (.ref a0), .val (.ref b), .val .null, .val (.long r4_r), .second] [(.long (x0 / r4_r)), (.int (1 : Int32)), (.ref b5), (.ref b5)])) := by
    intro t k
    refine go8 t ?_
    refine o_ldiv X7 hx hby d8_38 39 rfl f_nz38_2 ?_
    exact k
  obtain ⟨v2, hv2, go10⟩ : ∃ v2 : Int64, v2 = (x0 / r4_r) ∧ Go p e below A0 (T7.setTop (mkF m 39 #[.val (.ref a0), .val (.ref b), .val .null, .val (.long r4_r), .second] [(.long v2), (.int (1 : Int32)), (.ref b5), (.ref b5)])) := ⟨_, rfl, go9⟩
  obtain ⟨cl9, Ar9, q9, S9, M9, H9, G9⟩ := id f10
  have hin9 : ¬ ((1 : Int32) < 0 ∨ cl9.slots.size ≤ ((1 : Int32)).toNatClampNeg) := inb_of S9 ⟨by decide, by decide⟩
  obtain ⟨T9, h9, X9, e9, W9, st9⟩ := stJ X7 hx hZ e7 Ar9 (j := (1 : Int32)) hin9 (g := (mkF m 39 #[.val (.ref a0), .val (.ref b), .val .null, .val (.long r4_r), .second] [(.long v2), (.int (1 : Int32)), (.ref b5), (.ref b5)])) rfl rfl (hb hby d8_39)
  have f11 : Exa Z h9 a0 "com/example/amortine/amortine/PeriodRate" := f6.wr W9
  have f12 : FP Z h9 a0 "wholeTermsAsked" "Z" (.int (1 : Int32)) := f7.other W9 (Or.inl ne_a0_b5)
  have f13 : FP Z h9 a0 "wholeTerms" "[J" (.ref b) := f8.other W9 (Or.inl ne_a0_b5)
  have f14 : Arv Z h9 b kb .long (2 : Int32) [(.long x0), (.long x1)] (.long (0 : Int64)) := f9.other W9 ne_b_b5
  have Zp9 : n0 ≤ h9.size := Nat.le_trans Zp7 (Keep.of_wr W9).1
  have K9 : Keep h0 h9 [] := K7.wr W9 (Or.inr sz_b5)
  have N9 := Fr.snoc X9 N7 g_b5
  have f15 : Arv Z h9 b5 k5 .long (2 : Int32) [(.long v1), (.long v2)] (.long (0 : Int64)) := Arv.set Ar9 q9 S9 M9 H9 G9 rfl W9 1 rfl (Nat.le_of_ble_eq_true rfl)
  have go11 : Go p e below A0 (T9.setTop (mkF m 42 #[.val (.ref a0), .val (.ref b), .val (.ref b5), .val (.long r4_r), .second] [(.ref b5)])) := by
    intro t k
    refine go10 t ?_
    refine st9 _ ?_
    show Steps p.tables e below (T9.setTop (mkF m 40 #[.val (.ref a0), .val (.ref b), .val .null, .val (.long r4_r), .second] [(.ref b5)])) _
    refine o_astoreN X9 hx hby d8_40 41 rfl rfl (l' := #[.val (.ref a0), .val (.ref b), .val (.ref b5), .val (.long r4_r), .second]) rfl ?_
    refine o_aloadN X9 hx hby d8_41 42 rfl rfl rfl ?_
    exact k
  rw [hA0] at go11
  obtain ⟨fs, hr, hrun, hended, hW, hsame⟩ := X9.leave (v := some (.ref b5)) (fun h => by rw [Bd.returns] at h; cases h)
  refine ⟨_, _, go11 _ (o_retR X9 hx Bd.returns rfl (hb hby d8_42) rfl rfl hr), hrun, hended, _, _, rfl, ?_, ⟨_, rfl⟩, hW, hsame.mono (by decide) (by decide)⟩
  show Q8 Z a0 b kb x0 x1 h0 n0 _ T9.heap _
  rw [e9]
  exact ⟨k5, v1, v2, b5, rfl, N9, K9, sz_b5, f15, pl_rate a0 b kb x0 x1 pa0 pa1 r4_r v1 v2 hv1 hv2 qf4_0, trivial⟩
theorem d11_0 : decode jdk_35_method_44_code 0 = .ok (.lload_n 2, 1) := by decide +kernel
theorem d11_1 : decode jdk_35_method_44_code 1 = .ok (.lconst 0, 1) := by decide +kernel
theorem d11_2 : decode jdk_35_method_44_code 2 = .ok (.lcmp, 1) := by decide +kernel
theorem d11_3 : decode jdk_35_method_44_code 3 = .ok (.ifCond .lt 38, 3) := by decide +kernel
theorem d11_6 : decode jdk_35_method_44_code 6 = .ok (.lload_n 0, 1) := by decide +kernel
theorem d11_7 : decode jdk_35_method_44_code 7 = .ok (.iconst 1, 1) := by decide +kernel
theorem d11_8 : decode jdk_35_method_44_code 8 = .ok (.lushr, 1) := by decide +kernel
theorem d11_9 : decode jdk_35_method_44_code 9 = .ok (.lload_n 2, 1) := by decide +kernel
theorem d11_10 : decode jdk_35_method_44_code 10 = .ok (.ldiv, 1) := by decide +kernel
theorem d11_11 : decode jdk_35_method_44_code 11 = .ok (.iconst 1, 1) := by decide +kernel
theorem d11_12 : decode jdk_35_method_44_code 12 = .ok (.lshl, 1) := by decide +kernel
theorem d11_13 : decode jdk_35_method_44_code 13 = .ok (.lstore 4, 2) := by decide +kernel
theorem d11_15 : decode jdk_35_method_44_code 15 = .ok (.lload_n 0, 1) := by decide +kernel
theorem d11_16 : decode jdk_35_method_44_code 16 = .ok (.lload 4, 2) := by decide +kernel
theorem d11_18 : decode jdk_35_method_44_code 18 = .ok (.lload_n 2, 1) := by decide +kernel
theorem d11_19 : decode jdk_35_method_44_code 19 = .ok (.lmul, 1) := by decide +kernel
theorem d11_20 : decode jdk_35_method_44_code 20 = .ok (.lsub, 1) := by decide +kernel
theorem d11_21 : decode jdk_35_method_44_code 21 = .ok (.lstore 6, 2) := by decide +kernel
theorem d11_23 : decode jdk_35_method_44_code 23 = .ok (.lload 4, 2) := by decide +kernel
theorem d11_25 : decode jdk_35_method_44_code 25 = .ok (.lload 6, 2) := by decide +kernel
theorem d11_27 : decode jdk_35_method_44_code 27 = .ok (.lload 6, 2) := by decide +kernel
theorem d11_29 : decode jdk_35_method_44_code 29 = .ok (.lload_n 2, 1) := by decide +kernel
theorem d11_30 : decode jdk_35_method_44_code 30 = .ok (.lsub, 1) := by decide +kernel
theorem d11_31 : decode jdk_35_method_44_code 31 = .ok (.ldc2_w 306, 3) := by decide +kernel
theorem d11_34 : decode jdk_35_method_44_code 34 = .ok (.lxor, 1) := by decide +kernel
theorem d11_35 : decode jdk_35_method_44_code 35 = .ok (.lor, 1) := by decide +kernel
theorem d11_36 : decode jdk_35_method_44_code 36 = .ok (.bipush 63, 2) := by decide +kernel
theorem d11_38 : decode jdk_35_method_44_code 38 = .ok (.lushr, 1) := by decide +kernel
theorem d11_39 : decode jdk_35_method_44_code 39 = .ok (.ladd, 1) := by decide +kernel
theorem d11_40 : decode jdk_35_method_44_code 40 = .ok (.lreturn, 1) := by decide +kernel
theorem d11_41 : decode jdk_35_method_44_code 41 = .ok (.lload_n 0, 1) := by decide +kernel
theorem d11_42 : decode jdk_35_method_44_code 42 = .ok (.lload_n 0, 1) := by decide +kernel
theorem d11_43 : decode jdk_35_method_44_code 43 = .ok (.lload_n 2, 1) := by decide +kernel
theorem d11_44 : decode jdk_35_method_44_code 44 = .ok (.lsub, 1) := by decide +kernel
theorem d11_45 : decode jdk_35_method_44_code 45 = .ok (.ldc2_w 306, 3) := by decide +kernel
theorem d11_48 : decode jdk_35_method_44_code 48 = .ok (.lxor, 1) := by decide +kernel
theorem d11_49 : decode jdk_35_method_44_code 49 = .ok (.land, 1) := by decide +kernel
theorem d11_50 : decode jdk_35_method_44_code 50 = .ok (.bipush 63, 2) := by decide +kernel
theorem d11_52 : decode jdk_35_method_44_code 52 = .ok (.lushr, 1) := by decide +kernel
theorem d11_53 : decode jdk_35_method_44_code 53 = .ok (.lreturn, 1) := by decide +kernel
theorem ef_11 (m : MethodId) (x0 : Int64) (x1 : Int64) : entryFrame m #[(.long x0), (.long x1)] 8 = mkF m 0 #[.val (.long x0), .second, .val (.long x1), .second, .unset, .unset, .unset, .unset] [] := by first | (simp [entryFrame, mkF, argsToLocals, Value.category]; done) | rfl
def Fdu (q0 : Int64) (q1 : Int64) : Int64 := let v1 : Int64 := ((((q0.toUInt64 >>> ((1 : Int32) &&& 0x3f).toInt64.toUInt64).toInt64) / q1) <<< ((1 : Int32) &&& 0x3f).toInt64); let v2 : Int64 := (q0 - (v1 * q1)); (v1 + (((v2 ||| ((v2 - q1) ^^^ (-1 : Int64))).toUInt64 >>> ((63 : Int32) &&& 0x3f).toInt64.toUInt64).toInt64))
set_option maxRecDepth 65536 in
set_option maxHeartbeats 4000000 in
theorem pf11_nz10_0 (q0 : Int64) (q1 : Int64) (pa1 : 0 < q1.toInt) : ¬ (q1 = (0 : Int64)) := by
  exact own_nz1 pa1
def Q11 (Z : State) (q0 : Int64) (q1 : Int64) (h0 : Heap) (n0 : Nat) (v : Option Value) (h : Heap) (L : List Loc) : Prop := v = some (.long (Fdu q0 q1)) ∧ Fr n0 L ∧ h = h0
set_option maxRecDepth 65536 in
set_option maxHeartbeats 40000000 in
theorem rm11 (l : Launch) (Z : State) (aw : Array Value) (hw : ∀ d ∈ tables_1, d.before aw Z = true) (ws : List Jvm.Cond) (q0 : Int64) (q1 : Int64) (h0 : Heap) (n0 : Nat) (Z0 : n0 ≤ h0.size) (pa1 : (0 < q1.toInt)) :
    MetFree l (⟨"java/lang/Long", "divideUnsigned", "(JJ)J"⟩ : MethodName) (head1 (Jvm.Cond.code (⟨"java/lang/Long", "divideUnsigned", "(JJ)J"⟩ : MethodName) jdk_35_method_44_code 8 (some .long) :: ws) ({ frames := 0, cells := 0, slots := 0, locals := 0 } : Room)) (fun a U => a = #[(.long q0), (.long q1)] ∧ Z.Warmed39 U.vm ∧ U.heap = h0) (fun _ _ _ _ _ => True) (fun _ U o U' => ∃ v L, o = .returned v ∧ Q11 Z q0 q1 h0 n0 v U'.heap L ∧ FrameEnd U o U' L ({ frames := 0, cells := 0, slots := 0, locals := 0 } : Room).cells ({ frames := 0, cells := 0, slots := 0, locals := 0 } : Room).slots) := by
  refine MetFree.of_bodySF (plainFor_of_name pn_13) hisR ?_
  intro p e s m args below meth c s₁ Bd hml0 hP hK
  obtain ⟨rfl, hZ, hh⟩ := hP
  have hx := Bd.exec
  have hby := Bd.bytes
  have hml : c.maxLocals = 8 := hml0
  have hown : s.vm.findClass "java/lang/Long" = some m.cls := findClass_of_methodNamed Bd.named
  have hnm := (name_of_methodNamed Bd.named Bd.method).1
  have X0 : Stand p l e ({ frames := 0, cells := 0, slots := 0, locals := 0 } : Room) s m #[(.long q0), (.long q1)] below meth c s₁ [] 0 0 := Stand.of_body Bd
  have e0 : s₁.heap = h0 := by rw [← hh, Bd.state]; rfl
  have N0 := Fr.nil n0
  obtain ⟨A0, hA0⟩ : ∃ A0, A0 = s₁.setTop (entryFrame m #[(.long q0), (.long q1)] 8) := ⟨_, rfl⟩
  have go0 : Go p e below A0 (s₁.setTop (mkF m 0 #[.val (.long q0), .second, .val (.long q1), .second, .unset, .unset, .unset, .unset] [])) := fun t k => by rw [hA0]; exact castTop (ef_11 m q0 q1) k
  have go1 : Go p e below A0 (s₁.setTop (mkF m 10 #[.val (.long q0), .second, .val (.long q1), .second, .unset, .unset, .unset, .unset] [(.long q1), (.long ((q0.toUInt64 >>> ((1 : Int32) &&& 0x3f).toInt64.toUInt64).toInt64))])) := by
    intro t k
    refine go0 t ?_
    refine o_lloadN X0 hx hby d11_0 1 rfl rfl ?_
    refine o_lconst X0 hx hby d11_1 2 rfl (v := (0 : Int64)) rfl ?_
    refine o_lcmp X0 hx hby d11_2 3 rfl ?_
    refine o_ifN X0 hx hby d11_3 6 rfl (flt (fun q => (own_nn1 pa1) ((lw_lt q1 (0 : Int64)).mp q))).1 ?_
    refine o_lloadN X0 hx hby d11_6 7 rfl rfl ?_
    refine o_iconst X0 hx hby d11_7 8 rfl (v := (1 : Int32)) rfl ?_
    refine o_lushr X0 hx hby d11_8 9 rfl ?_
    refine o_lloadN X0 hx hby d11_9 10 rfl rfl ?_
    exact k
  have f_nz10_1 : ¬ (q1 = (0 : Int64)) := pf11_nz10_0 q0 q1 pa1
  have go2 : Go p e below A0 (s₁.setTop (mkF m 15 #[.val (.long q0), .second, .val (.long q1), .second, .val (.long ((((q0.toUInt64 >>> ((1 : Int32) &&& 0x3f).toInt64.toUInt64).toInt64) / q1) <<< ((1 : Int32) &&& 0x3f).toInt64)), .second, .unset, .unset] [])) := by
    intro t k
    refine go1 t ?_
    refine o_ldiv X0 hx hby d11_10 11 rfl f_nz10_1 ?_
    refine o_iconst X0 hx hby d11_11 12 rfl (v := (1 : Int32)) rfl ?_
    refine o_lshl X0 hx hby d11_12 13 rfl ?_
    refine o_lstore X0 hx hby d11_13 15 rfl (l' := #[.val (.long q0), .second, .val (.long q1), .second, .val (.long ((((q0.toUInt64 >>> ((1 : Int32) &&& 0x3f).toInt64.toUInt64).toInt64) / q1) <<< ((1 : Int32) &&& 0x3f).toInt64)), .second, .unset, .unset]) rfl ?_
    exact k
  obtain ⟨v1, hv1, go3⟩ : ∃ v1 : Int64, v1 = ((((q0.toUInt64 >>> ((1 : Int32) &&& 0x3f).toInt64.toUInt64).toInt64) / q1) <<< ((1 : Int32) &&& 0x3f).toInt64) ∧ Go p e below A0 (s₁.setTop (mkF m 15 #[.val (.long q0), .second, .val (.long q1), .second, .val (.long v1), .second, .unset, .unset] [])) := ⟨_, rfl, go2⟩
  have go4 : Go p e below A0 (s₁.setTop (mkF m 23 #[.val (.long q0), .second, .val (.long q1), .second, .val (.long v1), .second, .val (.long (q0 - (v1 * q1))), .second] [])) := by
    intro t k
    refine go3 t ?_
    refine o_lloadN X0 hx hby d11_15 16 rfl rfl ?_
    refine o_lload X0 hx hby d11_16 18 rfl rfl ?_
    refine o_lloadN X0 hx hby d11_18 19 rfl rfl ?_
    refine o_lmul X0 hx hby d11_19 20 rfl ?_
    refine o_lsub X0 hx hby d11_20 21 rfl ?_
    refine o_lstore X0 hx hby d11_21 23 rfl (l' := #[.val (.long q0), .second, .val (.long q1), .second, .val (.long v1), .second, .val (.long (q0 - (v1 * q1))), .second]) rfl ?_
    exact k
  obtain ⟨v2, hv2, go5⟩ : ∃ v2 : Int64, v2 = (q0 - (v1 * q1)) ∧ Go p e below A0 (s₁.setTop (mkF m 23 #[.val (.long q0), .second, .val (.long q1), .second, .val (.long v1), .second, .val (.long v2), .second] [])) := ⟨_, rfl, go4⟩
  have go6 : Go p e below A0 (s₁.setTop (mkF m 40 #[.val (.long q0), .second, .val (.long q1), .second, .val (.long v1), .second, .val (.long v2), .second] [(.long (v1 + (((v2 ||| ((v2 - q1) ^^^ (-1 : Int64))).toUInt64 >>> ((63 : Int32) &&& 0x3f).toInt64.toUInt64).toInt64)))])) := by
    intro t k
    refine go5 t ?_
    refine o_lload X0 hx hby d11_23 25 rfl rfl ?_
    refine o_lload X0 hx hby d11_25 27 rfl rfl ?_
    refine o_lload X0 hx hby d11_27 29 rfl rfl ?_
    refine o_lloadN X0 hx hby d11_29 30 rfl rfl ?_
    refine o_lsub X0 hx hby d11_30 31 rfl ?_
    refine o_ldc2Long X0 hx hby hown (mvT hZ (hw _ (List.mem_of_getElem? (i := 84) rfl))) d11_31 34 rfl ?_
    refine o_lxor X0 hx hby d11_34 35 rfl ?_
    refine o_lor X0 hx hby d11_35 36 rfl ?_
    refine o_bipush X0 hx hby d11_36 38 rfl (v := (63 : Int32)) rfl ?_
    refine o_lushr X0 hx hby d11_38 39 rfl ?_
    refine o_ladd X0 hx hby d11_39 40 rfl ?_
    exact k
  have hF : (v1 + (((v2 ||| ((v2 - q1) ^^^ (-1 : Int64))).toUInt64 >>> ((63 : Int32) &&& 0x3f).toInt64.toUInt64).toInt64)) = (Fdu q0 q1) := by simp only [Fdu, hv1, hv2]
  rw [hA0] at go6
  obtain ⟨fs, hr, hrun, hended, hW, hsame⟩ := X0.leave (v := some (.long (v1 + (((v2 ||| ((v2 - q1) ^^^ (-1 : Int64))).toUInt64 >>> ((63 : Int32) &&& 0x3f).toInt64.toUInt64).toInt64)))) (fun h => by rw [Bd.returns] at h; cases h)
  refine ⟨_, _, go6 _ (o_retJ X0 hx Bd.returns (hb hby d11_40) hr), hrun, hended, _, _, rfl, ?_, ⟨_, rfl⟩, hW, hsame.mono (by decide) (by decide)⟩
  show Q11 Z q0 q1 h0 n0 _ s₁.heap _
  rw [e0]
  exact ⟨by rw [← hF], N0, rfl⟩
theorem d7_0 : decode prog_12_method_6_code 0 = .ok (.aload_n 0, 1) := by decide +kernel
theorem d7_1 : decode prog_12_method_6_code 1 = .ok (.aload_n 1, 1) := by decide +kernel
theorem d7_2 : decode prog_12_method_6_code 2 = .ok (.putfield 66, 3) := by decide +kernel
theorem d7_5 : decode prog_12_method_6_code 5 = .ok (.aload_n 1, 1) := by decide +kernel
theorem d7_6 : decode prog_12_method_6_code 6 = .ok (.invokevirtual 69, 3) := by decide +kernel
theorem d7_9 : decode prog_12_method_6_code 9 = .ok (.astore_n 2, 1) := by decide +kernel
theorem d7_10 : decode prog_12_method_6_code 10 = .ok (.aload_n 0, 1) := by decide +kernel
theorem d7_11 : decode prog_12_method_6_code 11 = .ok (.aload_n 2, 1) := by decide +kernel
theorem d7_12 : decode prog_12_method_6_code 12 = .ok (.ifnonnull 7, 3) := by decide +kernel
theorem d7_15 : decode prog_12_method_6_code 15 = .ok (.lconst 0, 1) := by decide +kernel
theorem d7_16 : decode prog_12_method_6_code 16 = .ok (.goto 6, 3) := by decide +kernel
theorem d7_19 : decode prog_12_method_6_code 19 = .ok (.aload_n 2, 1) := by decide +kernel
theorem d7_20 : decode prog_12_method_6_code 20 = .ok (.iconst 0, 1) := by decide +kernel
theorem d7_21 : decode prog_12_method_6_code 21 = .ok (.laload, 1) := by decide +kernel
theorem d7_22 : decode prog_12_method_6_code 22 = .ok (.putfield 73, 3) := by decide +kernel
theorem d7_25 : decode prog_12_method_6_code 25 = .ok (.aload_n 0, 1) := by decide +kernel
theorem d7_26 : decode prog_12_method_6_code 26 = .ok (.aload_n 2, 1) := by decide +kernel
theorem d7_27 : decode prog_12_method_6_code 27 = .ok (.ifnonnull 7, 3) := by decide +kernel
theorem d7_30 : decode prog_12_method_6_code 30 = .ok (.lconst 0, 1) := by decide +kernel
theorem d7_31 : decode prog_12_method_6_code 31 = .ok (.goto 6, 3) := by decide +kernel
theorem d7_34 : decode prog_12_method_6_code 34 = .ok (.aload_n 2, 1) := by decide +kernel
theorem d7_35 : decode prog_12_method_6_code 35 = .ok (.iconst 1, 1) := by decide +kernel
theorem d7_36 : decode prog_12_method_6_code 36 = .ok (.laload, 1) := by decide +kernel
theorem d7_37 : decode prog_12_method_6_code 37 = .ok (.putfield 76, 3) := by decide +kernel
theorem d7_40 : decode prog_12_method_6_code 40 = .ok (.aload_n 0, 1) := by decide +kernel
theorem d7_41 : decode prog_12_method_6_code 41 = .ok (.aload_n 0, 1) := by decide +kernel
theorem d7_42 : decode prog_12_method_6_code 42 = .ok (.getfield 76, 3) := by decide +kernel
theorem d7_45 : decode prog_12_method_6_code 45 = .ok (.lconst 0, 1) := by decide +kernel
theorem d7_46 : decode prog_12_method_6_code 46 = .ok (.lcmp, 1) := by decide +kernel
theorem d7_47 : decode prog_12_method_6_code 47 = .ok (.ifCond .ne 7, 3) := by decide +kernel
theorem d7_50 : decode prog_12_method_6_code 50 = .ok (.lconst 0, 1) := by decide +kernel
theorem d7_51 : decode prog_12_method_6_code 51 = .ok (.goto 13, 3) := by decide +kernel
theorem d7_54 : decode prog_12_method_6_code 54 = .ok (.ldc2_w 79, 3) := by decide +kernel
theorem d7_57 : decode prog_12_method_6_code 57 = .ok (.aload_n 0, 1) := by decide +kernel
theorem d7_58 : decode prog_12_method_6_code 58 = .ok (.getfield 76, 3) := by decide +kernel
theorem d7_61 : decode prog_12_method_6_code 61 = .ok (.invokestatic 81, 3) := by decide +kernel
theorem d7_64 : decode prog_12_method_6_code 64 = .ok (.putfield 87, 3) := by decide +kernel
theorem d7_67 : decode prog_12_method_6_code 67 = .ok (.aload_n 0, 1) := by decide +kernel
theorem d7_68 : decode prog_12_method_6_code 68 = .ok (.getfield 76, 3) := by decide +kernel
theorem d7_71 : decode prog_12_method_6_code 71 = .ok (.lconst 0, 1) := by decide +kernel
theorem d7_72 : decode prog_12_method_6_code 72 = .ok (.lcmp, 1) := by decide +kernel
theorem d7_73 : decode prog_12_method_6_code 73 = .ok (.ifCond .ne 13, 3) := by decide +kernel
theorem d7_76 : decode prog_12_method_6_code 76 = .ok (.aload_n 0, 1) := by decide +kernel
theorem d7_77 : decode prog_12_method_6_code 77 = .ok (.ldc2_w 79, 3) := by decide +kernel
theorem d7_80 : decode prog_12_method_6_code 80 = .ok (.putfield 90, 3) := by decide +kernel
theorem d7_83 : decode prog_12_method_6_code 83 = .ok (.goto 34, 3) := by decide +kernel
theorem d7_86 : decode prog_12_method_6_code 86 = .ok (.aload_n 0, 1) := by decide +kernel
theorem d7_87 : decode prog_12_method_6_code 87 = .ok (.getfield 73, 3) := by decide +kernel
theorem d7_90 : decode prog_12_method_6_code 90 = .ok (.lconst 0, 1) := by decide +kernel
theorem d7_91 : decode prog_12_method_6_code 91 = .ok (.lcmp, 1) := by decide +kernel
theorem d7_92 : decode prog_12_method_6_code 92 = .ok (.ifCond .ne 13, 3) := by decide +kernel
theorem d7_95 : decode prog_12_method_6_code 95 = .ok (.aload_n 0, 1) := by decide +kernel
theorem d7_96 : decode prog_12_method_6_code 96 = .ok (.ldc2_w 93, 3) := by decide +kernel
theorem d7_99 : decode prog_12_method_6_code 99 = .ok (.putfield 90, 3) := by decide +kernel
theorem d7_102 : decode prog_12_method_6_code 102 = .ok (.goto 15, 3) := by decide +kernel
theorem d7_105 : decode prog_12_method_6_code 105 = .ok (.aload_n 0, 1) := by decide +kernel
theorem d7_106 : decode prog_12_method_6_code 106 = .ok (.ldc2_w 93, 3) := by decide +kernel
theorem d7_109 : decode prog_12_method_6_code 109 = .ok (.aload_n 0, 1) := by decide +kernel
theorem d7_110 : decode prog_12_method_6_code 110 = .ok (.getfield 73, 3) := by decide +kernel
theorem d7_113 : decode prog_12_method_6_code 113 = .ok (.ldiv, 1) := by decide +kernel
theorem d7_114 : decode prog_12_method_6_code 114 = .ok (.putfield 90, 3) := by decide +kernel
theorem d7_117 : decode prog_12_method_6_code 117 = .ok (.return_, 1) := by decide +kernel
theorem pn_7 : plainName "com/example/amortine/amortine/CentAmounts" = true := by first | (simp [plainName, overriddenIn]; done) | decide +kernel
theorem ef_7 (m : MethodId) (x0 : Addr) (x1 : Addr) : entryFrame m #[(.ref x0), (.ref x1)] 3 = mkF m 0 #[.val (.ref x0), .val (.ref x1), .unset] [] := by first | (simp [entryFrame, mkF, argsToLocals, Value.category]; done) | rfl
set_option maxRecDepth 65536 in
set_option maxHeartbeats 4000000 in
theorem pf7_nz113_0 (a0 : Addr) (a1 : Addr) (b : Addr) (kb : ClassId) (x0 : Int64) (x1 : Int64) (f_perYear : Int32) (f_balloon : Int64) (f_balloonScale : Int32) (f_closing : Int64) (f_closingScale : Int32) (f_opening : Int64) (f_interest : Int64) (f_owedBefore : Int64) (f_openingScale : Int32) (f_payment : Int64) (f_paymentScale : Int32) (f_principal : Int64) (f_principalScale : Int32) (f_madePaid : Int64) (f_madeScale : Int32) (f_raised : Int64) (f_raisedScale : Int32) (f_settled : Int32) (f_tallied : Int64) (f_talliedScale : Int32) (f_indexation : Int64) (f_indexationScale : Int32) (r2_n : Int64) (r2_d : Int64) (v1 : Int64) (hv1 : v1 = (Fdu (-1 : Int64) r2_d)) (qf2_1 : own_rate r2_n r2_d) : ¬ (r2_n = (0 : Int64)) := by
  exact own_nz1 qf2_1.1
def Q7 (Z : State) (a0 : Addr) (a1 : Addr) (b : Addr) (kb : ClassId) (x0 : Int64) (x1 : Int64) (f_perYear : Int32) (f_balloon : Int64) (f_balloonScale : Int32) (f_closing : Int64) (f_closingScale : Int32) (f_opening : Int64) (f_interest : Int64) (f_owedBefore : Int64) (f_openingScale : Int32) (f_payment : Int64) (f_paymentScale : Int32) (f_principal : Int64) (f_principalScale : Int32) (f_madePaid : Int64) (f_madeScale : Int32) (f_raised : Int64) (f_raisedScale : Int32) (f_settled : Int32) (f_tallied : Int64) (f_talliedScale : Int32) (f_indexation : Int64) (f_indexationScale : Int32) (h0 : Heap) (n0 : Nat) (v : Option Value) (h : Heap) (L : List Loc) : Prop := ∃ n : Int64, ∃ d : Int64, v = none ∧ Fr n0 L ∧ Keep h0 h [a0] ∧ FC Z h a0 "perYear" "I" (.int f_perYear) ∧ FC Z h a0 "balloon" "J" (.long f_balloon) ∧ FC Z h a0 "balloonScale" "I" (.int f_balloonScale) ∧ FC Z h a0 "closing" "J" (.long f_closing) ∧ FC Z h a0 "closingScale" "I" (.int f_closingScale) ∧ FC Z h a0 "perPeriodNumerator" "J" (.long n) ∧ FC Z h a0 "perPeriodDenominator" "J" (.long d) ∧ FC Z h a0 "reciprocal" "J" (.long (Fdu (-1 : Int64) d)) ∧ FC Z h a0 "exactUpTo" "J" (.long ((9223372036854775807 : Int64) / n)) ∧ FC Z h a0 "opening" "J" (.long f_opening) ∧ FC Z h a0 "interest" "J" (.long f_interest) ∧ FC Z h a0 "owedBefore" "J" (.long f_owedBefore) ∧ FC Z h a0 "openingScale" "I" (.int f_openingScale) ∧ FC Z h a0 "payment" "J" (.long f_payment) ∧ FC Z h a0 "paymentScale" "I" (.int f_paymentScale) ∧ FC Z h a0 "principal" "J" (.long f_principal) ∧ FC Z h a0 "principalScale" "I" (.int f_principalScale) ∧ FC Z h a0 "madePaid" "J" (.long f_madePaid) ∧ FC Z h a0 "madeScale" "I" (.int f_madeScale) ∧ FC Z h a0 "raised" "J" (.long f_raised) ∧ FC Z h a0 "raisedScale" "I" (.int f_raisedScale) ∧ FC Z h a0 "settled" "Z" (.int f_settled) ∧ FC Z h a0 "tallied" "J" (.long f_tallied) ∧ FC Z h a0 "talliedScale" "I" (.int f_talliedScale) ∧ FC Z h a0 "indexation" "J" (.long f_indexation) ∧ FC Z h a0 "indexationScale" "I" (.int f_indexationScale) ∧ (own_rate n d) ∧ True
set_option maxRecDepth 65536 in
set_option maxHeartbeats 40000000 in
theorem rm7 (l : Launch) (Z : State) (aw : Array Value) (hw : ∀ d ∈ tables_1, d.before aw Z = true) (ws : List Jvm.Cond) (a0 : Addr) (a1 : Addr) (b : Addr) (kb : ClassId) (x0 : Int64) (x1 : Int64) (f_perYear : Int32) (f_balloon : Int64) (f_balloonScale : Int32) (f_closing : Int64) (f_closingScale : Int32) (f_opening : Int64) (f_interest : Int64) (f_owedBefore : Int64) (f_openingScale : Int32) (f_payment : Int64) (f_paymentScale : Int32) (f_principal : Int64) (f_principalScale : Int32) (f_madePaid : Int64) (f_madeScale : Int32) (f_raised : Int64) (f_raisedScale : Int32) (f_settled : Int32) (f_tallied : Int64) (f_talliedScale : Int32) (f_indexation : Int64) (f_indexationScale : Int32) (h0 : Heap) (n0 : Nat) (Z0 : n0 ≤ h0.size) (r0 : Exa Z h0 a0 "com/example/amortine/amortine/CentAmounts") (r1 : n0 ≤ a0) (r2 : FC Z h0 a0 "perYear" "I" (.int f_perYear)) (r3 : FC Z h0 a0 "balloon" "J" (.long f_balloon)) (r4 : FC Z h0 a0 "balloonScale" "I" (.int f_balloonScale)) (r5 : FC Z h0 a0 "closing" "J" (.long f_closing)) (r6 : FC Z h0 a0 "closingScale" "I" (.int f_closingScale)) (r7 : FC Z h0 a0 "opening" "J" (.long f_opening)) (r8 : FC Z h0 a0 "interest" "J" (.long f_interest)) (r9 : FC Z h0 a0 "owedBefore" "J" (.long f_owedBefore)) (r10 : FC Z h0 a0 "openingScale" "I" (.int f_openingScale)) (r11 : FC Z h0 a0 "payment" "J" (.long f_payment)) (r12 : FC Z h0 a0 "paymentScale" "I" (.int f_paymentScale)) (r13 : FC Z h0 a0 "principal" "J" (.long f_principal)) (r14 : FC Z h0 a0 "principalScale" "I" (.int f_principalScale)) (r15 : FC Z h0 a0 "madePaid" "J" (.long f_madePaid)) (r16 : FC Z h0 a0 "madeScale" "I" (.int f_madeScale)) (r17 : FC Z h0 a0 "raised" "J" (.long f_raised)) (r18 : FC Z h0 a0 "raisedScale" "I" (.int f_raisedScale)) (r19 : FC Z h0 a0 "settled" "Z" (.int f_settled)) (r20 : FC Z h0 a0 "tallied" "J" (.long f_tallied)) (r21 : FC Z h0 a0 "talliedScale" "I" (.int f_talliedScale)) (r22 : FC Z h0 a0 "indexation" "J" (.long f_indexation)) (r23 : FC Z h0 a0 "indexationScale" "I" (.int f_indexationScale)) (r24 : FC Z h0 a0 "rate" "Lcom/example/amortine/amortine/PeriodRate;" .null) (r25 : FC Z h0 a0 "perPeriodNumerator" "J" (.long (0 : Int64))) (r26 : FC Z h0 a0 "perPeriodDenominator" "J" (.long (0 : Int64))) (r27 : FC Z h0 a0 "reciprocal" "J" (.long (0 : Int64))) (r28 : FC Z h0 a0 "exactUpTo" "J" (.long (0 : Int64))) (r29 : Exa Z h0 a1 "com/example/amortine/amortine/PeriodRate") (r30 : FP Z h0 a1 "wholeTermsAsked" "Z" (.int (1 : Int32))) (r31 : FP Z h0 a1 "wholeTerms" "[J" (.ref b)) (r32 : Arv Z h0 b kb .long (2 : Int32) [(.long x0), (.long x1)] (.long (0 : Int64))) (pa0 : (0 < x0.toInt ∧ x0.toInt ≤ 120000)) (pa1 : (0 < x1.toInt ∧ x1.toInt ≤ 4096)) (r35 : a0 ≠ a1) (r36 : a0 ≠ b) :
    MetFree l (⟨"com/example/amortine/amortine/CentAmounts", "rate", "(Lcom/example/amortine/amortine/PeriodRate;)V"⟩ : MethodName) (head1 (Jvm.Cond.code (⟨"com/example/amortine/amortine/CentAmounts", "rate", "(Lcom/example/amortine/amortine/PeriodRate;)V"⟩ : MethodName) prog_12_method_6_code 3 none :: ws) ({ frames := 2, cells := 1, slots := 2, locals := 37 } : Room)) (fun a U => a = #[(.ref a0), (.ref a1)] ∧ Z.Warmed39 U.vm ∧ U.heap = h0) (fun _ _ _ _ _ => True) (fun _ U o U' => ∃ v L, o = .returned v ∧ Q7 Z a0 a1 b kb x0 x1 f_perYear f_balloon f_balloonScale f_closing f_closingScale f_opening f_interest f_owedBefore f_openingScale f_payment f_paymentScale f_principal f_principalScale f_madePaid f_madeScale f_raised f_raisedScale f_settled f_tallied f_talliedScale f_indexation f_indexationScale h0 n0 v U'.heap L ∧ FrameEnd U o U' L ({ frames := 2, cells := 1, slots := 2, locals := 37 } : Room).cells ({ frames := 2, cells := 1, slots := 2, locals := 37 } : Room).slots) := by
  refine MetFree.of_bodySF (plainFor_of_name pn_7) hisR ?_
  intro p e s m args below meth c s₁ Bd hml0 hP hK
  obtain ⟨rfl, hZ, hh⟩ := hP
  have hx := Bd.exec
  have hby := Bd.bytes
  have hml : c.maxLocals = 3 := hml0
  have hown : s.vm.findClass "com/example/amortine/amortine/CentAmounts" = some m.cls := findClass_of_methodNamed Bd.named
  have hnm := (name_of_methodNamed Bd.named Bd.method).1
  have X0 : Stand p l e ({ frames := 2, cells := 1, slots := 2, locals := 37 } : Room) s m #[(.ref a0), (.ref a1)] below meth c s₁ [] 0 0 := Stand.of_body Bd
  have e0 : s₁.heap = h0 := by rw [← hh, Bd.state]; rfl
  have N0 := Fr.nil n0
  obtain ⟨A0, hA0⟩ : ∃ A0, A0 = s₁.setTop (entryFrame m #[(.ref a0), (.ref a1)] 3) := ⟨_, rfl⟩
  have go0 : Go p e below A0 (s₁.setTop (mkF m 0 #[.val (.ref a0), .val (.ref a1), .unset] [])) := fun t k => by rw [hA0]; exact castTop (ef_7 m a0 a1) k
  have wl47 : (Jvm.Cond.laysFinal "com/example/amortine/amortine/CentAmounts" "com/example/amortine/amortine/CentAmounts" "perYear" "I").before aw Z = true := (hw _ (List.mem_of_getElem? (i := 47) rfl))
  have wl49 : (Jvm.Cond.laysFinal "com/example/amortine/amortine/CentAmounts" "com/example/amortine/amortine/CentAmounts" "balloon" "J").before aw Z = true := (hw _ (List.mem_of_getElem? (i := 49) rfl))
  have wl51 : (Jvm.Cond.laysFinal "com/example/amortine/amortine/CentAmounts" "com/example/amortine/amortine/CentAmounts" "balloonScale" "I").before aw Z = true := (hw _ (List.mem_of_getElem? (i := 51) rfl))
  have wl53 : (Jvm.Cond.lays "com/example/amortine/amortine/CentAmounts" "com/example/amortine/amortine/CentAmounts" "closing" "J").before aw Z = true := (hw _ (List.mem_of_getElem? (i := 53) rfl))
  have wl55 : (Jvm.Cond.lays "com/example/amortine/amortine/CentAmounts" "com/example/amortine/amortine/CentAmounts" "closingScale" "I").before aw Z = true := (hw _ (List.mem_of_getElem? (i := 55) rfl))
  have wl61 : (Jvm.Cond.lays "com/example/amortine/amortine/CentAmounts" "com/example/amortine/amortine/CentAmounts" "rate" "Lcom/example/amortine/amortine/PeriodRate;").before aw Z = true := (hw _ (List.mem_of_getElem? (i := 61) rfl))
  have wl76 : (Jvm.Cond.lays "com/example/amortine/amortine/CentAmounts" "com/example/amortine/amortine/CentAmounts" "perPeriodNumerator" "J").before aw Z = true := (hw _ (List.mem_of_getElem? (i := 76) rfl))
  have wl78 : (Jvm.Cond.lays "com/example/amortine/amortine/CentAmounts" "com/example/amortine/amortine/CentAmounts" "perPeriodDenominator" "J").before aw Z = true := (hw _ (List.mem_of_getElem? (i := 78) rfl))
  have wl86 : (Jvm.Cond.lays "com/example/amortine/amortine/CentAmounts" "com/example/amortine/amortine/CentAmounts" "reciprocal" "J").before aw Z = true := (hw _ (List.mem_of_getElem? (i := 86) rfl))
  have wl89 : (Jvm.Cond.lays "com/example/amortine/amortine/CentAmounts" "com/example/amortine/amortine/CentAmounts" "exactUpTo" "J").before aw Z = true := (hw _ (List.mem_of_getElem? (i := 89) rfl))
  have wl96 : (Jvm.Cond.lays "com/example/amortine/amortine/CentAmounts" "com/example/amortine/amortine/CentAmounts" "opening" "J").before aw Z = true := (hw _ (List.mem_of_getElem? (i := 96) rfl))
  have wl98 : (Jvm.Cond.lays "com/example/amortine/amortine/CentAmounts" "com/example/amortine/amortine/CentAmounts" "interest" "J").before aw Z = true := (hw _ (List.mem_of_getElem? (i := 98) rfl))
  have wl100 : (Jvm.Cond.lays "com/example/amortine/amortine/CentAmounts" "com/example/amortine/amortine/CentAmounts" "owedBefore" "J").before aw Z = true := (hw _ (List.mem_of_getElem? (i := 100) rfl))
  have wl121 : (Jvm.Cond.lays "com/example/amortine/amortine/CentAmounts" "com/example/amortine/amortine/CentAmounts" "openingScale" "I").before aw Z = true := (hw _ (List.mem_of_getElem? (i := 121) rfl))
  have wl123 : (Jvm.Cond.lays "com/example/amortine/amortine/CentAmounts" "com/example/amortine/amortine/CentAmounts" "payment" "J").before aw Z = true := (hw _ (List.mem_of_getElem? (i := 123) rfl))
  have wl125 : (Jvm.Cond.lays "com/example/amortine/amortine/CentAmounts" "com/example/amortine/amortine/CentAmounts" "paymentScale" "I").before aw Z = true := (hw _ (List.mem_of_getElem? (i := 125) rfl))
  have wl127 : (Jvm.Cond.lays "com/example/amortine/amortine/CentAmounts" "com/example/amortine/amortine/CentAmounts" "principal" "J").before aw Z = true := (hw _ (List.mem_of_getElem? (i := 127) rfl))
  have wl129 : (Jvm.Cond.lays "com/example/amortine/amortine/CentAmounts" "com/example/amortine/amortine/CentAmounts" "principalScale" "I").before aw Z = true := (hw _ (List.mem_of_getElem? (i := 129) rfl))
  have wl131 : (Jvm.Cond.lays "com/example/amortine/amortine/CentAmounts" "com/example/amortine/amortine/CentAmounts" "madePaid" "J").before aw Z = true := (hw _ (List.mem_of_getElem? (i := 131) rfl))
  have wl133 : (Jvm.Cond.lays "com/example/amortine/amortine/CentAmounts" "com/example/amortine/amortine/CentAmounts" "madeScale" "I").before aw Z = true := (hw _ (List.mem_of_getElem? (i := 133) rfl))
  have wl135 : (Jvm.Cond.lays "com/example/amortine/amortine/CentAmounts" "com/example/amortine/amortine/CentAmounts" "raised" "J").before aw Z = true := (hw _ (List.mem_of_getElem? (i := 135) rfl))
  have wl137 : (Jvm.Cond.lays "com/example/amortine/amortine/CentAmounts" "com/example/amortine/amortine/CentAmounts" "raisedScale" "I").before aw Z = true := (hw _ (List.mem_of_getElem? (i := 137) rfl))
  have wl139 : (Jvm.Cond.lays "com/example/amortine/amortine/CentAmounts" "com/example/amortine/amortine/CentAmounts" "settled" "Z").before aw Z = true := (hw _ (List.mem_of_getElem? (i := 139) rfl))
  have wl161 : (Jvm.Cond.lays "com/example/amortine/amortine/CentAmounts" "com/example/amortine/amortine/CentAmounts" "tallied" "J").before aw Z = true := (hw _ (List.mem_of_getElem? (i := 161) rfl))
  have wl163 : (Jvm.Cond.lays "com/example/amortine/amortine/CentAmounts" "com/example/amortine/amortine/CentAmounts" "talliedScale" "I").before aw Z = true := (hw _ (List.mem_of_getElem? (i := 163) rfl))
  have wl165 : (Jvm.Cond.lays "com/example/amortine/amortine/CentAmounts" "com/example/amortine/amortine/CentAmounts" "indexation" "J").before aw Z = true := (hw _ (List.mem_of_getElem? (i := 165) rfl))
  have wl167 : (Jvm.Cond.lays "com/example/amortine/amortine/CentAmounts" "com/example/amortine/amortine/CentAmounts" "indexationScale" "I").before aw Z = true := (hw _ (List.mem_of_getElem? (i := 167) rfl))
  have go1 : Go p e below A0 (s₁.setTop (mkF m 2 #[.val (.ref a0), .val (.ref a1), .unset] [(.ref a1), (.ref a0)])) := by
    intro t k
    refine go0 t ?_
    refine o_aloadN X0 hx hby d7_0 1 rfl rfl rfl ?_
    refine o_aloadN X0 hx hby d7_1 2 rfl rfl rfl ?_
    exact k
  obtain ⟨T1, h1, X1, e1, W1, st1⟩ := putF X0 hx hZ hown (host := "") (Or.inl (hw _ (List.mem_of_getElem? (i := 60) rfl))) Via.refl e0 r24 r0 (Or.inl (hw _ (List.mem_of_getElem? (i := 61) rfl))) (hw _ (List.mem_of_getElem? (i := 40) rfl)) (ty := (.object "com/example/amortine/amortine/PeriodRate")) (by decide) rfl rfl (g := (mkF m 2 #[.val (.ref a0), .val (.ref a1), .unset] [(.ref a1), (.ref a0)])) rfl rfl (hb hby d7_2)
  have f1 : Exa Z h1 a0 "com/example/amortine/amortine/CentAmounts" := r0.wr W1
  have f2 : FC Z h1 a0 "perYear" "I" (.int f_perYear) := r2.other W1 (Or.inr (slot_ne (Or.inr wl47) (Or.inl wl61) (by decide) (t := .int) (t' := (.object "com/example/amortine/amortine/PeriodRate")) (by decide) (by decide)))
  have f3 : FC Z h1 a0 "balloon" "J" (.long f_balloon) := r3.other W1 (Or.inr (slot_ne (Or.inr wl49) (Or.inl wl61) (by decide) (t := .long) (t' := (.object "com/example/amortine/amortine/PeriodRate")) (by decide) (by decide)))
  have f4 : FC Z h1 a0 "balloonScale" "I" (.int f_balloonScale) := r4.other W1 (Or.inr (slot_ne (Or.inr wl51) (Or.inl wl61) (by decide) (t := .int) (t' := (.object "com/example/amortine/amortine/PeriodRate")) (by decide) (by decide)))
  have f5 : FC Z h1 a0 "closing" "J" (.long f_closing) := r5.other W1 (Or.inr (slot_ne (Or.inl wl53) (Or.inl wl61) (by decide) (t := .long) (t' := (.object "com/example/amortine/amortine/PeriodRate")) (by decide) (by decide)))
  have f6 : FC Z h1 a0 "closingScale" "I" (.int f_closingScale) := r6.other W1 (Or.inr (slot_ne (Or.inl wl55) (Or.inl wl61) (by decide) (t := .int) (t' := (.object "com/example/amortine/amortine/PeriodRate")) (by decide) (by decide)))
  have f7 : FC Z h1 a0 "opening" "J" (.long f_opening) := r7.other W1 (Or.inr (slot_ne (Or.inl wl96) (Or.inl wl61) (by decide) (t := .long) (t' := (.object "com/example/amortine/amortine/PeriodRate")) (by decide) (by decide)))
  have f8 : FC Z h1 a0 "interest" "J" (.long f_interest) := r8.other W1 (Or.inr (slot_ne (Or.inl wl98) (Or.inl wl61) (by decide) (t := .long) (t' := (.object "com/example/amortine/amortine/PeriodRate")) (by decide) (by decide)))
  have f9 : FC Z h1 a0 "owedBefore" "J" (.long f_owedBefore) := r9.other W1 (Or.inr (slot_ne (Or.inl wl100) (Or.inl wl61) (by decide) (t := .long) (t' := (.object "com/example/amortine/amortine/PeriodRate")) (by decide) (by decide)))
  have f10 : FC Z h1 a0 "openingScale" "I" (.int f_openingScale) := r10.other W1 (Or.inr (slot_ne (Or.inl wl121) (Or.inl wl61) (by decide) (t := .int) (t' := (.object "com/example/amortine/amortine/PeriodRate")) (by decide) (by decide)))
  have f11 : FC Z h1 a0 "payment" "J" (.long f_payment) := r11.other W1 (Or.inr (slot_ne (Or.inl wl123) (Or.inl wl61) (by decide) (t := .long) (t' := (.object "com/example/amortine/amortine/PeriodRate")) (by decide) (by decide)))
  have f12 : FC Z h1 a0 "paymentScale" "I" (.int f_paymentScale) := r12.other W1 (Or.inr (slot_ne (Or.inl wl125) (Or.inl wl61) (by decide) (t := .int) (t' := (.object "com/example/amortine/amortine/PeriodRate")) (by decide) (by decide)))
  have f13 : FC Z h1 a0 "principal" "J" (.long f_principal) := r13.other W1 (Or.inr (slot_ne (Or.inl wl127) (Or.inl wl61) (by decide) (t := .long) (t' := (.object "com/example/amortine/amortine/PeriodRate")) (by decide) (by decide)))
  have f14 : FC Z h1 a0 "principalScale" "I" (.int f_principalScale) := r14.other W1 (Or.inr (slot_ne (Or.inl wl129) (Or.inl wl61) (by decide) (t := .int) (t' := (.object "com/example/amortine/amortine/PeriodRate")) (by decide) (by decide)))
  have f15 : FC Z h1 a0 "madePaid" "J" (.long f_madePaid) := r15.other W1 (Or.inr (slot_ne (Or.inl wl131) (Or.inl wl61) (by decide) (t := .long) (t' := (.object "com/example/amortine/amortine/PeriodRate")) (by decide) (by decide)))
  have f16 : FC Z h1 a0 "madeScale" "I" (.int f_madeScale) := r16.other W1 (Or.inr (slot_ne (Or.inl wl133) (Or.inl wl61) (by decide) (t := .int) (t' := (.object "com/example/amortine/amortine/PeriodRate")) (by decide) (by decide)))
  have f17 : FC Z h1 a0 "raised" "J" (.long f_raised) := r17.other W1 (Or.inr (slot_ne (Or.inl wl135) (Or.inl wl61) (by decide) (t := .long) (t' := (.object "com/example/amortine/amortine/PeriodRate")) (by decide) (by decide)))
  have f18 : FC Z h1 a0 "raisedScale" "I" (.int f_raisedScale) := r18.other W1 (Or.inr (slot_ne (Or.inl wl137) (Or.inl wl61) (by decide) (t := .int) (t' := (.object "com/example/amortine/amortine/PeriodRate")) (by decide) (by decide)))
  have f19 : FC Z h1 a0 "settled" "Z" (.int f_settled) := r19.other W1 (Or.inr (slot_ne (Or.inl wl139) (Or.inl wl61) (by decide) (t := .boolean) (t' := (.object "com/example/amortine/amortine/PeriodRate")) (by decide) (by decide)))
  have f20 : FC Z h1 a0 "tallied" "J" (.long f_tallied) := r20.other W1 (Or.inr (slot_ne (Or.inl wl161) (Or.inl wl61) (by decide) (t := .long) (t' := (.object "com/example/amortine/amortine/PeriodRate")) (by decide) (by decide)))
  have f21 : FC Z h1 a0 "talliedScale" "I" (.int f_talliedScale) := r21.other W1 (Or.inr (slot_ne (Or.inl wl163) (Or.inl wl61) (by decide) (t := .int) (t' := (.object "com/example/amortine/amortine/PeriodRate")) (by decide) (by decide)))
  have f22 : FC Z h1 a0 "indexation" "J" (.long f_indexation) := r22.other W1 (Or.inr (slot_ne (Or.inl wl165) (Or.inl wl61) (by decide) (t := .long) (t' := (.object "com/example/amortine/amortine/PeriodRate")) (by decide) (by decide)))
  have f23 : FC Z h1 a0 "indexationScale" "I" (.int f_indexationScale) := r23.other W1 (Or.inr (slot_ne (Or.inl wl167) (Or.inl wl61) (by decide) (t := .int) (t' := (.object "com/example/amortine/amortine/PeriodRate")) (by decide) (by decide)))
  have f24 : FC Z h1 a0 "perPeriodNumerator" "J" (.long (0 : Int64)) := r25.other W1 (Or.inr (slot_ne (Or.inl wl76) (Or.inl wl61) (by decide) (t := .long) (t' := (.object "com/example/amortine/amortine/PeriodRate")) (by decide) (by decide)))
  have f25 : FC Z h1 a0 "perPeriodDenominator" "J" (.long (0 : Int64)) := r26.other W1 (Or.inr (slot_ne (Or.inl wl78) (Or.inl wl61) (by decide) (t := .long) (t' := (.object "com/example/amortine/amortine/PeriodRate")) (by decide) (by decide)))
  have f26 : FC Z h1 a0 "reciprocal" "J" (.long (0 : Int64)) := r27.other W1 (Or.inr (slot_ne (Or.inl wl86) (Or.inl wl61) (by decide) (t := .long) (t' := (.object "com/example/amortine/amortine/PeriodRate")) (by decide) (by decide)))
  have f27 : FC Z h1 a0 "exactUpTo" "J" (.long (0 : Int64)) := r28.other W1 (Or.inr (slot_ne (Or.inl wl89) (Or.inl wl61) (by decide) (t := .long) (t' := (.object "com/example/amortine/amortine/PeriodRate")) (by decide) (by decide)))
  have f28 : Exa Z h1 a1 "com/example/amortine/amortine/PeriodRate" := r29.wr W1
  have f29 : FP Z h1 a1 "wholeTermsAsked" "Z" (.int (1 : Int32)) := r30.other W1 (Or.inl (Ne.symm r35))
  have f30 : FP Z h1 a1 "wholeTerms" "[J" (.ref b) := r31.other W1 (Or.inl (Ne.symm r35))
  have f31 : Arv Z h1 b kb .long (2 : Int32) [(.long x0), (.long x1)] (.long (0 : Int64)) := r32.other W1 (Ne.symm r36)
  have Zp1 : n0 ≤ h1.size := Nat.le_trans Z0 (Keep.of_wr W1).1
  have K1 : Keep h0 h1 [a0] := (Keep.refl h0 [a0]).wr W1 (Or.inl (List.mem_of_getElem? (i := 0) rfl))
  have N1 := Fr.snoc X1 N0 r1
  have f32 : FC Z h1 a0 "rate" "Lcom/example/amortine/amortine/PeriodRate;" (.ref a1) := r24.same W1
  obtain ⟨cq2, kq2, q2a, q2b, q2c⟩ := isOf hZ e1 f28
  obtain ⟨_, _, ⟨T2, L2, k2, n2⟩, -, X2, ⟨Lc2, hQ2, l2, y2, z2⟩, st2⟩ := X1.virtualBack hx (y := (⟨"com/example/amortine/amortine/PeriodRate", "perPeriodInLongs", "()[J"⟩ : MethodName)) (z := (⟨"com/example/amortine/amortine/PeriodRate", "perPeriodInLongs", "()[J"⟩ : MethodName)) hown (mvT hZ (hw _ (List.mem_of_getElem? (i := 62) rfl))) (mvT hZ (hw _ (List.mem_of_getElem? (i := 63) rfl))) (notFace_of_selects (args := #[]) (mvT hZ (hw _ (List.mem_of_getElem? (i := 65) rfl)))) (mvT hZ (hw _ (List.mem_of_getElem? (i := 65) rfl))) (mvT hZ (hw _ (List.mem_of_getElem? (i := 64) rfl))) (by decide) (backOf (W := 0) (rm8 l Z aw hw [] a1 b kb x0 x1 h1 n0 Zp1 (f28) (f29) (f30) (f31) (pa0) (pa1)) hZ (hw _ (List.mem_of_getElem? (i := 66) rfl)) (hw _ (List.mem_of_getElem? (i := 6) rfl)) (by decide) (by decide)) q2a q2c (g := (mkF m 6 #[.val (.ref a0), .val (.ref a1), .unset] [(.ref a1)])) rfl (by rw [hml]; rfl) (Steps.refl _) (argsL := []) (rest := []) (lenOf pd_7 rfl) rfl (by show 2 * 0 + _ ≤ _; exact Nat.le_of_eq rfl) (hb hby d7_6) (fun _ _ => ⟨rfl, e1, (by decide : 0 + 1 ≤ _), (by decide : 0 + 2 ≤ _)⟩)
  dsimp only [Pt.U, Pt.locs, Pt.cells, Pt.slots] at X2 l2 y2 z2 st2 hQ2
  obtain rfl : k2 = 1 := y2
  obtain rfl : n2 = 2 := z2
  obtain ⟨r2_kc, r2_n, r2_d, b2_c, rfl, N2q, K2q, sz_b2_cq, qf2_0, qf2_1, -⟩ := hQ2
  have ne_a0_b2_c : a0 ≠ b2_c := Nat.ne_of_lt (Nat.lt_of_lt_of_le f1.lt sz_b2_cq)
  have ne_a1_b2_c : a1 ≠ b2_c := Nat.ne_of_lt (Nat.lt_of_lt_of_le f28.lt sz_b2_cq)
  have ne_b_b2_c : b ≠ b2_c := Nat.ne_of_lt (Nat.lt_of_lt_of_le f31.lt sz_b2_cq)
  have g_b2_c : n0 ≤ b2_c := Nat.le_trans Zp1 sz_b2_cq
  have sz_b2_c : h0.size ≤ b2_c := Nat.le_trans K1.1 sz_b2_cq
  have f33 : Exa Z T2.heap a0 "com/example/amortine/amortine/CentAmounts" := f1.keep K2q
  have f34 : FC Z T2.heap a0 "perYear" "I" (.int f_perYear) := f2.keep K2q nin0
  have f35 : FC Z T2.heap a0 "balloon" "J" (.long f_balloon) := f3.keep K2q nin0
  have f36 : FC Z T2.heap a0 "balloonScale" "I" (.int f_balloonScale) := f4.keep K2q nin0
  have f37 : FC Z T2.heap a0 "closing" "J" (.long f_closing) := f5.keep K2q nin0
  have f38 : FC Z T2.heap a0 "closingScale" "I" (.int f_closingScale) := f6.keep K2q nin0
  have f39 : FC Z T2.heap a0 "opening" "J" (.long f_opening) := f7.keep K2q nin0
  have f40 : FC Z T2.heap a0 "interest" "J" (.long f_interest) := f8.keep K2q nin0
  have f41 : FC Z T2.heap a0 "owedBefore" "J" (.long f_owedBefore) := f9.keep K2q nin0
  have f42 : FC Z T2.heap a0 "openingScale" "I" (.int f_openingScale) := f10.keep K2q nin0
  have f43 : FC Z T2.heap a0 "payment" "J" (.long f_payment) := f11.keep K2q nin0
  have f44 : FC Z T2.heap a0 "paymentScale" "I" (.int f_paymentScale) := f12.keep K2q nin0
  have f45 : FC Z T2.heap a0 "principal" "J" (.long f_principal) := f13.keep K2q nin0
  have f46 : FC Z T2.heap a0 "principalScale" "I" (.int f_principalScale) := f14.keep K2q nin0
  have f47 : FC Z T2.heap a0 "madePaid" "J" (.long f_madePaid) := f15.keep K2q nin0
  have f48 : FC Z T2.heap a0 "madeScale" "I" (.int f_madeScale) := f16.keep K2q nin0
  have f49 : FC Z T2.heap a0 "raised" "J" (.long f_raised) := f17.keep K2q nin0
  have f50 : FC Z T2.heap a0 "raisedScale" "I" (.int f_raisedScale) := f18.keep K2q nin0
  have f51 : FC Z T2.heap a0 "settled" "Z" (.int f_settled) := f19.keep K2q nin0
  have f52 : FC Z T2.heap a0 "tallied" "J" (.long f_tallied) := f20.keep K2q nin0
  have f53 : FC Z T2.heap a0 "talliedScale" "I" (.int f_talliedScale) := f21.keep K2q nin0
  have f54 : FC Z T2.heap a0 "indexation" "J" (.long f_indexation) := f22.keep K2q nin0
  have f55 : FC Z T2.heap a0 "indexationScale" "I" (.int f_indexationScale) := f23.keep K2q nin0
  have f56 : FC Z T2.heap a0 "perPeriodNumerator" "J" (.long (0 : Int64)) := f24.keep K2q nin0
  have f57 : FC Z T2.heap a0 "perPeriodDenominator" "J" (.long (0 : Int64)) := f25.keep K2q nin0
  have f58 : FC Z T2.heap a0 "reciprocal" "J" (.long (0 : Int64)) := f26.keep K2q nin0
  have f59 : FC Z T2.heap a0 "exactUpTo" "J" (.long (0 : Int64)) := f27.keep K2q nin0
  have f60 : Exa Z T2.heap a1 "com/example/amortine/amortine/PeriodRate" := f28.keep K2q
  have f61 : FP Z T2.heap a1 "wholeTermsAsked" "Z" (.int (1 : Int32)) := f29.keep K2q nin0
  have f62 : FP Z T2.heap a1 "wholeTerms" "[J" (.ref b) := f30.keep K2q nin0
  have f63 : Arv Z T2.heap b kb .long (2 : Int32) [(.long x0), (.long x1)] (.long (0 : Int64)) := f31.keep K2q nin0
  have f64 : FC Z T2.heap a0 "rate" "Lcom/example/amortine/amortine/PeriodRate;" (.ref a1) := f32.keep K2q nin0
  have Zp2 : n0 ≤ T2.heap.size := Nat.le_trans Zp1 K2q.1
  have K2 : Keep h0 T2.heap [a0] := Keep.trans K1 K2q all0
  have f65 : Arv Z T2.heap b2_c r2_kc .long (2 : Int32) [(.long r2_n), (.long r2_d)] (.long (0 : Int64)) := qf2_0
  have N2 : Fr n0 L2 := by rw [l2]; exact Fr.app N1 N2q
  have go2 : Go p e below A0 (T2.setTop (mkF m 9 #[.val (.ref a0), .val (.ref a1), .unset] [(.ref b2_c)])) := by
    intro t k
    refine go1 t ?_
    refine st1 _ ?_
    show Steps p.tables e below (T1.setTop (mkF m 5 #[.val (.ref a0), .val (.ref a1), .unset] [])) _
    refine o_aloadN X1 hx hby d7_5 6 rfl rfl rfl ?_
    refine st2.trans ?_
    show Steps p.tables e below (T2.setTop (mkF m 9 #[.val (.ref a0), .val (.ref a1), .unset] [(.ref b2_c)])) _
    exact k
  obtain ⟨cl3, Ar3, q3, S3, M3, H3, G3⟩ := id f65
  have hin3 : ¬ ((0 : Int32) < 0 ∨ cl3.slots.size ≤ ((0 : Int32)).toNatClampNeg) := inb_of S3 ⟨by decide, by decide⟩
  have hat3 : cl3.slots[((0 : Int32)).toNatClampNeg]? = some (.long r2_n) := H3.at hin3 rfl
  have go3 : Go p e below A0 (T2.setTop (mkF m 22 #[.val (.ref a0), .val (.ref a1), .val (.ref b2_c)] [(.long r2_n), (.ref a0)])) := by
    intro t k
    refine go2 t ?_
    refine o_astoreN X2 hx hby d7_9 10 rfl rfl (l' := #[.val (.ref a0), .val (.ref a1), .val (.ref b2_c)]) rfl ?_
    refine o_aloadN X2 hx hby d7_10 11 rfl rfl rfl ?_
    refine o_aloadN X2 hx hby d7_11 12 rfl rfl rfl ?_
    refine o_ifnonnullY X2 hx hby d7_12 19 rfl ?_
    refine o_aloadN X2 hx hby d7_19 20 rfl rfl rfl ?_
    refine o_iconst X2 hx hby d7_20 21 rfl (v := (0 : Int32)) rfl ?_
    refine X2.laload hx (j := (0 : Int32)) (v := (.long r2_n)) Ar3.1 (State.isArrayOf_alike hZ.alike Ar3.2.1) Ar3.2.2 hin3 hat3 (g := (mkF m 21 #[.val (.ref a0), .val (.ref a1), .val (.ref b2_c)] [(.int (0 : Int32)), (.ref b2_c), (.ref a0)])) rfl rfl (hb hby d7_21) _ ?_
    show Steps p.tables e below (T2.setTop (mkF m 22 #[.val (.ref a0), .val (.ref a1), .val (.ref b2_c)] [(.long r2_n), (.ref a0)])) _
    exact k
  obtain ⟨T4, h4, X4, e4, W4, st4⟩ := putF X2 hx hZ hown (host := "") (Or.inl (hw _ (List.mem_of_getElem? (i := 75) rfl))) Via.refl rfl f56 f33 (Or.inl (hw _ (List.mem_of_getElem? (i := 76) rfl))) (hw _ (List.mem_of_getElem? (i := 40) rfl)) (ty := .long) (by decide) rfl rfl (g := (mkF m 22 #[.val (.ref a0), .val (.ref a1), .val (.ref b2_c)] [(.long r2_n), (.ref a0)])) rfl rfl (hb hby d7_22)
  have f66 : Exa Z h4 a0 "com/example/amortine/amortine/CentAmounts" := f33.wr W4
  have f67 : FC Z h4 a0 "perYear" "I" (.int f_perYear) := f34.other W4 (Or.inr (slot_ne (Or.inr wl47) (Or.inl wl76) (by decide) (t := .int) (t' := .long) (by decide) (by decide)))
  have f68 : FC Z h4 a0 "balloon" "J" (.long f_balloon) := f35.other W4 (Or.inr (slot_ne (Or.inr wl49) (Or.inl wl76) (by decide) (t := .long) (t' := .long) (by decide) (by decide)))
  have f69 : FC Z h4 a0 "balloonScale" "I" (.int f_balloonScale) := f36.other W4 (Or.inr (slot_ne (Or.inr wl51) (Or.inl wl76) (by decide) (t := .int) (t' := .long) (by decide) (by decide)))
  have f70 : FC Z h4 a0 "closing" "J" (.long f_closing) := f37.other W4 (Or.inr (slot_ne (Or.inl wl53) (Or.inl wl76) (by decide) (t := .long) (t' := .long) (by decide) (by decide)))
  have f71 : FC Z h4 a0 "closingScale" "I" (.int f_closingScale) := f38.other W4 (Or.inr (slot_ne (Or.inl wl55) (Or.inl wl76) (by decide) (t := .int) (t' := .long) (by decide) (by decide)))
  have f72 : FC Z h4 a0 "opening" "J" (.long f_opening) := f39.other W4 (Or.inr (slot_ne (Or.inl wl96) (Or.inl wl76) (by decide) (t := .long) (t' := .long) (by decide) (by decide)))
  have f73 : FC Z h4 a0 "interest" "J" (.long f_interest) := f40.other W4 (Or.inr (slot_ne (Or.inl wl98) (Or.inl wl76) (by decide) (t := .long) (t' := .long) (by decide) (by decide)))
  have f74 : FC Z h4 a0 "owedBefore" "J" (.long f_owedBefore) := f41.other W4 (Or.inr (slot_ne (Or.inl wl100) (Or.inl wl76) (by decide) (t := .long) (t' := .long) (by decide) (by decide)))
  have f75 : FC Z h4 a0 "openingScale" "I" (.int f_openingScale) := f42.other W4 (Or.inr (slot_ne (Or.inl wl121) (Or.inl wl76) (by decide) (t := .int) (t' := .long) (by decide) (by decide)))
  have f76 : FC Z h4 a0 "payment" "J" (.long f_payment) := f43.other W4 (Or.inr (slot_ne (Or.inl wl123) (Or.inl wl76) (by decide) (t := .long) (t' := .long) (by decide) (by decide)))
  have f77 : FC Z h4 a0 "paymentScale" "I" (.int f_paymentScale) := f44.other W4 (Or.inr (slot_ne (Or.inl wl125) (Or.inl wl76) (by decide) (t := .int) (t' := .long) (by decide) (by decide)))
  have f78 : FC Z h4 a0 "principal" "J" (.long f_principal) := f45.other W4 (Or.inr (slot_ne (Or.inl wl127) (Or.inl wl76) (by decide) (t := .long) (t' := .long) (by decide) (by decide)))
  have f79 : FC Z h4 a0 "principalScale" "I" (.int f_principalScale) := f46.other W4 (Or.inr (slot_ne (Or.inl wl129) (Or.inl wl76) (by decide) (t := .int) (t' := .long) (by decide) (by decide)))
  have f80 : FC Z h4 a0 "madePaid" "J" (.long f_madePaid) := f47.other W4 (Or.inr (slot_ne (Or.inl wl131) (Or.inl wl76) (by decide) (t := .long) (t' := .long) (by decide) (by decide)))
  have f81 : FC Z h4 a0 "madeScale" "I" (.int f_madeScale) := f48.other W4 (Or.inr (slot_ne (Or.inl wl133) (Or.inl wl76) (by decide) (t := .int) (t' := .long) (by decide) (by decide)))
  have f82 : FC Z h4 a0 "raised" "J" (.long f_raised) := f49.other W4 (Or.inr (slot_ne (Or.inl wl135) (Or.inl wl76) (by decide) (t := .long) (t' := .long) (by decide) (by decide)))
  have f83 : FC Z h4 a0 "raisedScale" "I" (.int f_raisedScale) := f50.other W4 (Or.inr (slot_ne (Or.inl wl137) (Or.inl wl76) (by decide) (t := .int) (t' := .long) (by decide) (by decide)))
  have f84 : FC Z h4 a0 "settled" "Z" (.int f_settled) := f51.other W4 (Or.inr (slot_ne (Or.inl wl139) (Or.inl wl76) (by decide) (t := .boolean) (t' := .long) (by decide) (by decide)))
  have f85 : FC Z h4 a0 "tallied" "J" (.long f_tallied) := f52.other W4 (Or.inr (slot_ne (Or.inl wl161) (Or.inl wl76) (by decide) (t := .long) (t' := .long) (by decide) (by decide)))
  have f86 : FC Z h4 a0 "talliedScale" "I" (.int f_talliedScale) := f53.other W4 (Or.inr (slot_ne (Or.inl wl163) (Or.inl wl76) (by decide) (t := .int) (t' := .long) (by decide) (by decide)))
  have f87 : FC Z h4 a0 "indexation" "J" (.long f_indexation) := f54.other W4 (Or.inr (slot_ne (Or.inl wl165) (Or.inl wl76) (by decide) (t := .long) (t' := .long) (by decide) (by decide)))
  have f88 : FC Z h4 a0 "indexationScale" "I" (.int f_indexationScale) := f55.other W4 (Or.inr (slot_ne (Or.inl wl167) (Or.inl wl76) (by decide) (t := .int) (t' := .long) (by decide) (by decide)))
  have f89 : FC Z h4 a0 "perPeriodDenominator" "J" (.long (0 : Int64)) := f57.other W4 (Or.inr (slot_ne (Or.inl wl78) (Or.inl wl76) (by decide) (t := .long) (t' := .long) (by decide) (by decide)))
  have f90 : FC Z h4 a0 "reciprocal" "J" (.long (0 : Int64)) := f58.other W4 (Or.inr (slot_ne (Or.inl wl86) (Or.inl wl76) (by decide) (t := .long) (t' := .long) (by decide) (by decide)))
  have f91 : FC Z h4 a0 "exactUpTo" "J" (.long (0 : Int64)) := f59.other W4 (Or.inr (slot_ne (Or.inl wl89) (Or.inl wl76) (by decide) (t := .long) (t' := .long) (by decide) (by decide)))
  have f92 : Exa Z h4 a1 "com/example/amortine/amortine/PeriodRate" := f60.wr W4
  have f93 : FP Z h4 a1 "wholeTermsAsked" "Z" (.int (1 : Int32)) := f61.other W4 (Or.inl (Ne.symm r35))
  have f94 : FP Z h4 a1 "wholeTerms" "[J" (.ref b) := f62.other W4 (Or.inl (Ne.symm r35))
  have f95 : Arv Z h4 b kb .long (2 : Int32) [(.long x0), (.long x1)] (.long (0 : Int64)) := f63.other W4 (Ne.symm r36)
  have f96 : FC Z h4 a0 "rate" "Lcom/example/amortine/amortine/PeriodRate;" (.ref a1) := f64.other W4 (Or.inr (slot_ne (Or.inl wl61) (Or.inl wl76) (by decide) (t := (.object "com/example/amortine/amortine/PeriodRate")) (t' := .long) (by decide) (by decide)))
  have f97 : Arv Z h4 b2_c r2_kc .long (2 : Int32) [(.long r2_n), (.long r2_d)] (.long (0 : Int64)) := f65.other W4 (Ne.symm ne_a0_b2_c)
  have Zp4 : n0 ≤ h4.size := Nat.le_trans Zp2 (Keep.of_wr W4).1
  have K4 : Keep h0 h4 [a0] := K2.wr W4 (Or.inl (List.mem_of_getElem? (i := 0) rfl))
  have N4 := Fr.snoc X4 N2 r1
  have f98 : FC Z h4 a0 "perPeriodNumerator" "J" (.long r2_n) := f56.same W4
  obtain ⟨cl5, Ar5, q5, S5, M5, H5, G5⟩ := id f97
  have hin5 : ¬ ((1 : Int32) < 0 ∨ cl5.slots.size ≤ ((1 : Int32)).toNatClampNeg) := inb_of S5 ⟨by decide, by decide⟩
  have hat5 : cl5.slots[((1 : Int32)).toNatClampNeg]? = some (.long r2_d) := H5.at hin5 rfl
  have go4 : Go p e below A0 (T4.setTop (mkF m 37 #[.val (.ref a0), .val (.ref a1), .val (.ref b2_c)] [(.long r2_d), (.ref a0)])) := by
    intro t k
    refine go3 t ?_
    refine st4 _ ?_
    show Steps p.tables e below (T4.setTop (mkF m 25 #[.val (.ref a0), .val (.ref a1), .val (.ref b2_c)] [])) _
    refine o_aloadN X4 hx hby d7_25 26 rfl rfl rfl ?_
    refine o_aloadN X4 hx hby d7_26 27 rfl rfl rfl ?_
    refine o_ifnonnullY X4 hx hby d7_27 34 rfl ?_
    refine o_aloadN X4 hx hby d7_34 35 rfl rfl rfl ?_
    refine o_iconst X4 hx hby d7_35 36 rfl (v := (1 : Int32)) rfl ?_
    refine X4.laload hx (j := (1 : Int32)) (v := (.long r2_d)) (by rw [e4]; exact Ar5.1) (State.isArrayOf_alike hZ.alike Ar5.2.1) Ar5.2.2 hin5 hat5 (g := (mkF m 36 #[.val (.ref a0), .val (.ref a1), .val (.ref b2_c)] [(.int (1 : Int32)), (.ref b2_c), (.ref a0)])) rfl rfl (hb hby d7_36) _ ?_
    show Steps p.tables e below (T4.setTop (mkF m 37 #[.val (.ref a0), .val (.ref a1), .val (.ref b2_c)] [(.long r2_d), (.ref a0)])) _
    exact k
  obtain ⟨T6, h6, X6, e6, W6, st6⟩ := putF X4 hx hZ hown (host := "") (Or.inl (hw _ (List.mem_of_getElem? (i := 77) rfl))) Via.refl e4 f89 f66 (Or.inl (hw _ (List.mem_of_getElem? (i := 78) rfl))) (hw _ (List.mem_of_getElem? (i := 40) rfl)) (ty := .long) (by decide) rfl rfl (g := (mkF m 37 #[.val (.ref a0), .val (.ref a1), .val (.ref b2_c)] [(.long r2_d), (.ref a0)])) rfl rfl (hb hby d7_37)
  have f99 : Exa Z h6 a0 "com/example/amortine/amortine/CentAmounts" := f66.wr W6
  have f100 : FC Z h6 a0 "perYear" "I" (.int f_perYear) := f67.other W6 (Or.inr (slot_ne (Or.inr wl47) (Or.inl wl78) (by decide) (t := .int) (t' := .long) (by decide) (by decide)))
  have f101 : FC Z h6 a0 "balloon" "J" (.long f_balloon) := f68.other W6 (Or.inr (slot_ne (Or.inr wl49) (Or.inl wl78) (by decide) (t := .long) (t' := .long) (by decide) (by decide)))
  have f102 : FC Z h6 a0 "balloonScale" "I" (.int f_balloonScale) := f69.other W6 (Or.inr (slot_ne (Or.inr wl51) (Or.inl wl78) (by decide) (t := .int) (t' := .long) (by decide) (by decide)))
  have f103 : FC Z h6 a0 "closing" "J" (.long f_closing) := f70.other W6 (Or.inr (slot_ne (Or.inl wl53) (Or.inl wl78) (by decide) (t := .long) (t' := .long) (by decide) (by decide)))
  have f104 : FC Z h6 a0 "closingScale" "I" (.int f_closingScale) := f71.other W6 (Or.inr (slot_ne (Or.inl wl55) (Or.inl wl78) (by decide) (t := .int) (t' := .long) (by decide) (by decide)))
  have f105 : FC Z h6 a0 "opening" "J" (.long f_opening) := f72.other W6 (Or.inr (slot_ne (Or.inl wl96) (Or.inl wl78) (by decide) (t := .long) (t' := .long) (by decide) (by decide)))
  have f106 : FC Z h6 a0 "interest" "J" (.long f_interest) := f73.other W6 (Or.inr (slot_ne (Or.inl wl98) (Or.inl wl78) (by decide) (t := .long) (t' := .long) (by decide) (by decide)))
  have f107 : FC Z h6 a0 "owedBefore" "J" (.long f_owedBefore) := f74.other W6 (Or.inr (slot_ne (Or.inl wl100) (Or.inl wl78) (by decide) (t := .long) (t' := .long) (by decide) (by decide)))
  have f108 : FC Z h6 a0 "openingScale" "I" (.int f_openingScale) := f75.other W6 (Or.inr (slot_ne (Or.inl wl121) (Or.inl wl78) (by decide) (t := .int) (t' := .long) (by decide) (by decide)))
  have f109 : FC Z h6 a0 "payment" "J" (.long f_payment) := f76.other W6 (Or.inr (slot_ne (Or.inl wl123) (Or.inl wl78) (by decide) (t := .long) (t' := .long) (by decide) (by decide)))
  have f110 : FC Z h6 a0 "paymentScale" "I" (.int f_paymentScale) := f77.other W6 (Or.inr (slot_ne (Or.inl wl125) (Or.inl wl78) (by decide) (t := .int) (t' := .long) (by decide) (by decide)))
  have f111 : FC Z h6 a0 "principal" "J" (.long f_principal) := f78.other W6 (Or.inr (slot_ne (Or.inl wl127) (Or.inl wl78) (by decide) (t := .long) (t' := .long) (by decide) (by decide)))
  have f112 : FC Z h6 a0 "principalScale" "I" (.int f_principalScale) := f79.other W6 (Or.inr (slot_ne (Or.inl wl129) (Or.inl wl78) (by decide) (t := .int) (t' := .long) (by decide) (by decide)))
  have f113 : FC Z h6 a0 "madePaid" "J" (.long f_madePaid) := f80.other W6 (Or.inr (slot_ne (Or.inl wl131) (Or.inl wl78) (by decide) (t := .long) (t' := .long) (by decide) (by decide)))
  have f114 : FC Z h6 a0 "madeScale" "I" (.int f_madeScale) := f81.other W6 (Or.inr (slot_ne (Or.inl wl133) (Or.inl wl78) (by decide) (t := .int) (t' := .long) (by decide) (by decide)))
  have f115 : FC Z h6 a0 "raised" "J" (.long f_raised) := f82.other W6 (Or.inr (slot_ne (Or.inl wl135) (Or.inl wl78) (by decide) (t := .long) (t' := .long) (by decide) (by decide)))
  have f116 : FC Z h6 a0 "raisedScale" "I" (.int f_raisedScale) := f83.other W6 (Or.inr (slot_ne (Or.inl wl137) (Or.inl wl78) (by decide) (t := .int) (t' := .long) (by decide) (by decide)))
  have f117 : FC Z h6 a0 "settled" "Z" (.int f_settled) := f84.other W6 (Or.inr (slot_ne (Or.inl wl139) (Or.inl wl78) (by decide) (t := .boolean) (t' := .long) (by decide) (by decide)))
  have f118 : FC Z h6 a0 "tallied" "J" (.long f_tallied) := f85.other W6 (Or.inr (slot_ne (Or.inl wl161) (Or.inl wl78) (by decide) (t := .long) (t' := .long) (by decide) (by decide)))
  have f119 : FC Z h6 a0 "talliedScale" "I" (.int f_talliedScale) := f86.other W6 (Or.inr (slot_ne (Or.inl wl163) (Or.inl wl78) (by decide) (t := .int) (t' := .long) (by decide) (by decide)))
  have f120 : FC Z h6 a0 "indexation" "J" (.long f_indexation) := f87.other W6 (Or.inr (slot_ne (Or.inl wl165) (Or.inl wl78) (by decide) (t := .long) (t' := .long) (by decide) (by decide)))
  have f121 : FC Z h6 a0 "indexationScale" "I" (.int f_indexationScale) := f88.other W6 (Or.inr (slot_ne (Or.inl wl167) (Or.inl wl78) (by decide) (t := .int) (t' := .long) (by decide) (by decide)))
  have f122 : FC Z h6 a0 "reciprocal" "J" (.long (0 : Int64)) := f90.other W6 (Or.inr (slot_ne (Or.inl wl86) (Or.inl wl78) (by decide) (t := .long) (t' := .long) (by decide) (by decide)))
  have f123 : FC Z h6 a0 "exactUpTo" "J" (.long (0 : Int64)) := f91.other W6 (Or.inr (slot_ne (Or.inl wl89) (Or.inl wl78) (by decide) (t := .long) (t' := .long) (by decide) (by decide)))
  have f124 : Exa Z h6 a1 "com/example/amortine/amortine/PeriodRate" := f92.wr W6
  have f125 : FP Z h6 a1 "wholeTermsAsked" "Z" (.int (1 : Int32)) := f93.other W6 (Or.inl (Ne.symm r35))
  have f126 : FP Z h6 a1 "wholeTerms" "[J" (.ref b) := f94.other W6 (Or.inl (Ne.symm r35))
  have f127 : Arv Z h6 b kb .long (2 : Int32) [(.long x0), (.long x1)] (.long (0 : Int64)) := f95.other W6 (Ne.symm r36)
  have f128 : FC Z h6 a0 "rate" "Lcom/example/amortine/amortine/PeriodRate;" (.ref a1) := f96.other W6 (Or.inr (slot_ne (Or.inl wl61) (Or.inl wl78) (by decide) (t := (.object "com/example/amortine/amortine/PeriodRate")) (t' := .long) (by decide) (by decide)))
  have f129 : Arv Z h6 b2_c r2_kc .long (2 : Int32) [(.long r2_n), (.long r2_d)] (.long (0 : Int64)) := f97.other W6 (Ne.symm ne_a0_b2_c)
  have f130 : FC Z h6 a0 "perPeriodNumerator" "J" (.long r2_n) := f98.other W6 (Or.inr (slot_ne (Or.inl wl76) (Or.inl wl78) (by decide) (t := .long) (t' := .long) (by decide) (by decide)))
  have Zp6 : n0 ≤ h6.size := Nat.le_trans Zp4 (Keep.of_wr W6).1
  have K6 : Keep h0 h6 [a0] := K4.wr W6 (Or.inl (List.mem_of_getElem? (i := 0) rfl))
  have N6 := Fr.snoc X6 N4 r1
  have f131 : FC Z h6 a0 "perPeriodDenominator" "J" (.long r2_d) := f89.same W6
  obtain ⟨T7, X7, e7, st7⟩ := getF X6 hx hZ hown (host := "") (Or.inl (hw _ (List.mem_of_getElem? (i := 77) rfl))) Via.refl e6 f131 (g := (mkF m 42 #[.val (.ref a0), .val (.ref a1), .val (.ref b2_c)] [(.ref a0), (.ref a0)])) rfl rfl (hb hby d7_42)
  obtain ⟨T8, X8, e8, st8⟩ := getF X7 hx hZ hown (host := "") (Or.inl (hw _ (List.mem_of_getElem? (i := 77) rfl))) Via.refl e7 f131 (g := (mkF m 58 #[.val (.ref a0), .val (.ref a1), .val (.ref b2_c)] [(.ref a0), (.long (-1 : Int64)), (.ref a0)])) rfl rfl (hb hby d7_58)
  have go5 : Go p e below A0 (T8.setTop (mkF m 61 #[.val (.ref a0), .val (.ref a1), .val (.ref b2_c)] [(.long r2_d), (.long (-1 : Int64)), (.ref a0)])) := by
    intro t k
    refine go4 t ?_
    refine st6 _ ?_
    show Steps p.tables e below (T6.setTop (mkF m 40 #[.val (.ref a0), .val (.ref a1), .val (.ref b2_c)] [])) _
    refine o_aloadN X6 hx hby d7_40 41 rfl rfl rfl ?_
    refine o_aloadN X6 hx hby d7_41 42 rfl rfl rfl ?_
    refine st7 _ ?_
    show Steps p.tables e below (T7.setTop (mkF m 45 #[.val (.ref a0), .val (.ref a1), .val (.ref b2_c)] [(.long r2_d), (.ref a0)])) _
    refine o_lconst X7 hx hby d7_45 46 rfl (v := (0 : Int64)) rfl ?_
    refine o_lcmp X7 hx hby d7_46 47 rfl ?_
    refine o_ifY X7 hx hby d7_47 54 rfl (feq (fun q => (own_nz1 qf2_1.2.2.1) ((lw_eq r2_d (0 : Int64)).mp q))).2 ?_
    refine o_ldc2Long X7 hx hby hown (mvT hZ (hw _ (List.mem_of_getElem? (i := 79) rfl))) d7_54 57 rfl ?_
    refine o_aloadN X7 hx hby d7_57 58 rfl rfl rfl ?_
    refine st8 _ ?_
    show Steps p.tables e below (T8.setTop (mkF m 61 #[.val (.ref a0), .val (.ref a1), .val (.ref b2_c)] [(.long r2_d), (.long (-1 : Int64)), (.ref a0)])) _
    exact k
  obtain ⟨_, _, ⟨T9, L9, k9, n9⟩, -, X9, ⟨Lc9, hQ9, l9, y9, z9⟩, st9⟩ := Jvm.LawKit.callS X8 hx (y := (⟨"java/lang/Long", "divideUnsigned", "(JJ)J"⟩ : MethodName)) hown (mvT hZ (hw _ (List.mem_of_getElem? (i := 80) rfl))) (mvT hZ (hw _ (List.mem_of_getElem? (i := 81) rfl))) (mvT hZ (hw _ (List.mem_of_getElem? (i := 82) rfl))) (mvT hZ (hw _ (List.mem_of_getElem? (i := 83) rfl))) (by decide) (backOf (W := 1) (rm11 l Z aw hw [] (-1 : Int64) r2_d h6 n0 Zp6 (qf2_1.2.2.1)) hZ (hw _ (List.mem_of_getElem? (i := 83) rfl)) (hw _ (List.mem_of_getElem? (i := 82) rfl)) (by decide) (by decide)) (g := (mkF m 61 #[.val (.ref a0), .val (.ref a1), .val (.ref b2_c)] [(.long r2_d), (.long (-1 : Int64)), (.ref a0)])) rfl (by rw [hml]; rfl) (argsL := [(.long (-1 : Int64)), (.long r2_d)]) (rest := [(.ref a0)]) (lenOf pd_8 rfl) rfl (by show 2 * 0 + _ ≤ _; exact Nat.le_of_eq rfl) (hb hby d7_61) (fun _ _ => ⟨rfl, e8, (by decide : 1 + 0 ≤ _), (by decide : 2 + 0 ≤ _)⟩)
  dsimp only [Pt.U, Pt.locs, Pt.cells, Pt.slots] at X9 l9 y9 z9 st9 hQ9
  obtain rfl : k9 = 1 := y9
  obtain rfl : n9 = 2 := z9
  obtain ⟨rfl, N9q, e9⟩ := hQ9
  have N9 : Fr n0 L9 := by rw [l9]; exact Fr.app N6 N9q
  have go6 : Go p e below A0 (T9.setTop (mkF m 64 #[.val (.ref a0), .val (.ref a1), .val (.ref b2_c)] [(.long (Fdu (-1 : Int64) r2_d)), (.ref a0)])) := by
    intro t k
    refine go5 t ?_
    refine st9 _ ?_
    show Steps p.tables e below (T9.setTop (mkF m 64 #[.val (.ref a0), .val (.ref a1), .val (.ref b2_c)] [(.long (Fdu (-1 : Int64) r2_d)), (.ref a0)])) _
    exact k
  obtain ⟨v1, hv1, go7⟩ : ∃ v1 : Int64, v1 = (Fdu (-1 : Int64) r2_d) ∧ Go p e below A0 (T9.setTop (mkF m 64 #[.val (.ref a0), .val (.ref a1), .val (.ref b2_c)] [(.long v1), (.ref a0)])) := ⟨_, rfl, go6⟩
  obtain ⟨T10, h10, X10, e10, W10, st10⟩ := putF X9 hx hZ hown (host := "") (Or.inl (hw _ (List.mem_of_getElem? (i := 85) rfl))) Via.refl e9 f122 f99 (Or.inl (hw _ (List.mem_of_getElem? (i := 86) rfl))) (hw _ (List.mem_of_getElem? (i := 40) rfl)) (ty := .long) (by decide) rfl rfl (g := (mkF m 64 #[.val (.ref a0), .val (.ref a1), .val (.ref b2_c)] [(.long v1), (.ref a0)])) rfl rfl (hb hby d7_64)
  have f132 : Exa Z h10 a0 "com/example/amortine/amortine/CentAmounts" := f99.wr W10
  have f133 : FC Z h10 a0 "perYear" "I" (.int f_perYear) := f100.other W10 (Or.inr (slot_ne (Or.inr wl47) (Or.inl wl86) (by decide) (t := .int) (t' := .long) (by decide) (by decide)))
  have f134 : FC Z h10 a0 "balloon" "J" (.long f_balloon) := f101.other W10 (Or.inr (slot_ne (Or.inr wl49) (Or.inl wl86) (by decide) (t := .long) (t' := .long) (by decide) (by decide)))
  have f135 : FC Z h10 a0 "balloonScale" "I" (.int f_balloonScale) := f102.other W10 (Or.inr (slot_ne (Or.inr wl51) (Or.inl wl86) (by decide) (t := .int) (t' := .long) (by decide) (by decide)))
  have f136 : FC Z h10 a0 "closing" "J" (.long f_closing) := f103.other W10 (Or.inr (slot_ne (Or.inl wl53) (Or.inl wl86) (by decide) (t := .long) (t' := .long) (by decide) (by decide)))
  have f137 : FC Z h10 a0 "closingScale" "I" (.int f_closingScale) := f104.other W10 (Or.inr (slot_ne (Or.inl wl55) (Or.inl wl86) (by decide) (t := .int) (t' := .long) (by decide) (by decide)))
  have f138 : FC Z h10 a0 "opening" "J" (.long f_opening) := f105.other W10 (Or.inr (slot_ne (Or.inl wl96) (Or.inl wl86) (by decide) (t := .long) (t' := .long) (by decide) (by decide)))
  have f139 : FC Z h10 a0 "interest" "J" (.long f_interest) := f106.other W10 (Or.inr (slot_ne (Or.inl wl98) (Or.inl wl86) (by decide) (t := .long) (t' := .long) (by decide) (by decide)))
  have f140 : FC Z h10 a0 "owedBefore" "J" (.long f_owedBefore) := f107.other W10 (Or.inr (slot_ne (Or.inl wl100) (Or.inl wl86) (by decide) (t := .long) (t' := .long) (by decide) (by decide)))
  have f141 : FC Z h10 a0 "openingScale" "I" (.int f_openingScale) := f108.other W10 (Or.inr (slot_ne (Or.inl wl121) (Or.inl wl86) (by decide) (t := .int) (t' := .long) (by decide) (by decide)))
  have f142 : FC Z h10 a0 "payment" "J" (.long f_payment) := f109.other W10 (Or.inr (slot_ne (Or.inl wl123) (Or.inl wl86) (by decide) (t := .long) (t' := .long) (by decide) (by decide)))
  have f143 : FC Z h10 a0 "paymentScale" "I" (.int f_paymentScale) := f110.other W10 (Or.inr (slot_ne (Or.inl wl125) (Or.inl wl86) (by decide) (t := .int) (t' := .long) (by decide) (by decide)))
  have f144 : FC Z h10 a0 "principal" "J" (.long f_principal) := f111.other W10 (Or.inr (slot_ne (Or.inl wl127) (Or.inl wl86) (by decide) (t := .long) (t' := .long) (by decide) (by decide)))
  have f145 : FC Z h10 a0 "principalScale" "I" (.int f_principalScale) := f112.other W10 (Or.inr (slot_ne (Or.inl wl129) (Or.inl wl86) (by decide) (t := .int) (t' := .long) (by decide) (by decide)))
  have f146 : FC Z h10 a0 "madePaid" "J" (.long f_madePaid) := f113.other W10 (Or.inr (slot_ne (Or.inl wl131) (Or.inl wl86) (by decide) (t := .long) (t' := .long) (by decide) (by decide)))
  have f147 : FC Z h10 a0 "madeScale" "I" (.int f_madeScale) := f114.other W10 (Or.inr (slot_ne (Or.inl wl133) (Or.inl wl86) (by decide) (t := .int) (t' := .long) (by decide) (by decide)))
  have f148 : FC Z h10 a0 "raised" "J" (.long f_raised) := f115.other W10 (Or.inr (slot_ne (Or.inl wl135) (Or.inl wl86) (by decide) (t := .long) (t' := .long) (by decide) (by decide)))
  have f149 : FC Z h10 a0 "raisedScale" "I" (.int f_raisedScale) := f116.other W10 (Or.inr (slot_ne (Or.inl wl137) (Or.inl wl86) (by decide) (t := .int) (t' := .long) (by decide) (by decide)))
  have f150 : FC Z h10 a0 "settled" "Z" (.int f_settled) := f117.other W10 (Or.inr (slot_ne (Or.inl wl139) (Or.inl wl86) (by decide) (t := .boolean) (t' := .long) (by decide) (by decide)))
  have f151 : FC Z h10 a0 "tallied" "J" (.long f_tallied) := f118.other W10 (Or.inr (slot_ne (Or.inl wl161) (Or.inl wl86) (by decide) (t := .long) (t' := .long) (by decide) (by decide)))
  have f152 : FC Z h10 a0 "talliedScale" "I" (.int f_talliedScale) := f119.other W10 (Or.inr (slot_ne (Or.inl wl163) (Or.inl wl86) (by decide) (t := .int) (t' := .long) (by decide) (by decide)))
  have f153 : FC Z h10 a0 "indexation" "J" (.long f_indexation) := f120.other W10 (Or.inr (slot_ne (Or.inl wl165) (Or.inl wl86) (by decide) (t := .long) (t' := .long) (by decide) (by decide)))
  have f154 : FC Z h10 a0 "indexationScale" "I" (.int f_indexationScale) := f121.other W10 (Or.inr (slot_ne (Or.inl wl167) (Or.inl wl86) (by decide) (t := .int) (t' := .long) (by decide) (by decide)))
  have f155 : FC Z h10 a0 "exactUpTo" "J" (.long (0 : Int64)) := f123.other W10 (Or.inr (slot_ne (Or.inl wl89) (Or.inl wl86) (by decide) (t := .long) (t' := .long) (by decide) (by decide)))
  have f156 : Exa Z h10 a1 "com/example/amortine/amortine/PeriodRate" := f124.wr W10
  have f157 : FP Z h10 a1 "wholeTermsAsked" "Z" (.int (1 : Int32)) := f125.other W10 (Or.inl (Ne.symm r35))
  have f158 : FP Z h10 a1 "wholeTerms" "[J" (.ref b) := f126.other W10 (Or.inl (Ne.symm r35))
  have f159 : Arv Z h10 b kb .long (2 : Int32) [(.long x0), (.long x1)] (.long (0 : Int64)) := f127.other W10 (Ne.symm r36)
  have f160 : FC Z h10 a0 "rate" "Lcom/example/amortine/amortine/PeriodRate;" (.ref a1) := f128.other W10 (Or.inr (slot_ne (Or.inl wl61) (Or.inl wl86) (by decide) (t := (.object "com/example/amortine/amortine/PeriodRate")) (t' := .long) (by decide) (by decide)))
  have f161 : Arv Z h10 b2_c r2_kc .long (2 : Int32) [(.long r2_n), (.long r2_d)] (.long (0 : Int64)) := f129.other W10 (Ne.symm ne_a0_b2_c)
  have f162 : FC Z h10 a0 "perPeriodNumerator" "J" (.long r2_n) := f130.other W10 (Or.inr (slot_ne (Or.inl wl76) (Or.inl wl86) (by decide) (t := .long) (t' := .long) (by decide) (by decide)))
  have f163 : FC Z h10 a0 "perPeriodDenominator" "J" (.long r2_d) := f131.other W10 (Or.inr (slot_ne (Or.inl wl78) (Or.inl wl86) (by decide) (t := .long) (t' := .long) (by decide) (by decide)))
  have Zp10 : n0 ≤ h10.size := Nat.le_trans Zp6 (Keep.of_wr W10).1
  have K10 : Keep h0 h10 [a0] := K6.wr W10 (Or.inl (List.mem_of_getElem? (i := 0) rfl))
  have N10 := Fr.snoc X10 N9 r1
  have f164 : FC Z h10 a0 "reciprocal" "J" (.long v1) := f122.same W10
  obtain ⟨T11, X11, e11, st11⟩ := getF X10 hx hZ hown (host := "") (Or.inl (hw _ (List.mem_of_getElem? (i := 77) rfl))) Via.refl e10 f163 (g := (mkF m 68 #[.val (.ref a0), .val (.ref a1), .val (.ref b2_c)] [(.ref a0)])) rfl rfl (hb hby d7_68)
  obtain ⟨T12, X12, e12, st12⟩ := getF X11 hx hZ hown (host := "") (Or.inl (hw _ (List.mem_of_getElem? (i := 75) rfl))) Via.refl e11 f162 (g := (mkF m 87 #[.val (.ref a0), .val (.ref a1), .val (.ref b2_c)] [(.ref a0)])) rfl rfl (hb hby d7_87)
  obtain ⟨T13, X13, e13, st13⟩ := getF X12 hx hZ hown (host := "") (Or.inl (hw _ (List.mem_of_getElem? (i := 75) rfl))) Via.refl e12 f162 (g := (mkF m 110 #[.val (.ref a0), .val (.ref a1), .val (.ref b2_c)] [(.ref a0), (.long (9223372036854775807 : Int64)), (.ref a0)])) rfl rfl (hb hby d7_110)
  have go8 : Go p e below A0 (T13.setTop (mkF m 113 #[.val (.ref a0), .val (.ref a1), .val (.ref b2_c)] [(.long r2_n), (.long (9223372036854775807 : Int64)), (.ref a0)])) := by
    intro t k
    refine go7 t ?_
    refine st10 _ ?_
    show Steps p.tables e below (T10.setTop (mkF m 67 #[.val (.ref a0), .val (.ref a1), .val (.ref b2_c)] [])) _
    refine o_aloadN X10 hx hby d7_67 68 rfl rfl rfl ?_
    refine st11 _ ?_
    show Steps p.tables e below (T11.setTop (mkF m 71 #[.val (.ref a0), .val (.ref a1), .val (.ref b2_c)] [(.long r2_d)])) _
    refine o_lconst X11 hx hby d7_71 72 rfl (v := (0 : Int64)) rfl ?_
    refine o_lcmp X11 hx hby d7_72 73 rfl ?_
    refine o_ifY X11 hx hby d7_73 86 rfl (feq (fun q => (own_nz1 qf2_1.2.2.1) ((lw_eq r2_d (0 : Int64)).mp q))).2 ?_
    refine o_aloadN X11 hx hby d7_86 87 rfl rfl rfl ?_
    refine st12 _ ?_
    show Steps p.tables e below (T12.setTop (mkF m 90 #[.val (.ref a0), .val (.ref a1), .val (.ref b2_c)] [(.long r2_n)])) _
    refine o_lconst X12 hx hby d7_90 91 rfl (v := (0 : Int64)) rfl ?_
    refine o_lcmp X12 hx hby d7_91 92 rfl ?_
    refine o_ifY X12 hx hby d7_92 105 rfl (feq (fun q => (own_nz1 qf2_1.1) ((lw_eq r2_n (0 : Int64)).mp q))).2 ?_
    refine o_aloadN X12 hx hby d7_105 106 rfl rfl rfl ?_
    refine o_ldc2Long X12 hx hby hown (mvT hZ (hw _ (List.mem_of_getElem? (i := 87) rfl))) d7_106 109 rfl ?_
    refine o_aloadN X12 hx hby d7_109 110 rfl rfl rfl ?_
    refine st13 _ ?_
    show Steps p.tables e below (T13.setTop (mkF m 113 #[.val (.ref a0), .val (.ref a1), .val (.ref b2_c)] [(.long r2_n), (.long (9223372036854775807 : Int64)), (.ref a0)])) _
    exact k
  have f_nz113_1 : ¬ (r2_n = (0 : Int64)) := pf7_nz113_0 a0 a1 b kb x0 x1 f_perYear f_balloon f_balloonScale f_closing f_closingScale f_opening f_interest f_owedBefore f_openingScale f_payment f_paymentScale f_principal f_principalScale f_madePaid f_madeScale f_raised f_raisedScale f_settled f_tallied f_talliedScale f_indexation f_indexationScale r2_n r2_d v1 hv1 qf2_1
  have go9 : Go p e below A0 (T13.setTop (mkF m 114 #[.val (.ref a0), .val (.ref a1), .val (.ref b2_c)] [(.long ((9223372036854775807 : Int64) / r2_n)), (.ref a0)])) := by
    intro t k
    refine go8 t ?_
    refine o_ldiv X13 hx hby d7_113 114 rfl f_nz113_1 ?_
    exact k
  obtain ⟨v2, hv2, go10⟩ : ∃ v2 : Int64, v2 = ((9223372036854775807 : Int64) / r2_n) ∧ Go p e below A0 (T13.setTop (mkF m 114 #[.val (.ref a0), .val (.ref a1), .val (.ref b2_c)] [(.long v2), (.ref a0)])) := ⟨_, rfl, go9⟩
  obtain ⟨T14, h14, X14, e14, W14, st14⟩ := putF X13 hx hZ hown (host := "") (Or.inl (hw _ (List.mem_of_getElem? (i := 88) rfl))) Via.refl e13 f155 f132 (Or.inl (hw _ (List.mem_of_getElem? (i := 89) rfl))) (hw _ (List.mem_of_getElem? (i := 40) rfl)) (ty := .long) (by decide) rfl rfl (g := (mkF m 114 #[.val (.ref a0), .val (.ref a1), .val (.ref b2_c)] [(.long v2), (.ref a0)])) rfl rfl (hb hby d7_114)
  have f165 : Exa Z h14 a0 "com/example/amortine/amortine/CentAmounts" := f132.wr W14
  have f166 : FC Z h14 a0 "perYear" "I" (.int f_perYear) := f133.other W14 (Or.inr (slot_ne (Or.inr wl47) (Or.inl wl89) (by decide) (t := .int) (t' := .long) (by decide) (by decide)))
  have f167 : FC Z h14 a0 "balloon" "J" (.long f_balloon) := f134.other W14 (Or.inr (slot_ne (Or.inr wl49) (Or.inl wl89) (by decide) (t := .long) (t' := .long) (by decide) (by decide)))
  have f168 : FC Z h14 a0 "balloonScale" "I" (.int f_balloonScale) := f135.other W14 (Or.inr (slot_ne (Or.inr wl51) (Or.inl wl89) (by decide) (t := .int) (t' := .long) (by decide) (by decide)))
  have f169 : FC Z h14 a0 "closing" "J" (.long f_closing) := f136.other W14 (Or.inr (slot_ne (Or.inl wl53) (Or.inl wl89) (by decide) (t := .long) (t' := .long) (by decide) (by decide)))
  have f170 : FC Z h14 a0 "closingScale" "I" (.int f_closingScale) := f137.other W14 (Or.inr (slot_ne (Or.inl wl55) (Or.inl wl89) (by decide) (t := .int) (t' := .long) (by decide) (by decide)))
  have f171 : FC Z h14 a0 "opening" "J" (.long f_opening) := f138.other W14 (Or.inr (slot_ne (Or.inl wl96) (Or.inl wl89) (by decide) (t := .long) (t' := .long) (by decide) (by decide)))
  have f172 : FC Z h14 a0 "interest" "J" (.long f_interest) := f139.other W14 (Or.inr (slot_ne (Or.inl wl98) (Or.inl wl89) (by decide) (t := .long) (t' := .long) (by decide) (by decide)))
  have f173 : FC Z h14 a0 "owedBefore" "J" (.long f_owedBefore) := f140.other W14 (Or.inr (slot_ne (Or.inl wl100) (Or.inl wl89) (by decide) (t := .long) (t' := .long) (by decide) (by decide)))
  have f174 : FC Z h14 a0 "openingScale" "I" (.int f_openingScale) := f141.other W14 (Or.inr (slot_ne (Or.inl wl121) (Or.inl wl89) (by decide) (t := .int) (t' := .long) (by decide) (by decide)))
  have f175 : FC Z h14 a0 "payment" "J" (.long f_payment) := f142.other W14 (Or.inr (slot_ne (Or.inl wl123) (Or.inl wl89) (by decide) (t := .long) (t' := .long) (by decide) (by decide)))
  have f176 : FC Z h14 a0 "paymentScale" "I" (.int f_paymentScale) := f143.other W14 (Or.inr (slot_ne (Or.inl wl125) (Or.inl wl89) (by decide) (t := .int) (t' := .long) (by decide) (by decide)))
  have f177 : FC Z h14 a0 "principal" "J" (.long f_principal) := f144.other W14 (Or.inr (slot_ne (Or.inl wl127) (Or.inl wl89) (by decide) (t := .long) (t' := .long) (by decide) (by decide)))
  have f178 : FC Z h14 a0 "principalScale" "I" (.int f_principalScale) := f145.other W14 (Or.inr (slot_ne (Or.inl wl129) (Or.inl wl89) (by decide) (t := .int) (t' := .long) (by decide) (by decide)))
  have f179 : FC Z h14 a0 "madePaid" "J" (.long f_madePaid) := f146.other W14 (Or.inr (slot_ne (Or.inl wl131) (Or.inl wl89) (by decide) (t := .long) (t' := .long) (by decide) (by decide)))
  have f180 : FC Z h14 a0 "madeScale" "I" (.int f_madeScale) := f147.other W14 (Or.inr (slot_ne (Or.inl wl133) (Or.inl wl89) (by decide) (t := .int) (t' := .long) (by decide) (by decide)))
  have f181 : FC Z h14 a0 "raised" "J" (.long f_raised) := f148.other W14 (Or.inr (slot_ne (Or.inl wl135) (Or.inl wl89) (by decide) (t := .long) (t' := .long) (by decide) (by decide)))
  have f182 : FC Z h14 a0 "raisedScale" "I" (.int f_raisedScale) := f149.other W14 (Or.inr (slot_ne (Or.inl wl137) (Or.inl wl89) (by decide) (t := .int) (t' := .long) (by decide) (by decide)))
  have f183 : FC Z h14 a0 "settled" "Z" (.int f_settled) := f150.other W14 (Or.inr (slot_ne (Or.inl wl139) (Or.inl wl89) (by decide) (t := .boolean) (t' := .long) (by decide) (by decide)))
  have f184 : FC Z h14 a0 "tallied" "J" (.long f_tallied) := f151.other W14 (Or.inr (slot_ne (Or.inl wl161) (Or.inl wl89) (by decide) (t := .long) (t' := .long) (by decide) (by decide)))
  have f185 : FC Z h14 a0 "talliedScale" "I" (.int f_talliedScale) := f152.other W14 (Or.inr (slot_ne (Or.inl wl163) (Or.inl wl89) (by decide) (t := .int) (t' := .long) (by decide) (by decide)))
  have f186 : FC Z h14 a0 "indexation" "J" (.long f_indexation) := f153.other W14 (Or.inr (slot_ne (Or.inl wl165) (Or.inl wl89) (by decide) (t := .long) (t' := .long) (by decide) (by decide)))
  have f187 : FC Z h14 a0 "indexationScale" "I" (.int f_indexationScale) := f154.other W14 (Or.inr (slot_ne (Or.inl wl167) (Or.inl wl89) (by decide) (t := .int) (t' := .long) (by decide) (by decide)))
  have f188 : Exa Z h14 a1 "com/example/amortine/amortine/PeriodRate" := f156.wr W14
  have f189 : FP Z h14 a1 "wholeTermsAsked" "Z" (.int (1 : Int32)) := f157.other W14 (Or.inl (Ne.symm r35))
  have f190 : FP Z h14 a1 "wholeTerms" "[J" (.ref b) := f158.other W14 (Or.inl (Ne.symm r35))
  have f191 : Arv Z h14 b kb .long (2 : Int32) [(.long x0), (.long x1)] (.long (0 : Int64)) := f159.other W14 (Ne.symm r36)
  have f192 : FC Z h14 a0 "rate" "Lcom/example/amortine/amortine/PeriodRate;" (.ref a1) := f160.other W14 (Or.inr (slot_ne (Or.inl wl61) (Or.inl wl89) (by decide) (t := (.object "com/example/amortine/amortine/PeriodRate")) (t' := .long) (by decide) (by decide)))
  have f193 : Arv Z h14 b2_c r2_kc .long (2 : Int32) [(.long r2_n), (.long r2_d)] (.long (0 : Int64)) := f161.other W14 (Ne.symm ne_a0_b2_c)
  have f194 : FC Z h14 a0 "perPeriodNumerator" "J" (.long r2_n) := f162.other W14 (Or.inr (slot_ne (Or.inl wl76) (Or.inl wl89) (by decide) (t := .long) (t' := .long) (by decide) (by decide)))
  have f195 : FC Z h14 a0 "perPeriodDenominator" "J" (.long r2_d) := f163.other W14 (Or.inr (slot_ne (Or.inl wl78) (Or.inl wl89) (by decide) (t := .long) (t' := .long) (by decide) (by decide)))
  have f196 : FC Z h14 a0 "reciprocal" "J" (.long v1) := f164.other W14 (Or.inr (slot_ne (Or.inl wl86) (Or.inl wl89) (by decide) (t := .long) (t' := .long) (by decide) (by decide)))
  have Zp14 : n0 ≤ h14.size := Nat.le_trans Zp10 (Keep.of_wr W14).1
  have K14 : Keep h0 h14 [a0] := K10.wr W14 (Or.inl (List.mem_of_getElem? (i := 0) rfl))
  have N14 := Fr.snoc X14 N10 r1
  have f197 : FC Z h14 a0 "exactUpTo" "J" (.long v2) := f155.same W14
  have go11 : Go p e below A0 (T14.setTop (mkF m 117 #[.val (.ref a0), .val (.ref a1), .val (.ref b2_c)] [])) := by
    intro t k
    refine go10 t ?_
    refine st14 _ ?_
    show Steps p.tables e below (T14.setTop (mkF m 117 #[.val (.ref a0), .val (.ref a1), .val (.ref b2_c)] [])) _
    exact k
  subst hv1
  subst hv2
  rw [hA0] at go11
  obtain ⟨fs, hr, hrun, hended, hW, hsame⟩ := X14.leave (v := none) (fun _ => rfl)
  refine ⟨_, _, go11 _ (X14.returnOut hx Bd.returns (hb hby d7_117) hr), hrun, hended, _, _, rfl, ?_, ⟨_, rfl⟩, hW, hsame.mono (by decide) (by decide)⟩
  show Q7 Z a0 a1 b kb x0 x1 f_perYear f_balloon f_balloonScale f_closing f_closingScale f_opening f_interest f_owedBefore f_openingScale f_payment f_paymentScale f_principal f_principalScale f_madePaid f_madeScale f_raised f_raisedScale f_settled f_tallied f_talliedScale f_indexation f_indexationScale h0 n0 _ T14.heap _
  rw [e14]
  exact ⟨r2_n, r2_d, rfl, N14, K14, f166, f167, f168, f169, f170, f194, f195, f196, f197, f171, f172, f173, f174, f175, f176, f177, f178, f179, f180, f181, f182, f183, f184, f185, f186, f187, qf2_1, trivial⟩
theorem d6_0 : decode prog_12_method_4_code 0 = .ok (.aload_n 0, 1) := by decide +kernel
theorem d6_1 : decode prog_12_method_4_code 1 = .ok (.invokespecial 43, 3) := by decide +kernel
theorem d6_4 : decode prog_12_method_4_code 4 = .ok (.aload_n 0, 1) := by decide +kernel
theorem d6_5 : decode prog_12_method_4_code 5 = .ok (.iload 7, 2) := by decide +kernel
theorem d6_7 : decode prog_12_method_4_code 7 = .ok (.putfield 48, 3) := by decide +kernel
theorem d6_10 : decode prog_12_method_4_code 10 = .ok (.aload_n 0, 1) := by decide +kernel
theorem d6_11 : decode prog_12_method_4_code 11 = .ok (.lload 4, 2) := by decide +kernel
theorem d6_13 : decode prog_12_method_4_code 13 = .ok (.putfield 51, 3) := by decide +kernel
theorem d6_16 : decode prog_12_method_4_code 16 = .ok (.aload_n 0, 1) := by decide +kernel
theorem d6_17 : decode prog_12_method_4_code 17 = .ok (.iload 6, 2) := by decide +kernel
theorem d6_19 : decode prog_12_method_4_code 19 = .ok (.putfield 54, 3) := by decide +kernel
theorem d6_22 : decode prog_12_method_4_code 22 = .ok (.aload_n 0, 1) := by decide +kernel
theorem d6_23 : decode prog_12_method_4_code 23 = .ok (.lload_n 1, 1) := by decide +kernel
theorem d6_24 : decode prog_12_method_4_code 24 = .ok (.putfield 57, 3) := by decide +kernel
theorem d6_27 : decode prog_12_method_4_code 27 = .ok (.aload_n 0, 1) := by decide +kernel
theorem d6_28 : decode prog_12_method_4_code 28 = .ok (.iload_n 3, 1) := by decide +kernel
theorem d6_29 : decode prog_12_method_4_code 29 = .ok (.putfield 60, 3) := by decide +kernel
theorem d6_32 : decode prog_12_method_4_code 32 = .ok (.aload_n 0, 1) := by decide +kernel
theorem d6_33 : decode prog_12_method_4_code 33 = .ok (.aload 8, 2) := by decide +kernel
theorem d6_35 : decode prog_12_method_4_code 35 = .ok (.invokevirtual 63, 3) := by decide +kernel
theorem d6_38 : decode prog_12_method_4_code 38 = .ok (.return_, 1) := by decide +kernel
theorem pd_10 : parseMethodDescriptor "(Lcom/example/amortine/amortine/PeriodRate;)V" = some ⟨[(.object "com/example/amortine/amortine/PeriodRate")], none⟩ := by decide +kernel
theorem ef_6 (m : MethodId) (x0 : Addr) (x1 : Int64) (x2 : Int32) (x3 : Int64) (x4 : Int32) (x5 : Int32) (x6 : Addr) : entryFrame m #[(.ref x0), (.long x1), (.int x2), (.long x3), (.int x4), (.int x5), (.ref x6)] 9 = mkF m 0 #[.val (.ref x0), .val (.long x1), .second, .val (.int x2), .val (.long x3), .second, .val (.int x4), .val (.int x5), .val (.ref x6)] [] := by first | (simp [entryFrame, mkF, argsToLocals, Value.category]; done) | rfl
def Q6 (Z : State) (a0 : Addr) (q1 : Int64) (p2 : Int32) (q3 : Int64) (p4 : Int32) (p5 : Int32) (a6 : Addr) (b : Addr) (kb : ClassId) (x0 : Int64) (x1 : Int64) (h0 : Heap) (n0 : Nat) (v : Option Value) (h : Heap) (L : List Loc) : Prop := ∃ n : Int64, ∃ d : Int64, v = none ∧ Fr n0 L ∧ Keep h0 h [a0] ∧ FC Z h a0 "perYear" "I" (.int p5) ∧ FC Z h a0 "balloon" "J" (.long q3) ∧ FC Z h a0 "balloonScale" "I" (.int p4) ∧ FC Z h a0 "closing" "J" (.long q1) ∧ FC Z h a0 "closingScale" "I" (.int p2) ∧ FC Z h a0 "perPeriodNumerator" "J" (.long n) ∧ FC Z h a0 "perPeriodDenominator" "J" (.long d) ∧ FC Z h a0 "reciprocal" "J" (.long (Fdu (-1 : Int64) d)) ∧ FC Z h a0 "exactUpTo" "J" (.long ((9223372036854775807 : Int64) / n)) ∧ FC Z h a0 "opening" "J" (.long (0 : Int64)) ∧ FC Z h a0 "interest" "J" (.long (0 : Int64)) ∧ FC Z h a0 "owedBefore" "J" (.long (0 : Int64)) ∧ FC Z h a0 "openingScale" "I" (.int (0 : Int32)) ∧ FC Z h a0 "payment" "J" (.long (0 : Int64)) ∧ FC Z h a0 "paymentScale" "I" (.int (0 : Int32)) ∧ FC Z h a0 "principal" "J" (.long (0 : Int64)) ∧ FC Z h a0 "principalScale" "I" (.int (0 : Int32)) ∧ FC Z h a0 "madePaid" "J" (.long (0 : Int64)) ∧ FC Z h a0 "madeScale" "I" (.int (0 : Int32)) ∧ FC Z h a0 "raised" "J" (.long (0 : Int64)) ∧ FC Z h a0 "raisedScale" "I" (.int (0 : Int32)) ∧ FC Z h a0 "settled" "Z" (.int (0 : Int32)) ∧ FC Z h a0 "tallied" "J" (.long (0 : Int64)) ∧ FC Z h a0 "talliedScale" "I" (.int (0 : Int32)) ∧ FC Z h a0 "indexation" "J" (.long (0 : Int64)) ∧ FC Z h a0 "indexationScale" "I" (.int (0 : Int32)) ∧ (own_rate n d) ∧ True
set_option maxRecDepth 65536 in
set_option maxHeartbeats 40000000 in
theorem rm6 (l : Launch) (Z : State) (aw : Array Value) (hw : ∀ d ∈ tables_1, d.before aw Z = true) (ws : List Jvm.Cond) (a0 : Addr) (q1 : Int64) (p2 : Int32) (q3 : Int64) (p4 : Int32) (p5 : Int32) (a6 : Addr) (b : Addr) (kb : ClassId) (x0 : Int64) (x1 : Int64) (h0 : Heap) (n0 : Nat) (Z0 : n0 ≤ h0.size) (r0 : Exa Z h0 a0 "com/example/amortine/amortine/CentAmounts") (r1 : n0 ≤ a0) (r2 : FC Z h0 a0 "perYear" "I" (.int (0 : Int32))) (r3 : FC Z h0 a0 "balloon" "J" (.long (0 : Int64))) (r4 : FC Z h0 a0 "balloonScale" "I" (.int (0 : Int32))) (r5 : FC Z h0 a0 "closing" "J" (.long (0 : Int64))) (r6 : FC Z h0 a0 "closingScale" "I" (.int (0 : Int32))) (r7 : FC Z h0 a0 "rate" "Lcom/example/amortine/amortine/PeriodRate;" .null) (r8 : FC Z h0 a0 "perPeriodNumerator" "J" (.long (0 : Int64))) (r9 : FC Z h0 a0 "perPeriodDenominator" "J" (.long (0 : Int64))) (r10 : FC Z h0 a0 "reciprocal" "J" (.long (0 : Int64))) (r11 : FC Z h0 a0 "exactUpTo" "J" (.long (0 : Int64))) (r12 : FC Z h0 a0 "opening" "J" (.long (0 : Int64))) (r13 : FC Z h0 a0 "interest" "J" (.long (0 : Int64))) (r14 : FC Z h0 a0 "owedBefore" "J" (.long (0 : Int64))) (r15 : FC Z h0 a0 "openingScale" "I" (.int (0 : Int32))) (r16 : FC Z h0 a0 "payment" "J" (.long (0 : Int64))) (r17 : FC Z h0 a0 "paymentScale" "I" (.int (0 : Int32))) (r18 : FC Z h0 a0 "principal" "J" (.long (0 : Int64))) (r19 : FC Z h0 a0 "principalScale" "I" (.int (0 : Int32))) (r20 : FC Z h0 a0 "madePaid" "J" (.long (0 : Int64))) (r21 : FC Z h0 a0 "madeScale" "I" (.int (0 : Int32))) (r22 : FC Z h0 a0 "raised" "J" (.long (0 : Int64))) (r23 : FC Z h0 a0 "raisedScale" "I" (.int (0 : Int32))) (r24 : FC Z h0 a0 "settled" "Z" (.int (0 : Int32))) (r25 : FC Z h0 a0 "tallied" "J" (.long (0 : Int64))) (r26 : FC Z h0 a0 "talliedScale" "I" (.int (0 : Int32))) (r27 : FC Z h0 a0 "indexation" "J" (.long (0 : Int64))) (r28 : FC Z h0 a0 "indexationScale" "I" (.int (0 : Int32))) (r29 : Exa Z h0 a6 "com/example/amortine/amortine/PeriodRate") (r30 : FP Z h0 a6 "wholeTermsAsked" "Z" (.int (1 : Int32))) (r31 : FP Z h0 a6 "wholeTerms" "[J" (.ref b)) (r32 : Arv Z h0 b kb .long (2 : Int32) [(.long x0), (.long x1)] (.long (0 : Int64))) (pa0 : (0 < x0.toInt ∧ x0.toInt ≤ 120000)) (pa1 : (0 < x1.toInt ∧ x1.toInt ≤ 4096)) (r35 : a0 ≠ a6) (r36 : a0 ≠ b) :
    MetFree l (⟨"com/example/amortine/amortine/CentAmounts", "<init>", "(JIJIILcom/example/amortine/amortine/PeriodRate;)V"⟩ : MethodName) (head1 (Jvm.Cond.code (⟨"com/example/amortine/amortine/CentAmounts", "<init>", "(JIJIILcom/example/amortine/amortine/PeriodRate;)V"⟩ : MethodName) prog_12_method_4_code 9 none :: ws) ({ frames := 3, cells := 1, slots := 2, locals := 51 } : Room)) (fun a U => a = #[(.ref a0), (.long q1), (.int p2), (.long q3), (.int p4), (.int p5), (.ref a6)] ∧ Z.Warmed39 U.vm ∧ U.heap = h0) (fun _ _ _ _ _ => True) (fun _ U o U' => ∃ v L, o = .returned v ∧ Q6 Z a0 q1 p2 q3 p4 p5 a6 b kb x0 x1 h0 n0 v U'.heap L ∧ FrameEnd U o U' L ({ frames := 3, cells := 1, slots := 2, locals := 51 } : Room).cells ({ frames := 3, cells := 1, slots := 2, locals := 51 } : Room).slots) := by
  refine MetFree.of_bodySF (plainFor_of_name pn_7) hisR ?_
  intro p e s m args below meth c s₁ Bd hml0 hP hK
  obtain ⟨rfl, hZ, hh⟩ := hP
  have hx := Bd.exec
  have hby := Bd.bytes
  have hml : c.maxLocals = 9 := hml0
  have hown : s.vm.findClass "com/example/amortine/amortine/CentAmounts" = some m.cls := findClass_of_methodNamed Bd.named
  have hnm := (name_of_methodNamed Bd.named Bd.method).1
  have X0 : Stand p l e ({ frames := 3, cells := 1, slots := 2, locals := 51 } : Room) s m #[(.ref a0), (.long q1), (.int p2), (.long q3), (.int p4), (.int p5), (.ref a6)] below meth c s₁ [] 0 0 := Stand.of_body Bd
  have e0 : s₁.heap = h0 := by rw [← hh, Bd.state]; rfl
  have N0 := Fr.nil n0
  obtain ⟨A0, hA0⟩ : ∃ A0, A0 = s₁.setTop (entryFrame m #[(.ref a0), (.long q1), (.int p2), (.long q3), (.int p4), (.int p5), (.ref a6)] 9) := ⟨_, rfl⟩
  have go0 : Go p e below A0 (s₁.setTop (mkF m 0 #[.val (.ref a0), .val (.long q1), .second, .val (.int p2), .val (.long q3), .second, .val (.int p4), .val (.int p5), .val (.ref a6)] [])) := fun t k => by rw [hA0]; exact castTop (ef_6 m a0 q1 p2 q3 p4 p5 a6) k
  have wl47 : (Jvm.Cond.laysFinal "com/example/amortine/amortine/CentAmounts" "com/example/amortine/amortine/CentAmounts" "perYear" "I").before aw Z = true := (hw _ (List.mem_of_getElem? (i := 47) rfl))
  have wl49 : (Jvm.Cond.laysFinal "com/example/amortine/amortine/CentAmounts" "com/example/amortine/amortine/CentAmounts" "balloon" "J").before aw Z = true := (hw _ (List.mem_of_getElem? (i := 49) rfl))
  have wl51 : (Jvm.Cond.laysFinal "com/example/amortine/amortine/CentAmounts" "com/example/amortine/amortine/CentAmounts" "balloonScale" "I").before aw Z = true := (hw _ (List.mem_of_getElem? (i := 51) rfl))
  have wl53 : (Jvm.Cond.lays "com/example/amortine/amortine/CentAmounts" "com/example/amortine/amortine/CentAmounts" "closing" "J").before aw Z = true := (hw _ (List.mem_of_getElem? (i := 53) rfl))
  have wl55 : (Jvm.Cond.lays "com/example/amortine/amortine/CentAmounts" "com/example/amortine/amortine/CentAmounts" "closingScale" "I").before aw Z = true := (hw _ (List.mem_of_getElem? (i := 55) rfl))
  have wl61 : (Jvm.Cond.lays "com/example/amortine/amortine/CentAmounts" "com/example/amortine/amortine/CentAmounts" "rate" "Lcom/example/amortine/amortine/PeriodRate;").before aw Z = true := (hw _ (List.mem_of_getElem? (i := 61) rfl))
  have wl76 : (Jvm.Cond.lays "com/example/amortine/amortine/CentAmounts" "com/example/amortine/amortine/CentAmounts" "perPeriodNumerator" "J").before aw Z = true := (hw _ (List.mem_of_getElem? (i := 76) rfl))
  have wl78 : (Jvm.Cond.lays "com/example/amortine/amortine/CentAmounts" "com/example/amortine/amortine/CentAmounts" "perPeriodDenominator" "J").before aw Z = true := (hw _ (List.mem_of_getElem? (i := 78) rfl))
  have wl86 : (Jvm.Cond.lays "com/example/amortine/amortine/CentAmounts" "com/example/amortine/amortine/CentAmounts" "reciprocal" "J").before aw Z = true := (hw _ (List.mem_of_getElem? (i := 86) rfl))
  have wl89 : (Jvm.Cond.lays "com/example/amortine/amortine/CentAmounts" "com/example/amortine/amortine/CentAmounts" "exactUpTo" "J").before aw Z = true := (hw _ (List.mem_of_getElem? (i := 89) rfl))
  have wl96 : (Jvm.Cond.lays "com/example/amortine/amortine/CentAmounts" "com/example/amortine/amortine/CentAmounts" "opening" "J").before aw Z = true := (hw _ (List.mem_of_getElem? (i := 96) rfl))
  have wl98 : (Jvm.Cond.lays "com/example/amortine/amortine/CentAmounts" "com/example/amortine/amortine/CentAmounts" "interest" "J").before aw Z = true := (hw _ (List.mem_of_getElem? (i := 98) rfl))
  have wl100 : (Jvm.Cond.lays "com/example/amortine/amortine/CentAmounts" "com/example/amortine/amortine/CentAmounts" "owedBefore" "J").before aw Z = true := (hw _ (List.mem_of_getElem? (i := 100) rfl))
  have wl121 : (Jvm.Cond.lays "com/example/amortine/amortine/CentAmounts" "com/example/amortine/amortine/CentAmounts" "openingScale" "I").before aw Z = true := (hw _ (List.mem_of_getElem? (i := 121) rfl))
  have wl123 : (Jvm.Cond.lays "com/example/amortine/amortine/CentAmounts" "com/example/amortine/amortine/CentAmounts" "payment" "J").before aw Z = true := (hw _ (List.mem_of_getElem? (i := 123) rfl))
  have wl125 : (Jvm.Cond.lays "com/example/amortine/amortine/CentAmounts" "com/example/amortine/amortine/CentAmounts" "paymentScale" "I").before aw Z = true := (hw _ (List.mem_of_getElem? (i := 125) rfl))
  have wl127 : (Jvm.Cond.lays "com/example/amortine/amortine/CentAmounts" "com/example/amortine/amortine/CentAmounts" "principal" "J").before aw Z = true := (hw _ (List.mem_of_getElem? (i := 127) rfl))
  have wl129 : (Jvm.Cond.lays "com/example/amortine/amortine/CentAmounts" "com/example/amortine/amortine/CentAmounts" "principalScale" "I").before aw Z = true := (hw _ (List.mem_of_getElem? (i := 129) rfl))
  have wl131 : (Jvm.Cond.lays "com/example/amortine/amortine/CentAmounts" "com/example/amortine/amortine/CentAmounts" "madePaid" "J").before aw Z = true := (hw _ (List.mem_of_getElem? (i := 131) rfl))
  have wl133 : (Jvm.Cond.lays "com/example/amortine/amortine/CentAmounts" "com/example/amortine/amortine/CentAmounts" "madeScale" "I").before aw Z = true := (hw _ (List.mem_of_getElem? (i := 133) rfl))
  have wl135 : (Jvm.Cond.lays "com/example/amortine/amortine/CentAmounts" "com/example/amortine/amortine/CentAmounts" "raised" "J").before aw Z = true := (hw _ (List.mem_of_getElem? (i := 135) rfl))
  have wl137 : (Jvm.Cond.lays "com/example/amortine/amortine/CentAmounts" "com/example/amortine/amortine/CentAmounts" "raisedScale" "I").before aw Z = true := (hw _ (List.mem_of_getElem? (i := 137) rfl))
  have wl139 : (Jvm.Cond.lays "com/example/amortine/amortine/CentAmounts" "com/example/amortine/amortine/CentAmounts" "settled" "Z").before aw Z = true := (hw _ (List.mem_of_getElem? (i := 139) rfl))
  have wl161 : (Jvm.Cond.lays "com/example/amortine/amortine/CentAmounts" "com/example/amortine/amortine/CentAmounts" "tallied" "J").before aw Z = true := (hw _ (List.mem_of_getElem? (i := 161) rfl))
  have wl163 : (Jvm.Cond.lays "com/example/amortine/amortine/CentAmounts" "com/example/amortine/amortine/CentAmounts" "talliedScale" "I").before aw Z = true := (hw _ (List.mem_of_getElem? (i := 163) rfl))
  have wl165 : (Jvm.Cond.lays "com/example/amortine/amortine/CentAmounts" "com/example/amortine/amortine/CentAmounts" "indexation" "J").before aw Z = true := (hw _ (List.mem_of_getElem? (i := 165) rfl))
  have wl167 : (Jvm.Cond.lays "com/example/amortine/amortine/CentAmounts" "com/example/amortine/amortine/CentAmounts" "indexationScale" "I").before aw Z = true := (hw _ (List.mem_of_getElem? (i := 167) rfl))
  obtain ⟨T1, X1, e1, st1⟩ := initO X0 hx hZ hown (hw _ (List.mem_of_getElem? (i := 45) rfl)) (hw _ (List.mem_of_getElem? (i := 11) rfl)) (hw _ (List.mem_of_getElem? (i := 12) rfl)) e0 (g := (mkF m 1 #[.val (.ref a0), .val (.long q1), .second, .val (.int p2), .val (.long q3), .second, .val (.int p4), .val (.int p5), .val (.ref a6)] [(.ref a0)])) rfl (by rw [hml]; rfl) rfl (hb hby d6_1) (by decide) (W := 0) (by show 2 * 0 + _ ≤ _; exact Nat.le_of_eq rfl) (by decide)
  have go1 : Go p e below A0 (T1.setTop (mkF m 7 #[.val (.ref a0), .val (.long q1), .second, .val (.int p2), .val (.long q3), .second, .val (.int p4), .val (.int p5), .val (.ref a6)] [(.int p5), (.ref a0)])) := by
    intro t k
    refine go0 t ?_
    refine o_aloadN X0 hx hby d6_0 1 rfl rfl rfl ?_
    refine st1 _ ?_
    refine o_aloadN X1 hx hby d6_4 5 rfl rfl rfl ?_
    refine o_iload X1 hx hby d6_5 7 rfl rfl ?_
    exact k
  obtain ⟨T2, h2, X2, e2, W2, st2⟩ := putF X1 hx hZ hown (host := "") (Or.inl (hw _ (List.mem_of_getElem? (i := 46) rfl))) Via.refl e1 r2 r0 (Or.inr ⟨(hw _ (List.mem_of_getElem? (i := 47) rfl)), rfl, hnm⟩) (hw _ (List.mem_of_getElem? (i := 40) rfl)) (ty := .int) (by decide) rfl rfl (g := (mkF m 7 #[.val (.ref a0), .val (.long q1), .second, .val (.int p2), .val (.long q3), .second, .val (.int p4), .val (.int p5), .val (.ref a6)] [(.int p5), (.ref a0)])) rfl rfl (hb hby d6_7)
  have f1 : Exa Z h2 a0 "com/example/amortine/amortine/CentAmounts" := r0.wr W2
  have f2 : FC Z h2 a0 "balloon" "J" (.long (0 : Int64)) := r3.other W2 (Or.inr (slot_ne (Or.inr wl49) (Or.inr wl47) (by decide) (t := .long) (t' := .int) (by decide) (by decide)))
  have f3 : FC Z h2 a0 "balloonScale" "I" (.int (0 : Int32)) := r4.other W2 (Or.inr (slot_ne (Or.inr wl51) (Or.inr wl47) (by decide) (t := .int) (t' := .int) (by decide) (by decide)))
  have f4 : FC Z h2 a0 "closing" "J" (.long (0 : Int64)) := r5.other W2 (Or.inr (slot_ne (Or.inl wl53) (Or.inr wl47) (by decide) (t := .long) (t' := .int) (by decide) (by decide)))
  have f5 : FC Z h2 a0 "closingScale" "I" (.int (0 : Int32)) := r6.other W2 (Or.inr (slot_ne (Or.inl wl55) (Or.inr wl47) (by decide) (t := .int) (t' := .int) (by decide) (by decide)))
  have f6 : FC Z h2 a0 "rate" "Lcom/example/amortine/amortine/PeriodRate;" .null := r7.other W2 (Or.inr (slot_ne (Or.inl wl61) (Or.inr wl47) (by decide) (t := (.object "com/example/amortine/amortine/PeriodRate")) (t' := .int) (by decide) (by decide)))
  have f7 : FC Z h2 a0 "perPeriodNumerator" "J" (.long (0 : Int64)) := r8.other W2 (Or.inr (slot_ne (Or.inl wl76) (Or.inr wl47) (by decide) (t := .long) (t' := .int) (by decide) (by decide)))
  have f8 : FC Z h2 a0 "perPeriodDenominator" "J" (.long (0 : Int64)) := r9.other W2 (Or.inr (slot_ne (Or.inl wl78) (Or.inr wl47) (by decide) (t := .long) (t' := .int) (by decide) (by decide)))
  have f9 : FC Z h2 a0 "reciprocal" "J" (.long (0 : Int64)) := r10.other W2 (Or.inr (slot_ne (Or.inl wl86) (Or.inr wl47) (by decide) (t := .long) (t' := .int) (by decide) (by decide)))
  have f10 : FC Z h2 a0 "exactUpTo" "J" (.long (0 : Int64)) := r11.other W2 (Or.inr (slot_ne (Or.inl wl89) (Or.inr wl47) (by decide) (t := .long) (t' := .int) (by decide) (by decide)))
  have f11 : FC Z h2 a0 "opening" "J" (.long (0 : Int64)) := r12.other W2 (Or.inr (slot_ne (Or.inl wl96) (Or.inr wl47) (by decide) (t := .long) (t' := .int) (by decide) (by decide)))
  have f12 : FC Z h2 a0 "interest" "J" (.long (0 : Int64)) := r13.other W2 (Or.inr (slot_ne (Or.inl wl98) (Or.inr wl47) (by decide) (t := .long) (t' := .int) (by decide) (by decide)))
  have f13 : FC Z h2 a0 "owedBefore" "J" (.long (0 : Int64)) := r14.other W2 (Or.inr (slot_ne (Or.inl wl100) (Or.inr wl47) (by decide) (t := .long) (t' := .int) (by decide) (by decide)))
  have f14 : FC Z h2 a0 "openingScale" "I" (.int (0 : Int32)) := r15.other W2 (Or.inr (slot_ne (Or.inl wl121) (Or.inr wl47) (by decide) (t := .int) (t' := .int) (by decide) (by decide)))
  have f15 : FC Z h2 a0 "payment" "J" (.long (0 : Int64)) := r16.other W2 (Or.inr (slot_ne (Or.inl wl123) (Or.inr wl47) (by decide) (t := .long) (t' := .int) (by decide) (by decide)))
  have f16 : FC Z h2 a0 "paymentScale" "I" (.int (0 : Int32)) := r17.other W2 (Or.inr (slot_ne (Or.inl wl125) (Or.inr wl47) (by decide) (t := .int) (t' := .int) (by decide) (by decide)))
  have f17 : FC Z h2 a0 "principal" "J" (.long (0 : Int64)) := r18.other W2 (Or.inr (slot_ne (Or.inl wl127) (Or.inr wl47) (by decide) (t := .long) (t' := .int) (by decide) (by decide)))
  have f18 : FC Z h2 a0 "principalScale" "I" (.int (0 : Int32)) := r19.other W2 (Or.inr (slot_ne (Or.inl wl129) (Or.inr wl47) (by decide) (t := .int) (t' := .int) (by decide) (by decide)))
  have f19 : FC Z h2 a0 "madePaid" "J" (.long (0 : Int64)) := r20.other W2 (Or.inr (slot_ne (Or.inl wl131) (Or.inr wl47) (by decide) (t := .long) (t' := .int) (by decide) (by decide)))
  have f20 : FC Z h2 a0 "madeScale" "I" (.int (0 : Int32)) := r21.other W2 (Or.inr (slot_ne (Or.inl wl133) (Or.inr wl47) (by decide) (t := .int) (t' := .int) (by decide) (by decide)))
  have f21 : FC Z h2 a0 "raised" "J" (.long (0 : Int64)) := r22.other W2 (Or.inr (slot_ne (Or.inl wl135) (Or.inr wl47) (by decide) (t := .long) (t' := .int) (by decide) (by decide)))
  have f22 : FC Z h2 a0 "raisedScale" "I" (.int (0 : Int32)) := r23.other W2 (Or.inr (slot_ne (Or.inl wl137) (Or.inr wl47) (by decide) (t := .int) (t' := .int) (by decide) (by decide)))
  have f23 : FC Z h2 a0 "settled" "Z" (.int (0 : Int32)) := r24.other W2 (Or.inr (slot_ne (Or.inl wl139) (Or.inr wl47) (by decide) (t := .boolean) (t' := .int) (by decide) (by decide)))
  have f24 : FC Z h2 a0 "tallied" "J" (.long (0 : Int64)) := r25.other W2 (Or.inr (slot_ne (Or.inl wl161) (Or.inr wl47) (by decide) (t := .long) (t' := .int) (by decide) (by decide)))
  have f25 : FC Z h2 a0 "talliedScale" "I" (.int (0 : Int32)) := r26.other W2 (Or.inr (slot_ne (Or.inl wl163) (Or.inr wl47) (by decide) (t := .int) (t' := .int) (by decide) (by decide)))
  have f26 : FC Z h2 a0 "indexation" "J" (.long (0 : Int64)) := r27.other W2 (Or.inr (slot_ne (Or.inl wl165) (Or.inr wl47) (by decide) (t := .long) (t' := .int) (by decide) (by decide)))
  have f27 : FC Z h2 a0 "indexationScale" "I" (.int (0 : Int32)) := r28.other W2 (Or.inr (slot_ne (Or.inl wl167) (Or.inr wl47) (by decide) (t := .int) (t' := .int) (by decide) (by decide)))
  have f28 : Exa Z h2 a6 "com/example/amortine/amortine/PeriodRate" := r29.wr W2
  have f29 : FP Z h2 a6 "wholeTermsAsked" "Z" (.int (1 : Int32)) := r30.other W2 (Or.inl (Ne.symm r35))
  have f30 : FP Z h2 a6 "wholeTerms" "[J" (.ref b) := r31.other W2 (Or.inl (Ne.symm r35))
  have f31 : Arv Z h2 b kb .long (2 : Int32) [(.long x0), (.long x1)] (.long (0 : Int64)) := r32.other W2 (Ne.symm r36)
  have Zp2 : n0 ≤ h2.size := Nat.le_trans Z0 (Keep.of_wr W2).1
  have K2 : Keep h0 h2 [a0] := (Keep.refl h0 [a0]).wr W2 (Or.inl (List.mem_of_getElem? (i := 0) rfl))
  have N2 := Fr.snoc X2 N0 r1
  have f32 : FC Z h2 a0 "perYear" "I" (.int p5) := r2.same W2
  have go2 : Go p e below A0 (T2.setTop (mkF m 13 #[.val (.ref a0), .val (.long q1), .second, .val (.int p2), .val (.long q3), .second, .val (.int p4), .val (.int p5), .val (.ref a6)] [(.long q3), (.ref a0)])) := by
    intro t k
    refine go1 t ?_
    refine st2 _ ?_
    show Steps p.tables e below (T2.setTop (mkF m 10 #[.val (.ref a0), .val (.long q1), .second, .val (.int p2), .val (.long q3), .second, .val (.int p4), .val (.int p5), .val (.ref a6)] [])) _
    refine o_aloadN X2 hx hby d6_10 11 rfl rfl rfl ?_
    refine o_lload X2 hx hby d6_11 13 rfl rfl ?_
    exact k
  obtain ⟨T3, h3, X3, e3, W3, st3⟩ := putF X2 hx hZ hown (host := "") (Or.inl (hw _ (List.mem_of_getElem? (i := 48) rfl))) Via.refl e2 f2 f1 (Or.inr ⟨(hw _ (List.mem_of_getElem? (i := 49) rfl)), rfl, hnm⟩) (hw _ (List.mem_of_getElem? (i := 40) rfl)) (ty := .long) (by decide) rfl rfl (g := (mkF m 13 #[.val (.ref a0), .val (.long q1), .second, .val (.int p2), .val (.long q3), .second, .val (.int p4), .val (.int p5), .val (.ref a6)] [(.long q3), (.ref a0)])) rfl rfl (hb hby d6_13)
  have f33 : Exa Z h3 a0 "com/example/amortine/amortine/CentAmounts" := f1.wr W3
  have f34 : FC Z h3 a0 "balloonScale" "I" (.int (0 : Int32)) := f3.other W3 (Or.inr (slot_ne (Or.inr wl51) (Or.inr wl49) (by decide) (t := .int) (t' := .long) (by decide) (by decide)))
  have f35 : FC Z h3 a0 "closing" "J" (.long (0 : Int64)) := f4.other W3 (Or.inr (slot_ne (Or.inl wl53) (Or.inr wl49) (by decide) (t := .long) (t' := .long) (by decide) (by decide)))
  have f36 : FC Z h3 a0 "closingScale" "I" (.int (0 : Int32)) := f5.other W3 (Or.inr (slot_ne (Or.inl wl55) (Or.inr wl49) (by decide) (t := .int) (t' := .long) (by decide) (by decide)))
  have f37 : FC Z h3 a0 "rate" "Lcom/example/amortine/amortine/PeriodRate;" .null := f6.other W3 (Or.inr (slot_ne (Or.inl wl61) (Or.inr wl49) (by decide) (t := (.object "com/example/amortine/amortine/PeriodRate")) (t' := .long) (by decide) (by decide)))
  have f38 : FC Z h3 a0 "perPeriodNumerator" "J" (.long (0 : Int64)) := f7.other W3 (Or.inr (slot_ne (Or.inl wl76) (Or.inr wl49) (by decide) (t := .long) (t' := .long) (by decide) (by decide)))
  have f39 : FC Z h3 a0 "perPeriodDenominator" "J" (.long (0 : Int64)) := f8.other W3 (Or.inr (slot_ne (Or.inl wl78) (Or.inr wl49) (by decide) (t := .long) (t' := .long) (by decide) (by decide)))
  have f40 : FC Z h3 a0 "reciprocal" "J" (.long (0 : Int64)) := f9.other W3 (Or.inr (slot_ne (Or.inl wl86) (Or.inr wl49) (by decide) (t := .long) (t' := .long) (by decide) (by decide)))
  have f41 : FC Z h3 a0 "exactUpTo" "J" (.long (0 : Int64)) := f10.other W3 (Or.inr (slot_ne (Or.inl wl89) (Or.inr wl49) (by decide) (t := .long) (t' := .long) (by decide) (by decide)))
  have f42 : FC Z h3 a0 "opening" "J" (.long (0 : Int64)) := f11.other W3 (Or.inr (slot_ne (Or.inl wl96) (Or.inr wl49) (by decide) (t := .long) (t' := .long) (by decide) (by decide)))
  have f43 : FC Z h3 a0 "interest" "J" (.long (0 : Int64)) := f12.other W3 (Or.inr (slot_ne (Or.inl wl98) (Or.inr wl49) (by decide) (t := .long) (t' := .long) (by decide) (by decide)))
  have f44 : FC Z h3 a0 "owedBefore" "J" (.long (0 : Int64)) := f13.other W3 (Or.inr (slot_ne (Or.inl wl100) (Or.inr wl49) (by decide) (t := .long) (t' := .long) (by decide) (by decide)))
  have f45 : FC Z h3 a0 "openingScale" "I" (.int (0 : Int32)) := f14.other W3 (Or.inr (slot_ne (Or.inl wl121) (Or.inr wl49) (by decide) (t := .int) (t' := .long) (by decide) (by decide)))
  have f46 : FC Z h3 a0 "payment" "J" (.long (0 : Int64)) := f15.other W3 (Or.inr (slot_ne (Or.inl wl123) (Or.inr wl49) (by decide) (t := .long) (t' := .long) (by decide) (by decide)))
  have f47 : FC Z h3 a0 "paymentScale" "I" (.int (0 : Int32)) := f16.other W3 (Or.inr (slot_ne (Or.inl wl125) (Or.inr wl49) (by decide) (t := .int) (t' := .long) (by decide) (by decide)))
  have f48 : FC Z h3 a0 "principal" "J" (.long (0 : Int64)) := f17.other W3 (Or.inr (slot_ne (Or.inl wl127) (Or.inr wl49) (by decide) (t := .long) (t' := .long) (by decide) (by decide)))
  have f49 : FC Z h3 a0 "principalScale" "I" (.int (0 : Int32)) := f18.other W3 (Or.inr (slot_ne (Or.inl wl129) (Or.inr wl49) (by decide) (t := .int) (t' := .long) (by decide) (by decide)))
  have f50 : FC Z h3 a0 "madePaid" "J" (.long (0 : Int64)) := f19.other W3 (Or.inr (slot_ne (Or.inl wl131) (Or.inr wl49) (by decide) (t := .long) (t' := .long) (by decide) (by decide)))
  have f51 : FC Z h3 a0 "madeScale" "I" (.int (0 : Int32)) := f20.other W3 (Or.inr (slot_ne (Or.inl wl133) (Or.inr wl49) (by decide) (t := .int) (t' := .long) (by decide) (by decide)))
  have f52 : FC Z h3 a0 "raised" "J" (.long (0 : Int64)) := f21.other W3 (Or.inr (slot_ne (Or.inl wl135) (Or.inr wl49) (by decide) (t := .long) (t' := .long) (by decide) (by decide)))
  have f53 : FC Z h3 a0 "raisedScale" "I" (.int (0 : Int32)) := f22.other W3 (Or.inr (slot_ne (Or.inl wl137) (Or.inr wl49) (by decide) (t := .int) (t' := .long) (by decide) (by decide)))
  have f54 : FC Z h3 a0 "settled" "Z" (.int (0 : Int32)) := f23.other W3 (Or.inr (slot_ne (Or.inl wl139) (Or.inr wl49) (by decide) (t := .boolean) (t' := .long) (by decide) (by decide)))
  have f55 : FC Z h3 a0 "tallied" "J" (.long (0 : Int64)) := f24.other W3 (Or.inr (slot_ne (Or.inl wl161) (Or.inr wl49) (by decide) (t := .long) (t' := .long) (by decide) (by decide)))
  have f56 : FC Z h3 a0 "talliedScale" "I" (.int (0 : Int32)) := f25.other W3 (Or.inr (slot_ne (Or.inl wl163) (Or.inr wl49) (by decide) (t := .int) (t' := .long) (by decide) (by decide)))
  have f57 : FC Z h3 a0 "indexation" "J" (.long (0 : Int64)) := f26.other W3 (Or.inr (slot_ne (Or.inl wl165) (Or.inr wl49) (by decide) (t := .long) (t' := .long) (by decide) (by decide)))
  have f58 : FC Z h3 a0 "indexationScale" "I" (.int (0 : Int32)) := f27.other W3 (Or.inr (slot_ne (Or.inl wl167) (Or.inr wl49) (by decide) (t := .int) (t' := .long) (by decide) (by decide)))
  have f59 : Exa Z h3 a6 "com/example/amortine/amortine/PeriodRate" := f28.wr W3
  have f60 : FP Z h3 a6 "wholeTermsAsked" "Z" (.int (1 : Int32)) := f29.other W3 (Or.inl (Ne.symm r35))
  have f61 : FP Z h3 a6 "wholeTerms" "[J" (.ref b) := f30.other W3 (Or.inl (Ne.symm r35))
  have f62 : Arv Z h3 b kb .long (2 : Int32) [(.long x0), (.long x1)] (.long (0 : Int64)) := f31.other W3 (Ne.symm r36)
  have f63 : FC Z h3 a0 "perYear" "I" (.int p5) := f32.other W3 (Or.inr (slot_ne (Or.inr wl47) (Or.inr wl49) (by decide) (t := .int) (t' := .long) (by decide) (by decide)))
  have Zp3 : n0 ≤ h3.size := Nat.le_trans Zp2 (Keep.of_wr W3).1
  have K3 : Keep h0 h3 [a0] := K2.wr W3 (Or.inl (List.mem_of_getElem? (i := 0) rfl))
  have N3 := Fr.snoc X3 N2 r1
  have f64 : FC Z h3 a0 "balloon" "J" (.long q3) := f2.same W3
  have go3 : Go p e below A0 (T3.setTop (mkF m 19 #[.val (.ref a0), .val (.long q1), .second, .val (.int p2), .val (.long q3), .second, .val (.int p4), .val (.int p5), .val (.ref a6)] [(.int p4), (.ref a0)])) := by
    intro t k
    refine go2 t ?_
    refine st3 _ ?_
    show Steps p.tables e below (T3.setTop (mkF m 16 #[.val (.ref a0), .val (.long q1), .second, .val (.int p2), .val (.long q3), .second, .val (.int p4), .val (.int p5), .val (.ref a6)] [])) _
    refine o_aloadN X3 hx hby d6_16 17 rfl rfl rfl ?_
    refine o_iload X3 hx hby d6_17 19 rfl rfl ?_
    exact k
  obtain ⟨T4, h4, X4, e4, W4, st4⟩ := putF X3 hx hZ hown (host := "") (Or.inl (hw _ (List.mem_of_getElem? (i := 50) rfl))) Via.refl e3 f34 f33 (Or.inr ⟨(hw _ (List.mem_of_getElem? (i := 51) rfl)), rfl, hnm⟩) (hw _ (List.mem_of_getElem? (i := 40) rfl)) (ty := .int) (by decide) rfl rfl (g := (mkF m 19 #[.val (.ref a0), .val (.long q1), .second, .val (.int p2), .val (.long q3), .second, .val (.int p4), .val (.int p5), .val (.ref a6)] [(.int p4), (.ref a0)])) rfl rfl (hb hby d6_19)
  have f65 : Exa Z h4 a0 "com/example/amortine/amortine/CentAmounts" := f33.wr W4
  have f66 : FC Z h4 a0 "closing" "J" (.long (0 : Int64)) := f35.other W4 (Or.inr (slot_ne (Or.inl wl53) (Or.inr wl51) (by decide) (t := .long) (t' := .int) (by decide) (by decide)))
  have f67 : FC Z h4 a0 "closingScale" "I" (.int (0 : Int32)) := f36.other W4 (Or.inr (slot_ne (Or.inl wl55) (Or.inr wl51) (by decide) (t := .int) (t' := .int) (by decide) (by decide)))
  have f68 : FC Z h4 a0 "rate" "Lcom/example/amortine/amortine/PeriodRate;" .null := f37.other W4 (Or.inr (slot_ne (Or.inl wl61) (Or.inr wl51) (by decide) (t := (.object "com/example/amortine/amortine/PeriodRate")) (t' := .int) (by decide) (by decide)))
  have f69 : FC Z h4 a0 "perPeriodNumerator" "J" (.long (0 : Int64)) := f38.other W4 (Or.inr (slot_ne (Or.inl wl76) (Or.inr wl51) (by decide) (t := .long) (t' := .int) (by decide) (by decide)))
  have f70 : FC Z h4 a0 "perPeriodDenominator" "J" (.long (0 : Int64)) := f39.other W4 (Or.inr (slot_ne (Or.inl wl78) (Or.inr wl51) (by decide) (t := .long) (t' := .int) (by decide) (by decide)))
  have f71 : FC Z h4 a0 "reciprocal" "J" (.long (0 : Int64)) := f40.other W4 (Or.inr (slot_ne (Or.inl wl86) (Or.inr wl51) (by decide) (t := .long) (t' := .int) (by decide) (by decide)))
  have f72 : FC Z h4 a0 "exactUpTo" "J" (.long (0 : Int64)) := f41.other W4 (Or.inr (slot_ne (Or.inl wl89) (Or.inr wl51) (by decide) (t := .long) (t' := .int) (by decide) (by decide)))
  have f73 : FC Z h4 a0 "opening" "J" (.long (0 : Int64)) := f42.other W4 (Or.inr (slot_ne (Or.inl wl96) (Or.inr wl51) (by decide) (t := .long) (t' := .int) (by decide) (by decide)))
  have f74 : FC Z h4 a0 "interest" "J" (.long (0 : Int64)) := f43.other W4 (Or.inr (slot_ne (Or.inl wl98) (Or.inr wl51) (by decide) (t := .long) (t' := .int) (by decide) (by decide)))
  have f75 : FC Z h4 a0 "owedBefore" "J" (.long (0 : Int64)) := f44.other W4 (Or.inr (slot_ne (Or.inl wl100) (Or.inr wl51) (by decide) (t := .long) (t' := .int) (by decide) (by decide)))
  have f76 : FC Z h4 a0 "openingScale" "I" (.int (0 : Int32)) := f45.other W4 (Or.inr (slot_ne (Or.inl wl121) (Or.inr wl51) (by decide) (t := .int) (t' := .int) (by decide) (by decide)))
  have f77 : FC Z h4 a0 "payment" "J" (.long (0 : Int64)) := f46.other W4 (Or.inr (slot_ne (Or.inl wl123) (Or.inr wl51) (by decide) (t := .long) (t' := .int) (by decide) (by decide)))
  have f78 : FC Z h4 a0 "paymentScale" "I" (.int (0 : Int32)) := f47.other W4 (Or.inr (slot_ne (Or.inl wl125) (Or.inr wl51) (by decide) (t := .int) (t' := .int) (by decide) (by decide)))
  have f79 : FC Z h4 a0 "principal" "J" (.long (0 : Int64)) := f48.other W4 (Or.inr (slot_ne (Or.inl wl127) (Or.inr wl51) (by decide) (t := .long) (t' := .int) (by decide) (by decide)))
  have f80 : FC Z h4 a0 "principalScale" "I" (.int (0 : Int32)) := f49.other W4 (Or.inr (slot_ne (Or.inl wl129) (Or.inr wl51) (by decide) (t := .int) (t' := .int) (by decide) (by decide)))
  have f81 : FC Z h4 a0 "madePaid" "J" (.long (0 : Int64)) := f50.other W4 (Or.inr (slot_ne (Or.inl wl131) (Or.inr wl51) (by decide) (t := .long) (t' := .int) (by decide) (by decide)))
  have f82 : FC Z h4 a0 "madeScale" "I" (.int (0 : Int32)) := f51.other W4 (Or.inr (slot_ne (Or.inl wl133) (Or.inr wl51) (by decide) (t := .int) (t' := .int) (by decide) (by decide)))
  have f83 : FC Z h4 a0 "raised" "J" (.long (0 : Int64)) := f52.other W4 (Or.inr (slot_ne (Or.inl wl135) (Or.inr wl51) (by decide) (t := .long) (t' := .int) (by decide) (by decide)))
  have f84 : FC Z h4 a0 "raisedScale" "I" (.int (0 : Int32)) := f53.other W4 (Or.inr (slot_ne (Or.inl wl137) (Or.inr wl51) (by decide) (t := .int) (t' := .int) (by decide) (by decide)))
  have f85 : FC Z h4 a0 "settled" "Z" (.int (0 : Int32)) := f54.other W4 (Or.inr (slot_ne (Or.inl wl139) (Or.inr wl51) (by decide) (t := .boolean) (t' := .int) (by decide) (by decide)))
  have f86 : FC Z h4 a0 "tallied" "J" (.long (0 : Int64)) := f55.other W4 (Or.inr (slot_ne (Or.inl wl161) (Or.inr wl51) (by decide) (t := .long) (t' := .int) (by decide) (by decide)))
  have f87 : FC Z h4 a0 "talliedScale" "I" (.int (0 : Int32)) := f56.other W4 (Or.inr (slot_ne (Or.inl wl163) (Or.inr wl51) (by decide) (t := .int) (t' := .int) (by decide) (by decide)))
  have f88 : FC Z h4 a0 "indexation" "J" (.long (0 : Int64)) := f57.other W4 (Or.inr (slot_ne (Or.inl wl165) (Or.inr wl51) (by decide) (t := .long) (t' := .int) (by decide) (by decide)))
  have f89 : FC Z h4 a0 "indexationScale" "I" (.int (0 : Int32)) := f58.other W4 (Or.inr (slot_ne (Or.inl wl167) (Or.inr wl51) (by decide) (t := .int) (t' := .int) (by decide) (by decide)))
  have f90 : Exa Z h4 a6 "com/example/amortine/amortine/PeriodRate" := f59.wr W4
  have f91 : FP Z h4 a6 "wholeTermsAsked" "Z" (.int (1 : Int32)) := f60.other W4 (Or.inl (Ne.symm r35))
  have f92 : FP Z h4 a6 "wholeTerms" "[J" (.ref b) := f61.other W4 (Or.inl (Ne.symm r35))
  have f93 : Arv Z h4 b kb .long (2 : Int32) [(.long x0), (.long x1)] (.long (0 : Int64)) := f62.other W4 (Ne.symm r36)
  have f94 : FC Z h4 a0 "perYear" "I" (.int p5) := f63.other W4 (Or.inr (slot_ne (Or.inr wl47) (Or.inr wl51) (by decide) (t := .int) (t' := .int) (by decide) (by decide)))
  have f95 : FC Z h4 a0 "balloon" "J" (.long q3) := f64.other W4 (Or.inr (slot_ne (Or.inr wl49) (Or.inr wl51) (by decide) (t := .long) (t' := .int) (by decide) (by decide)))
  have Zp4 : n0 ≤ h4.size := Nat.le_trans Zp3 (Keep.of_wr W4).1
  have K4 : Keep h0 h4 [a0] := K3.wr W4 (Or.inl (List.mem_of_getElem? (i := 0) rfl))
  have N4 := Fr.snoc X4 N3 r1
  have f96 : FC Z h4 a0 "balloonScale" "I" (.int p4) := f34.same W4
  have go4 : Go p e below A0 (T4.setTop (mkF m 24 #[.val (.ref a0), .val (.long q1), .second, .val (.int p2), .val (.long q3), .second, .val (.int p4), .val (.int p5), .val (.ref a6)] [(.long q1), (.ref a0)])) := by
    intro t k
    refine go3 t ?_
    refine st4 _ ?_
    show Steps p.tables e below (T4.setTop (mkF m 22 #[.val (.ref a0), .val (.long q1), .second, .val (.int p2), .val (.long q3), .second, .val (.int p4), .val (.int p5), .val (.ref a6)] [])) _
    refine o_aloadN X4 hx hby d6_22 23 rfl rfl rfl ?_
    refine o_lloadN X4 hx hby d6_23 24 rfl rfl ?_
    exact k
  obtain ⟨T5, h5, X5, e5, W5, st5⟩ := putF X4 hx hZ hown (host := "") (Or.inl (hw _ (List.mem_of_getElem? (i := 52) rfl))) Via.refl e4 f66 f65 (Or.inl (hw _ (List.mem_of_getElem? (i := 53) rfl))) (hw _ (List.mem_of_getElem? (i := 40) rfl)) (ty := .long) (by decide) rfl rfl (g := (mkF m 24 #[.val (.ref a0), .val (.long q1), .second, .val (.int p2), .val (.long q3), .second, .val (.int p4), .val (.int p5), .val (.ref a6)] [(.long q1), (.ref a0)])) rfl rfl (hb hby d6_24)
  have f97 : Exa Z h5 a0 "com/example/amortine/amortine/CentAmounts" := f65.wr W5
  have f98 : FC Z h5 a0 "closingScale" "I" (.int (0 : Int32)) := f67.other W5 (Or.inr (slot_ne (Or.inl wl55) (Or.inl wl53) (by decide) (t := .int) (t' := .long) (by decide) (by decide)))
  have f99 : FC Z h5 a0 "rate" "Lcom/example/amortine/amortine/PeriodRate;" .null := f68.other W5 (Or.inr (slot_ne (Or.inl wl61) (Or.inl wl53) (by decide) (t := (.object "com/example/amortine/amortine/PeriodRate")) (t' := .long) (by decide) (by decide)))
  have f100 : FC Z h5 a0 "perPeriodNumerator" "J" (.long (0 : Int64)) := f69.other W5 (Or.inr (slot_ne (Or.inl wl76) (Or.inl wl53) (by decide) (t := .long) (t' := .long) (by decide) (by decide)))
  have f101 : FC Z h5 a0 "perPeriodDenominator" "J" (.long (0 : Int64)) := f70.other W5 (Or.inr (slot_ne (Or.inl wl78) (Or.inl wl53) (by decide) (t := .long) (t' := .long) (by decide) (by decide)))
  have f102 : FC Z h5 a0 "reciprocal" "J" (.long (0 : Int64)) := f71.other W5 (Or.inr (slot_ne (Or.inl wl86) (Or.inl wl53) (by decide) (t := .long) (t' := .long) (by decide) (by decide)))
  have f103 : FC Z h5 a0 "exactUpTo" "J" (.long (0 : Int64)) := f72.other W5 (Or.inr (slot_ne (Or.inl wl89) (Or.inl wl53) (by decide) (t := .long) (t' := .long) (by decide) (by decide)))
  have f104 : FC Z h5 a0 "opening" "J" (.long (0 : Int64)) := f73.other W5 (Or.inr (slot_ne (Or.inl wl96) (Or.inl wl53) (by decide) (t := .long) (t' := .long) (by decide) (by decide)))
  have f105 : FC Z h5 a0 "interest" "J" (.long (0 : Int64)) := f74.other W5 (Or.inr (slot_ne (Or.inl wl98) (Or.inl wl53) (by decide) (t := .long) (t' := .long) (by decide) (by decide)))
  have f106 : FC Z h5 a0 "owedBefore" "J" (.long (0 : Int64)) := f75.other W5 (Or.inr (slot_ne (Or.inl wl100) (Or.inl wl53) (by decide) (t := .long) (t' := .long) (by decide) (by decide)))
  have f107 : FC Z h5 a0 "openingScale" "I" (.int (0 : Int32)) := f76.other W5 (Or.inr (slot_ne (Or.inl wl121) (Or.inl wl53) (by decide) (t := .int) (t' := .long) (by decide) (by decide)))
  have f108 : FC Z h5 a0 "payment" "J" (.long (0 : Int64)) := f77.other W5 (Or.inr (slot_ne (Or.inl wl123) (Or.inl wl53) (by decide) (t := .long) (t' := .long) (by decide) (by decide)))
  have f109 : FC Z h5 a0 "paymentScale" "I" (.int (0 : Int32)) := f78.other W5 (Or.inr (slot_ne (Or.inl wl125) (Or.inl wl53) (by decide) (t := .int) (t' := .long) (by decide) (by decide)))
  have f110 : FC Z h5 a0 "principal" "J" (.long (0 : Int64)) := f79.other W5 (Or.inr (slot_ne (Or.inl wl127) (Or.inl wl53) (by decide) (t := .long) (t' := .long) (by decide) (by decide)))
  have f111 : FC Z h5 a0 "principalScale" "I" (.int (0 : Int32)) := f80.other W5 (Or.inr (slot_ne (Or.inl wl129) (Or.inl wl53) (by decide) (t := .int) (t' := .long) (by decide) (by decide)))
  have f112 : FC Z h5 a0 "madePaid" "J" (.long (0 : Int64)) := f81.other W5 (Or.inr (slot_ne (Or.inl wl131) (Or.inl wl53) (by decide) (t := .long) (t' := .long) (by decide) (by decide)))
  have f113 : FC Z h5 a0 "madeScale" "I" (.int (0 : Int32)) := f82.other W5 (Or.inr (slot_ne (Or.inl wl133) (Or.inl wl53) (by decide) (t := .int) (t' := .long) (by decide) (by decide)))
  have f114 : FC Z h5 a0 "raised" "J" (.long (0 : Int64)) := f83.other W5 (Or.inr (slot_ne (Or.inl wl135) (Or.inl wl53) (by decide) (t := .long) (t' := .long) (by decide) (by decide)))
  have f115 : FC Z h5 a0 "raisedScale" "I" (.int (0 : Int32)) := f84.other W5 (Or.inr (slot_ne (Or.inl wl137) (Or.inl wl53) (by decide) (t := .int) (t' := .long) (by decide) (by decide)))
  have f116 : FC Z h5 a0 "settled" "Z" (.int (0 : Int32)) := f85.other W5 (Or.inr (slot_ne (Or.inl wl139) (Or.inl wl53) (by decide) (t := .boolean) (t' := .long) (by decide) (by decide)))
  have f117 : FC Z h5 a0 "tallied" "J" (.long (0 : Int64)) := f86.other W5 (Or.inr (slot_ne (Or.inl wl161) (Or.inl wl53) (by decide) (t := .long) (t' := .long) (by decide) (by decide)))
  have f118 : FC Z h5 a0 "talliedScale" "I" (.int (0 : Int32)) := f87.other W5 (Or.inr (slot_ne (Or.inl wl163) (Or.inl wl53) (by decide) (t := .int) (t' := .long) (by decide) (by decide)))
  have f119 : FC Z h5 a0 "indexation" "J" (.long (0 : Int64)) := f88.other W5 (Or.inr (slot_ne (Or.inl wl165) (Or.inl wl53) (by decide) (t := .long) (t' := .long) (by decide) (by decide)))
  have f120 : FC Z h5 a0 "indexationScale" "I" (.int (0 : Int32)) := f89.other W5 (Or.inr (slot_ne (Or.inl wl167) (Or.inl wl53) (by decide) (t := .int) (t' := .long) (by decide) (by decide)))
  have f121 : Exa Z h5 a6 "com/example/amortine/amortine/PeriodRate" := f90.wr W5
  have f122 : FP Z h5 a6 "wholeTermsAsked" "Z" (.int (1 : Int32)) := f91.other W5 (Or.inl (Ne.symm r35))
  have f123 : FP Z h5 a6 "wholeTerms" "[J" (.ref b) := f92.other W5 (Or.inl (Ne.symm r35))
  have f124 : Arv Z h5 b kb .long (2 : Int32) [(.long x0), (.long x1)] (.long (0 : Int64)) := f93.other W5 (Ne.symm r36)
  have f125 : FC Z h5 a0 "perYear" "I" (.int p5) := f94.other W5 (Or.inr (slot_ne (Or.inr wl47) (Or.inl wl53) (by decide) (t := .int) (t' := .long) (by decide) (by decide)))
  have f126 : FC Z h5 a0 "balloon" "J" (.long q3) := f95.other W5 (Or.inr (slot_ne (Or.inr wl49) (Or.inl wl53) (by decide) (t := .long) (t' := .long) (by decide) (by decide)))
  have f127 : FC Z h5 a0 "balloonScale" "I" (.int p4) := f96.other W5 (Or.inr (slot_ne (Or.inr wl51) (Or.inl wl53) (by decide) (t := .int) (t' := .long) (by decide) (by decide)))
  have Zp5 : n0 ≤ h5.size := Nat.le_trans Zp4 (Keep.of_wr W5).1
  have K5 : Keep h0 h5 [a0] := K4.wr W5 (Or.inl (List.mem_of_getElem? (i := 0) rfl))
  have N5 := Fr.snoc X5 N4 r1
  have f128 : FC Z h5 a0 "closing" "J" (.long q1) := f66.same W5
  have go5 : Go p e below A0 (T5.setTop (mkF m 29 #[.val (.ref a0), .val (.long q1), .second, .val (.int p2), .val (.long q3), .second, .val (.int p4), .val (.int p5), .val (.ref a6)] [(.int p2), (.ref a0)])) := by
    intro t k
    refine go4 t ?_
    refine st5 _ ?_
    show Steps p.tables e below (T5.setTop (mkF m 27 #[.val (.ref a0), .val (.long q1), .second, .val (.int p2), .val (.long q3), .second, .val (.int p4), .val (.int p5), .val (.ref a6)] [])) _
    refine o_aloadN X5 hx hby d6_27 28 rfl rfl rfl ?_
    refine o_iloadN X5 hx hby d6_28 29 rfl rfl ?_
    exact k
  obtain ⟨T6, h6, X6, e6, W6, st6⟩ := putF X5 hx hZ hown (host := "") (Or.inl (hw _ (List.mem_of_getElem? (i := 54) rfl))) Via.refl e5 f98 f97 (Or.inl (hw _ (List.mem_of_getElem? (i := 55) rfl))) (hw _ (List.mem_of_getElem? (i := 40) rfl)) (ty := .int) (by decide) rfl rfl (g := (mkF m 29 #[.val (.ref a0), .val (.long q1), .second, .val (.int p2), .val (.long q3), .second, .val (.int p4), .val (.int p5), .val (.ref a6)] [(.int p2), (.ref a0)])) rfl rfl (hb hby d6_29)
  have f129 : Exa Z h6 a0 "com/example/amortine/amortine/CentAmounts" := f97.wr W6
  have f130 : FC Z h6 a0 "rate" "Lcom/example/amortine/amortine/PeriodRate;" .null := f99.other W6 (Or.inr (slot_ne (Or.inl wl61) (Or.inl wl55) (by decide) (t := (.object "com/example/amortine/amortine/PeriodRate")) (t' := .int) (by decide) (by decide)))
  have f131 : FC Z h6 a0 "perPeriodNumerator" "J" (.long (0 : Int64)) := f100.other W6 (Or.inr (slot_ne (Or.inl wl76) (Or.inl wl55) (by decide) (t := .long) (t' := .int) (by decide) (by decide)))
  have f132 : FC Z h6 a0 "perPeriodDenominator" "J" (.long (0 : Int64)) := f101.other W6 (Or.inr (slot_ne (Or.inl wl78) (Or.inl wl55) (by decide) (t := .long) (t' := .int) (by decide) (by decide)))
  have f133 : FC Z h6 a0 "reciprocal" "J" (.long (0 : Int64)) := f102.other W6 (Or.inr (slot_ne (Or.inl wl86) (Or.inl wl55) (by decide) (t := .long) (t' := .int) (by decide) (by decide)))
  have f134 : FC Z h6 a0 "exactUpTo" "J" (.long (0 : Int64)) := f103.other W6 (Or.inr (slot_ne (Or.inl wl89) (Or.inl wl55) (by decide) (t := .long) (t' := .int) (by decide) (by decide)))
  have f135 : FC Z h6 a0 "opening" "J" (.long (0 : Int64)) := f104.other W6 (Or.inr (slot_ne (Or.inl wl96) (Or.inl wl55) (by decide) (t := .long) (t' := .int) (by decide) (by decide)))
  have f136 : FC Z h6 a0 "interest" "J" (.long (0 : Int64)) := f105.other W6 (Or.inr (slot_ne (Or.inl wl98) (Or.inl wl55) (by decide) (t := .long) (t' := .int) (by decide) (by decide)))
  have f137 : FC Z h6 a0 "owedBefore" "J" (.long (0 : Int64)) := f106.other W6 (Or.inr (slot_ne (Or.inl wl100) (Or.inl wl55) (by decide) (t := .long) (t' := .int) (by decide) (by decide)))
  have f138 : FC Z h6 a0 "openingScale" "I" (.int (0 : Int32)) := f107.other W6 (Or.inr (slot_ne (Or.inl wl121) (Or.inl wl55) (by decide) (t := .int) (t' := .int) (by decide) (by decide)))
  have f139 : FC Z h6 a0 "payment" "J" (.long (0 : Int64)) := f108.other W6 (Or.inr (slot_ne (Or.inl wl123) (Or.inl wl55) (by decide) (t := .long) (t' := .int) (by decide) (by decide)))
  have f140 : FC Z h6 a0 "paymentScale" "I" (.int (0 : Int32)) := f109.other W6 (Or.inr (slot_ne (Or.inl wl125) (Or.inl wl55) (by decide) (t := .int) (t' := .int) (by decide) (by decide)))
  have f141 : FC Z h6 a0 "principal" "J" (.long (0 : Int64)) := f110.other W6 (Or.inr (slot_ne (Or.inl wl127) (Or.inl wl55) (by decide) (t := .long) (t' := .int) (by decide) (by decide)))
  have f142 : FC Z h6 a0 "principalScale" "I" (.int (0 : Int32)) := f111.other W6 (Or.inr (slot_ne (Or.inl wl129) (Or.inl wl55) (by decide) (t := .int) (t' := .int) (by decide) (by decide)))
  have f143 : FC Z h6 a0 "madePaid" "J" (.long (0 : Int64)) := f112.other W6 (Or.inr (slot_ne (Or.inl wl131) (Or.inl wl55) (by decide) (t := .long) (t' := .int) (by decide) (by decide)))
  have f144 : FC Z h6 a0 "madeScale" "I" (.int (0 : Int32)) := f113.other W6 (Or.inr (slot_ne (Or.inl wl133) (Or.inl wl55) (by decide) (t := .int) (t' := .int) (by decide) (by decide)))
  have f145 : FC Z h6 a0 "raised" "J" (.long (0 : Int64)) := f114.other W6 (Or.inr (slot_ne (Or.inl wl135) (Or.inl wl55) (by decide) (t := .long) (t' := .int) (by decide) (by decide)))
  have f146 : FC Z h6 a0 "raisedScale" "I" (.int (0 : Int32)) := f115.other W6 (Or.inr (slot_ne (Or.inl wl137) (Or.inl wl55) (by decide) (t := .int) (t' := .int) (by decide) (by decide)))
  have f147 : FC Z h6 a0 "settled" "Z" (.int (0 : Int32)) := f116.other W6 (Or.inr (slot_ne (Or.inl wl139) (Or.inl wl55) (by decide) (t := .boolean) (t' := .int) (by decide) (by decide)))
  have f148 : FC Z h6 a0 "tallied" "J" (.long (0 : Int64)) := f117.other W6 (Or.inr (slot_ne (Or.inl wl161) (Or.inl wl55) (by decide) (t := .long) (t' := .int) (by decide) (by decide)))
  have f149 : FC Z h6 a0 "talliedScale" "I" (.int (0 : Int32)) := f118.other W6 (Or.inr (slot_ne (Or.inl wl163) (Or.inl wl55) (by decide) (t := .int) (t' := .int) (by decide) (by decide)))
  have f150 : FC Z h6 a0 "indexation" "J" (.long (0 : Int64)) := f119.other W6 (Or.inr (slot_ne (Or.inl wl165) (Or.inl wl55) (by decide) (t := .long) (t' := .int) (by decide) (by decide)))
  have f151 : FC Z h6 a0 "indexationScale" "I" (.int (0 : Int32)) := f120.other W6 (Or.inr (slot_ne (Or.inl wl167) (Or.inl wl55) (by decide) (t := .int) (t' := .int) (by decide) (by decide)))
  have f152 : Exa Z h6 a6 "com/example/amortine/amortine/PeriodRate" := f121.wr W6
  have f153 : FP Z h6 a6 "wholeTermsAsked" "Z" (.int (1 : Int32)) := f122.other W6 (Or.inl (Ne.symm r35))
  have f154 : FP Z h6 a6 "wholeTerms" "[J" (.ref b) := f123.other W6 (Or.inl (Ne.symm r35))
  have f155 : Arv Z h6 b kb .long (2 : Int32) [(.long x0), (.long x1)] (.long (0 : Int64)) := f124.other W6 (Ne.symm r36)
  have f156 : FC Z h6 a0 "perYear" "I" (.int p5) := f125.other W6 (Or.inr (slot_ne (Or.inr wl47) (Or.inl wl55) (by decide) (t := .int) (t' := .int) (by decide) (by decide)))
  have f157 : FC Z h6 a0 "balloon" "J" (.long q3) := f126.other W6 (Or.inr (slot_ne (Or.inr wl49) (Or.inl wl55) (by decide) (t := .long) (t' := .int) (by decide) (by decide)))
  have f158 : FC Z h6 a0 "balloonScale" "I" (.int p4) := f127.other W6 (Or.inr (slot_ne (Or.inr wl51) (Or.inl wl55) (by decide) (t := .int) (t' := .int) (by decide) (by decide)))
  have f159 : FC Z h6 a0 "closing" "J" (.long q1) := f128.other W6 (Or.inr (slot_ne (Or.inl wl53) (Or.inl wl55) (by decide) (t := .long) (t' := .int) (by decide) (by decide)))
  have Zp6 : n0 ≤ h6.size := Nat.le_trans Zp5 (Keep.of_wr W6).1
  have K6 : Keep h0 h6 [a0] := K5.wr W6 (Or.inl (List.mem_of_getElem? (i := 0) rfl))
  have N6 := Fr.snoc X6 N5 r1
  have f160 : FC Z h6 a0 "closingScale" "I" (.int p2) := f98.same W6
  have go6 : Go p e below A0 (T6.setTop (mkF m 35 #[.val (.ref a0), .val (.long q1), .second, .val (.int p2), .val (.long q3), .second, .val (.int p4), .val (.int p5), .val (.ref a6)] [(.ref a6), (.ref a0)])) := by
    intro t k
    refine go5 t ?_
    refine st6 _ ?_
    show Steps p.tables e below (T6.setTop (mkF m 32 #[.val (.ref a0), .val (.long q1), .second, .val (.int p2), .val (.long q3), .second, .val (.int p4), .val (.int p5), .val (.ref a6)] [])) _
    refine o_aloadN X6 hx hby d6_32 33 rfl rfl rfl ?_
    refine o_aload X6 hx hby d6_33 35 rfl rfl rfl ?_
    exact k
  obtain ⟨cq7, q7, q7'⟩ := f129.cell
  obtain ⟨_, _, ⟨T7, L7, k7, n7⟩, -, X7, ⟨Lc7, hQ7, l7, y7, z7⟩, st7⟩ := X6.privateBack hx (y := (⟨"com/example/amortine/amortine/CentAmounts", "rate", "(Lcom/example/amortine/amortine/PeriodRate;)V"⟩ : MethodName)) hown (mvT hZ (hw _ (List.mem_of_getElem? (i := 56) rfl))) (mvT hZ (hw _ (List.mem_of_getElem? (i := 57) rfl))) (own_selp (y := (⟨"com/example/amortine/amortine/CentAmounts", "rate", "(Lcom/example/amortine/amortine/PeriodRate;)V"⟩ : MethodName)) (mvT hZ (hw _ (List.mem_of_getElem? (i := 40) rfl))) (Cond.privateMethod_at (mvP hZ (hw _ (List.mem_of_getElem? (i := 58) rfl)) (args := #[]))) (mvT hZ (hw _ (List.mem_of_getElem? (i := 57) rfl))) (by decide)) (Cond.privateMethod_at (mvP hZ (hw _ (List.mem_of_getElem? (i := 58) rfl)) (args := #[]))) (mvT hZ (hw _ (List.mem_of_getElem? (i := 59) rfl))) (by decide) (backOf (W := 0) (rm7 l Z aw hw [] a0 a6 b kb x0 x1 p5 q3 p4 q1 p2 (0 : Int64) (0 : Int64) (0 : Int64) (0 : Int32) (0 : Int64) (0 : Int32) (0 : Int64) (0 : Int32) (0 : Int64) (0 : Int32) (0 : Int64) (0 : Int32) (0 : Int32) (0 : Int64) (0 : Int32) (0 : Int64) (0 : Int32) h6 n0 Zp6 (f129) (r1) (f156) (f157) (f158) (f159) (f160) (f135) (f136) (f137) (f138) (f139) (f140) (f141) (f142) (f143) (f144) (f145) (f146) (f147) (f148) (f149) (f150) (f151) (f130) (f131) (f132) (f133) (f134) (f152) (f153) (f154) (f155) (pa0) (pa1) (r35) (r36)) hZ (hw _ (List.mem_of_getElem? (i := 59) rfl)) (hw _ (List.mem_of_getElem? (i := 41) rfl)) (by decide) (by decide)) (g := (mkF m 35 #[.val (.ref a0), .val (.long q1), .second, .val (.int p2), .val (.long q3), .second, .val (.int p4), .val (.int p5), .val (.ref a6)] [(.ref a6), (.ref a0)])) rfl (by rw [hml]; rfl) (Steps.refl _) (a := a0) (by rw [e6]; exact q7) q7' (argsL := [(.ref a6)]) (rest := []) (lenOf pd_10 rfl) rfl (by show 2 * 0 + _ ≤ _; exact Nat.le_of_eq rfl) (hb hby d6_35) (fun _ _ => ⟨rfl, e6, (by decide : 0 + 1 ≤ _), (by decide : 0 + 2 ≤ _)⟩)
  dsimp only [Pt.U, Pt.locs, Pt.cells, Pt.slots] at X7 l7 y7 z7 st7 hQ7
  obtain rfl : k7 = 1 := y7
  obtain rfl : n7 = 2 := z7
  obtain ⟨r7_n, r7_d, rfl, N7q, K7q, qf7_0, qf7_1, qf7_2, qf7_3, qf7_4, qf7_5, qf7_6, qf7_7, qf7_8, qf7_9, qf7_10, qf7_11, qf7_12, qf7_13, qf7_14, qf7_15, qf7_16, qf7_17, qf7_18, qf7_19, qf7_20, qf7_21, qf7_22, qf7_23, qf7_24, qf7_25, qf7_26, -⟩ := hQ7
  have f161 : Exa Z T7.heap a0 "com/example/amortine/amortine/CentAmounts" := f129.keep K7q
  have f162 : Exa Z T7.heap a6 "com/example/amortine/amortine/PeriodRate" := f152.keep K7q
  have f163 : FP Z T7.heap a6 "wholeTermsAsked" "Z" (.int (1 : Int32)) := f153.keep K7q (ninS (Ne.symm r35) nin0)
  have f164 : FP Z T7.heap a6 "wholeTerms" "[J" (.ref b) := f154.keep K7q (ninS (Ne.symm r35) nin0)
  have f165 : Arv Z T7.heap b kb .long (2 : Int32) [(.long x0), (.long x1)] (.long (0 : Int64)) := f155.keep K7q (ninS (Ne.symm r36) nin0)
  have Zp7 : n0 ≤ T7.heap.size := Nat.le_trans Zp6 K7q.1
  have K7 : Keep h0 T7.heap [a0] := Keep.trans K6 K7q (allS (P := fun x => x ∈ ([a0] : List Addr) ∨ h0.size ≤ x) (Or.inl (List.mem_of_getElem? (i := 0) rfl)) all0)
  have f166 : FC Z T7.heap a0 "perYear" "I" (.int p5) := qf7_0
  have f167 : FC Z T7.heap a0 "balloon" "J" (.long q3) := qf7_1
  have f168 : FC Z T7.heap a0 "balloonScale" "I" (.int p4) := qf7_2
  have f169 : FC Z T7.heap a0 "closing" "J" (.long q1) := qf7_3
  have f170 : FC Z T7.heap a0 "closingScale" "I" (.int p2) := qf7_4
  have f171 : FC Z T7.heap a0 "perPeriodNumerator" "J" (.long r7_n) := qf7_5
  have f172 : FC Z T7.heap a0 "perPeriodDenominator" "J" (.long r7_d) := qf7_6
  have f173 : FC Z T7.heap a0 "reciprocal" "J" (.long (Fdu (-1 : Int64) r7_d)) := qf7_7
  have f174 : FC Z T7.heap a0 "exactUpTo" "J" (.long ((9223372036854775807 : Int64) / r7_n)) := qf7_8
  have f175 : FC Z T7.heap a0 "opening" "J" (.long (0 : Int64)) := qf7_9
  have f176 : FC Z T7.heap a0 "interest" "J" (.long (0 : Int64)) := qf7_10
  have f177 : FC Z T7.heap a0 "owedBefore" "J" (.long (0 : Int64)) := qf7_11
  have f178 : FC Z T7.heap a0 "openingScale" "I" (.int (0 : Int32)) := qf7_12
  have f179 : FC Z T7.heap a0 "payment" "J" (.long (0 : Int64)) := qf7_13
  have f180 : FC Z T7.heap a0 "paymentScale" "I" (.int (0 : Int32)) := qf7_14
  have f181 : FC Z T7.heap a0 "principal" "J" (.long (0 : Int64)) := qf7_15
  have f182 : FC Z T7.heap a0 "principalScale" "I" (.int (0 : Int32)) := qf7_16
  have f183 : FC Z T7.heap a0 "madePaid" "J" (.long (0 : Int64)) := qf7_17
  have f184 : FC Z T7.heap a0 "madeScale" "I" (.int (0 : Int32)) := qf7_18
  have f185 : FC Z T7.heap a0 "raised" "J" (.long (0 : Int64)) := qf7_19
  have f186 : FC Z T7.heap a0 "raisedScale" "I" (.int (0 : Int32)) := qf7_20
  have f187 : FC Z T7.heap a0 "settled" "Z" (.int (0 : Int32)) := qf7_21
  have f188 : FC Z T7.heap a0 "tallied" "J" (.long (0 : Int64)) := qf7_22
  have f189 : FC Z T7.heap a0 "talliedScale" "I" (.int (0 : Int32)) := qf7_23
  have f190 : FC Z T7.heap a0 "indexation" "J" (.long (0 : Int64)) := qf7_24
  have f191 : FC Z T7.heap a0 "indexationScale" "I" (.int (0 : Int32)) := qf7_25
  have N7 : Fr n0 L7 := by rw [l7]; exact Fr.app N6 N7q
  have go7 : Go p e below A0 (T7.setTop (mkF m 38 #[.val (.ref a0), .val (.long q1), .second, .val (.int p2), .val (.long q3), .second, .val (.int p4), .val (.int p5), .val (.ref a6)] [])) := by
    intro t k
    refine go6 t ?_
    refine st7.trans ?_
    show Steps p.tables e below (T7.setTop (mkF m 38 #[.val (.ref a0), .val (.long q1), .second, .val (.int p2), .val (.long q3), .second, .val (.int p4), .val (.int p5), .val (.ref a6)] [])) _
    exact k
  rw [hA0] at go7
  obtain ⟨fs, hr, hrun, hended, hW, hsame⟩ := X7.leave (v := none) (fun _ => rfl)
  refine ⟨_, _, go7 _ (X7.returnOut hx Bd.returns (hb hby d6_38) hr), hrun, hended, _, _, rfl, ?_, ⟨_, rfl⟩, hW, hsame.mono (by decide) (by decide)⟩
  show Q6 Z a0 q1 p2 q3 p4 p5 a6 b kb x0 x1 h0 n0 _ T7.heap _
  exact ⟨r7_n, r7_d, rfl, N7, K7, f166, f167, f168, f169, f170, f171, f172, f173, f174, f175, f176, f177, f178, f179, f180, f181, f182, f183, f184, f185, f186, f187, f188, f189, f190, f191, qf7_26, trivial⟩
theorem u_not (x : Int64) : own_u (x ^^^ (-1 : Int64)) = 18446744073709551615 - own_u x := by
  show (x.toBitVec ^^^ (-1 : Int64).toBitVec).toNat = _
  rw [show (-1 : Int64).toBitVec = BitVec.allOnes 64 from by decide, BitVec.xor_allOnes, BitVec.toNat_not]; rfl
theorem u_orlt {x y : Int64} (hx : own_u x < 9223372036854775808) (hy : own_u y < 9223372036854775808) : own_u (x ||| y) < 9223372036854775808 := by
  show (x.toBitVec ||| y.toBitVec).toNat < 2 ^ 63
  rw [BitVec.toNat_or]; exact Nat.or_lt_two_pow hx hy
theorem u_pos {d : Int64} (h : 0 < d.toInt) : own_u d < 9223372036854775808 ∧ (own_u d : Int) = d.toInt := by
  have k := u_int d; have l := u_lt d; split at k <;> omega
theorem own_duN {W D q e r : Nat} (hW : W = q * D) (h1 : W ≤ 9223372036854775807) (hr : r = 18446744073709551615 - 2 * W) (he : e ≤ 1) (h : r < D → e = 0) : (2 * q + e) * D ≤ 18446744073709551615 := by
  rw [Nat.add_mul, Nat.mul_assoc, ← hW]
  by_cases c : r < D
  · rw [h c]; omega
  · rcases (by omega : e = 0 ∨ e = 1) with z | z <;> rw [z] <;> omega
theorem own_du {d : Int64} (h : 0 < d.toInt ∧ d.toInt ≤ 120000) : (own_u (Fdu (-1 : Int64) d) : Int) * d.toInt ≤ 18446744073709551615 := by
  obtain ⟨d1, d2⟩ := u_pos h.1
  obtain ⟨v0, h0⟩ : ∃ v, v = ((((-1 : Int64).toUInt64 >>> ((1 : Int32) &&& 0x3f).toInt64.toUInt64).toInt64) / d) := ⟨_, rfl⟩
  obtain ⟨v1, h1⟩ : ∃ v, v = (v0 <<< ((1 : Int32) &&& 0x3f).toInt64) := ⟨_, rfl⟩
  obtain ⟨v2, h2⟩ : ∃ v, v = ((-1 : Int64) - (v1 * d)) := ⟨_, rfl⟩
  obtain ⟨v3, h3⟩ : ∃ v, v = (((v2 ||| ((v2 - d) ^^^ (-1 : Int64))).toUInt64 >>> ((63 : Int32) &&& 0x3f).toInt64.toUInt64).toInt64) := ⟨_, rfl⟩
  have hF : Fdu (-1 : Int64) d = v1 + v3 := by simp only [Fdu, h0, h1, h2, h3]
  have um : own_u (-1 : Int64) = 18446744073709551615 := by decide +kernel
  have s1 : own_u (((-1 : Int64).toUInt64 >>> ((1 : Int32) &&& 0x3f).toInt64.toUInt64).toInt64) = 9223372036854775807 := by
    rw [u_shr _ 1 1 (by decide), um]
  have s2 : own_u v0 = 9223372036854775807 / own_u d := by
    rw [h0, u_div (by rw [s1]; decide) d1 (by omega), s1]
  obtain ⟨q, hq⟩ : ∃ q, q = 9223372036854775807 / own_u d := ⟨_, rfl⟩
  have w1 : q * own_u d ≤ 9223372036854775807 := by rw [hq]; exact Nat.div_mul_le_self _ _
  have w2 : 9223372036854775807 < q * own_u d + own_u d := by rw [hq]; exact Nat.lt_div_mul_add (by omega)
  have qle : q ≤ 9223372036854775807 := by rw [hq]; exact Nat.div_le_self _ _
  have s3 : own_u v1 = 2 * q := by rw [h1, u_shl _ 1 1 (by decide), s2, ← hq]; omega
  obtain ⟨W, hW⟩ : ∃ W, W = q * own_u d := ⟨_, rfl⟩
  rw [← hW] at w1 w2
  have s4 : own_u (v1 * d) = 2 * W := by
    have e : own_u v1 * own_u d = 2 * W := by rw [s3, Nat.mul_assoc, ← hW]
    rw [u_mul' (by rw [e]; omega), e]
  have s5 : own_u v2 = 18446744073709551615 - 2 * W := by rw [h2, u_sub' (by rw [um, s4]; omega), um, s4]
  have e3 : own_u v3 = own_u (v2 ||| ((v2 - d) ^^^ (-1 : Int64))) / 9223372036854775808 := by rw [h3]; exact u_shr _ 63 63 (by decide)
  have l3 : own_u v3 ≤ 1 := by have := u_lt (v2 ||| ((v2 - d) ^^^ (-1 : Int64))); omega
  have z3 : own_u v2 < own_u d → own_u v3 = 0 := fun c => by
    have a := u_sub v2 d
    have b := u_not (v2 - d)
    have o := u_orlt (x := v2) (y := (v2 - d) ^^^ (-1 : Int64)) (by omega) (by omega)
    omega
  have sF : own_u (Fdu (-1 : Int64) d) = 2 * q + own_u v3 := by rw [hF, u_add' (by omega), s3]
  rw [sF, ← d2]
  have fin := own_duN hW w1 s5 l3 z3
  have e : (((2 * q + own_u v3) * own_u d : Nat) : Int) = ((2 * q + own_u v3 : Nat) : Int) * (own_u d : Int) := Int.natCast_mul _ _
  rw [← e]; generalize (2 * q + own_u v3) * own_u d = z at fin ⊢; omega
theorem own_due {q n d rc v1 v2 v3 v4 v5 v6 v7 v8 : Int64} (hA : 120000 ≤ q.toInt ∧ q.toInt < 137438953472) (hrt : own_rate n d) (hre : rc = (Fdu (-1 : Int64) d)) (hv1 : v1 = (q * n)) (hv2 : v2 = (Fmh v1 rc)) (hv3 : v3 = (if rc < (0 : Int64) then v1 else (0 : Int64))) (hv4 : v4 = (v2 + v3)) (hv5 : v5 = (v1 - (v4 * d)))
    (hv6 : v6 = (if v5 < d then v4 else (v4 + (1 : Int64)))) (hv7 : v7 = (if v5 < d then v5 else (v5 - d))) (hv8 : v8 = (v6 - ((((d - v7) - v7) - (1 : Int64)) >>> ((63 : Int32) &&& 0x3f).toInt64))) : 1 ≤ v8.toInt ∧ v8.toInt ≤ 1125899906842624 := by
  obtain ⟨n1, n2, d1, d2⟩ := hrt
  have a1 : 120000 * 1 ≤ q.toInt * n.toInt := Int.mul_le_mul (by omega) (by omega) (by decide) (by omega)
  have a2 : q.toInt * n.toInt ≤ 137438953471 * 4096 := Int.mul_le_mul (by omega) (by omega) (by omega) (by decide)
  have iP : v1.toInt = q.toInt * n.toInt := by
    have k := c_lmul q n; have r := rng64 v1; rw [← hv1] at k; generalize q.toInt * n.toInt = z at k a1 a2 ⊢; omega
  rw [← iP] at a1 a2
  have M := own_mh (x := v1) (y := rc) (by omega) (by omega); rw [← hv2] at M
  have U := own_du ⟨d1, d2⟩; rw [← hre] at U
  have Q : v4.toInt * 18446744073709551616 ≤ v1.toInt * (own_u rc : Int) ∧ v1.toInt * (own_u rc : Int) < (v4.toInt + 1) * 18446744073709551616 := by
    have u := u_int rc; have ul := u_lt rc; have rr := rng64 rc
    have x1 : 0 ≤ v1.toInt * (rc.toInt + 9223372036854775808) := Int.mul_nonneg (by omega) (by omega)
    have x2 : 0 ≤ v1.toInt * (9223372036854775808 - rc.toInt) := Int.mul_nonneg (by omega) (by omega)
    rw [Int.mul_add] at x1
    rw [Int.mul_sub] at x2
    have c := c_ladd v2 v3; have r4 := rng64 v4; rw [← hv4] at c
    by_cases s : rc < (0 : Int64)
    · rw [if_pos s] at hv3
      rw [Int64.lt_iff_toInt_lt] at s; simp only [Int64.reduceToInt] at s
      have e : (own_u rc : Int) = rc.toInt + 18446744073709551616 := by split at u <;> omega
      rw [e, Int.mul_add]; rw [hv3] at c
      generalize v1.toInt * rc.toInt = X at M x1 x2 ⊢
      omega
    · rw [if_neg s] at hv3
      rw [Int64.lt_iff_toInt_lt] at s; simp only [Int64.reduceToInt] at s
      have e : (own_u rc : Int) = rc.toInt := by split at u <;> omega
      rw [e]; rw [hv3] at c; simp only [Int64.reduceToInt] at c
      generalize v1.toInt * rc.toInt = X at M x1 x2 ⊢
      omega
  have Zn : 0 ≤ v1.toInt * (own_u rc : Int) := Int.mul_nonneg (by omega) (by omega)
  have q0 : 0 ≤ v4.toInt := by generalize v1.toInt * (own_u rc : Int) = z at Q Zn; omega
  have hD : v4.toInt * d.toInt ≤ v1.toInt := by
    have m1 : v4.toInt * 18446744073709551616 * d.toInt ≤ v1.toInt * (own_u rc : Int) * d.toInt := Int.mul_le_mul_of_nonneg_right Q.1 (by omega)
    have m2 : v1.toInt * ((own_u rc : Int) * d.toInt) ≤ v1.toInt * 18446744073709551615 := Int.mul_le_mul_of_nonneg_left U (by omega)
    rw [Int.mul_right_comm, Int.mul_assoc v1.toInt] at m1
    generalize v4.toInt * d.toInt = QD at m1 ⊢
    generalize v1.toInt * ((own_u rc : Int) * d.toInt) = T at m1 m2
    omega
  have QDn : 0 ≤ v4.toInt * d.toInt := Int.mul_nonneg q0 (by omega)
  have QDq : v4.toInt * 1 ≤ v4.toInt * d.toInt := Int.mul_le_mul_of_nonneg_left (by omega) q0
  have Qz : v4.toInt = 0 → v4.toInt * d.toInt = 0 := fun h => by rw [h, Int.zero_mul]
  have i5 : v5.toInt = v1.toInt - v4.toInt * d.toInt := by
    have k := c_lmul v4 d; have k2 := c_lsub v1 (v4 * d); have r := rng64 (v4 * d); have r2 := rng64 v5; rw [← hv5] at k2
    generalize v4.toInt * d.toInt = QD at k hD QDn ⊢; omega
  generalize v4.toInt * d.toInt = QD at hD QDn QDq Qz i5
  have step : 1 ≤ v6.toInt ∧ v6.toInt ≤ v4.toInt + 1 ∧ 0 ≤ v7.toInt ∧ v7.toInt ≤ v1.toInt := by
    by_cases c : v5 < d
    · rw [if_pos c] at hv6 hv7; rw [Int64.lt_iff_toInt_lt] at c; rw [hv6, hv7]; refine ⟨?_, by omega, by omega, by omega⟩
      rcases Int.lt_or_eq_of_le q0 with z | z
      · omega
      · have := Qz z.symm; omega
    · rw [if_neg c] at hv6 hv7; rw [Int64.lt_iff_toInt_lt] at c
      have k := c_ladd v4 1; have r := rng64 v6; rw [← hv6] at k; simp only [Int64.reduceToInt] at k
      have k2 := c_lsub v5 d; have r2 := rng64 v7; rw [← hv7] at k2
      omega
  obtain ⟨x1, g1⟩ : ∃ x, x = (d - v7) := ⟨_, rfl⟩
  obtain ⟨x2, g2⟩ : ∃ x, x = (x1 - v7) := ⟨_, rfl⟩
  obtain ⟨x3, g3⟩ : ∃ x, x = (x2 - (1 : Int64)) := ⟨_, rfl⟩
  rw [← g1, ← g2, ← g3] at hv8
  have k1 := c_lsub d v7; have r1 := rng64 x1; rw [← g1] at k1
  have k2 := c_lsub x1 v7; have r2 := rng64 x2; rw [← g2] at k2
  have k3 := c_lsub x2 1; have r3 := rng64 x3; rw [← g3] at k3; simp only [Int64.reduceToInt] at k3
  have sh : (x3 >>> ((63 : Int32) &&& 0x3f).toInt64).toInt = x3.toInt / 9223372036854775808 := c_lshr x3 63 63 (by decide)
  have k4 := c_lsub v6 (x3 >>> ((63 : Int32) &&& 0x3f).toInt64); have r4 := rng64 v8; rw [← hv8, sh] at k4
  omega
theorem own_am {q v : Int64} (h : v = ((120000 : Int64) + (q &&& (68719476735 : Int64)))) : 120000 ≤ v.toInt ∧ v.toInt < 137438953472 := by
  have m : (q &&& (68719476735 : Int64)).toInt = q.toInt % 68719476736 := c_maskL _ _ 36 (by decide) (by decide)
  have k := c_ladd (120000 : Int64) (q &&& (68719476735 : Int64)); have r := rng64 v; rw [← h] at k; simp only [Int64.reduceToInt] at k; omega
theorem own_ba {q v w : Int64} (hA : 120000 ≤ v.toInt ∧ v.toInt < 137438953472) (h : w = ((q &&& (68719476735 : Int64)) % v)) : 0 ≤ w.toInt ∧ w.toInt < v.toInt := by
  have m : (q &&& (68719476735 : Int64)).toInt = q.toInt % 68719476736 := c_maskL _ _ 36 (by decide) (by decide)
  have k : w.toInt = (q &&& (68719476735 : Int64)).toInt % v.toInt := by rw [h, Int64.toInt_mod, Int.tmod_eq_emod_of_nonneg (by omega)]
  have g1 := Int.emod_nonneg (q &&& (68719476735 : Int64)).toInt (by omega : v.toInt ≠ 0); have g2 := Int.emod_lt_of_pos (q &&& (68719476735 : Int64)).toInt (by omega : 0 < v.toInt)
  omega
theorem own_dg {p : Int32} {v : Int64} (h : v = ((1 : Int64) + ((p &&& (4095 : Int32)).toInt64))) : 0 < v.toInt ∧ v.toInt ≤ 4096 := by
  have m : (p &&& (4095 : Int32)).toInt = p.toInt % 4096 := c_mask _ _ 12 (by decide) (by decide)
  have k := c_ladd (1 : Int64) ((p &&& (4095 : Int32)).toInt64); have r := rng64 v; rw [← h, c_i2l] at k; simp only [Int64.reduceToInt] at k; omega
theorem own_rem {a b : Int32} (ha : 0 ≤ a.toInt) : (a % b).toInt = a.toInt % b.toInt := by rw [Int32.toInt_mod, Int.tmod_eq_emod_of_nonneg ha]
theorem own_de {x v : Int32} (h : v = ((x &&& (3 : Int32)) % (3 : Int32))) : ¬ v < 0 ∧ v < 3 := by
  have m : (x &&& (3 : Int32)).toInt = x.toInt % 4 := c_mask _ _ 2 (by decide) (by decide)
  have k : v.toInt = (x &&& (3 : Int32)).toInt % 3 := by rw [h]; exact own_rem (by omega)
  constructor <;> (rw [Int32.lt_iff_toInt_lt]; simp only [Int32.reduceToInt]; omega)
theorem own_py {x v : Int32} (h : v = ((1 : Int32) + ((x &&& (15 : Int32)) % (12 : Int32)))) : 0 < v.toInt ∧ v.toInt ≤ 12 := by
  have m : (x &&& (15 : Int32)).toInt = x.toInt % 16 := c_mask _ _ 4 (by decide) (by decide)
  have k : ((x &&& (15 : Int32)) % (12 : Int32)).toInt = (x &&& (15 : Int32)).toInt % 12 := own_rem (by omega)
  have c := c_iadd (1 : Int32) ((x &&& (15 : Int32)) % (12 : Int32)); have r := rng32 v; rw [← h] at c; simp only [Int32.reduceToInt] at c; omega
theorem own_pa {v1 v2 v6 q : Int64} (hA : 120000 ≤ v1.toInt ∧ v1.toInt < 137438953472) (hB : 0 ≤ v2.toInt ∧ v2.toInt < v1.toInt) (h : v6 = (((v1 - v2) - (1 : Int64)) - (q &&& (4294967295 : Int64)))) : 1 ≤ v1.toInt - v6.toInt - v2.toInt ∧ v1.toInt - v6.toInt - v2.toInt ≤ 4294967296 := by
  have m : (q &&& (4294967295 : Int64)).toInt = q.toInt % 4294967296 := c_maskL _ _ 32 (by decide) (by decide)
  have k1 := c_lsub v1 v2; have r1 := rng64 (v1 - v2); have k2 := c_lsub (v1 - v2) 1; have r2 := rng64 ((v1 - v2) - 1); have k3 := c_lsub ((v1 - v2) - 1) (q &&& (4294967295 : Int64)); have r3 := rng64 v6; rw [← h] at k3; simp only [Int64.reduceToInt] at k2; omega
theorem own_i1 (a b : Int64) : a - (a - b) = b := by
  apply Int64.toInt_inj.mp; have k1 := c_lsub a b; have k2 := c_lsub a (a - b); have r1 := rng64 (a - b); have r2 := rng64 (a - (a - b)); have r3 := rng64 b; omega
theorem own_i2 (a M b : Int64) : (a - (M - b)) - b = a - M := by
  apply Int64.toInt_inj.mp; have k1 := c_lsub M b; have k2 := c_lsub a (M - b); have k3 := c_lsub (a - (M - b)) b; have k4 := c_lsub a M; have r1 := rng64 ((a - (M - b)) - b); have r2 := rng64 (a - M); omega
theorem own_i3 (a b : Int64) : (a + b) - a = b := by
  apply Int64.toInt_inj.mp; have k1 := c_ladd a b; have k2 := c_lsub (a + b) a; have r1 := rng64 ((a + b) - a); have r2 := rng64 b; omega
theorem own_i4 (a b c : Int64) : a + (b - c) = (a + b) - c := by
  apply Int64.toInt_inj.mp; have k1 := c_lsub b c; have k2 := c_ladd a (b - c); have k3 := c_ladd a b; have k4 := c_lsub (a + b) c; have r1 := rng64 (a + (b - c)); have r2 := rng64 ((a + b) - c); omega
theorem d14_0 : decode prog_12_method_9_code 0 = .ok (.lload_n 1, 1) := by decide +kernel
theorem d14_1 : decode prog_12_method_9_code 1 = .ok (.lconst 0, 1) := by decide +kernel
theorem d14_2 : decode prog_12_method_9_code 2 = .ok (.lcmp, 1) := by decide +kernel
theorem d14_3 : decode prog_12_method_9_code 3 = .ok (.ifCond .ge 8, 3) := by decide +kernel
theorem d14_6 : decode prog_12_method_9_code 6 = .ok (.lload_n 1, 1) := by decide +kernel
theorem d14_7 : decode prog_12_method_9_code 7 = .ok (.lneg, 1) := by decide +kernel
theorem d14_8 : decode prog_12_method_9_code 8 = .ok (.goto 4, 3) := by decide +kernel
theorem d14_11 : decode prog_12_method_9_code 11 = .ok (.lload_n 1, 1) := by decide +kernel
theorem d14_12 : decode prog_12_method_9_code 12 = .ok (.lstore_n 3, 1) := by decide +kernel
theorem d14_13 : decode prog_12_method_9_code 13 = .ok (.lload_n 3, 1) := by decide +kernel
theorem d14_14 : decode prog_12_method_9_code 14 = .ok (.aload_n 0, 1) := by decide +kernel
theorem d14_15 : decode prog_12_method_9_code 15 = .ok (.getfield 90, 3) := by decide +kernel
theorem d14_18 : decode prog_12_method_9_code 18 = .ok (.lcmp, 1) := by decide +kernel
theorem d14_19 : decode prog_12_method_9_code 19 = .ok (.ifCond .gt 114, 3) := by decide +kernel
theorem d14_22 : decode prog_12_method_9_code 22 = .ok (.lload_n 3, 1) := by decide +kernel
theorem d14_23 : decode prog_12_method_9_code 23 = .ok (.aload_n 0, 1) := by decide +kernel
theorem d14_24 : decode prog_12_method_9_code 24 = .ok (.getfield 73, 3) := by decide +kernel
theorem d14_27 : decode prog_12_method_9_code 27 = .ok (.lmul, 1) := by decide +kernel
theorem d14_28 : decode prog_12_method_9_code 28 = .ok (.lstore 7, 2) := by decide +kernel
theorem d14_30 : decode prog_12_method_9_code 30 = .ok (.lload 7, 2) := by decide +kernel
theorem d14_32 : decode prog_12_method_9_code 32 = .ok (.aload_n 0, 1) := by decide +kernel
theorem d14_33 : decode prog_12_method_9_code 33 = .ok (.getfield 87, 3) := by decide +kernel
theorem d14_36 : decode prog_12_method_9_code 36 = .ok (.invokestatic 135, 3) := by decide +kernel
theorem d14_39 : decode prog_12_method_9_code 39 = .ok (.aload_n 0, 1) := by decide +kernel
theorem d14_40 : decode prog_12_method_9_code 40 = .ok (.getfield 87, 3) := by decide +kernel
theorem d14_43 : decode prog_12_method_9_code 43 = .ok (.lconst 0, 1) := by decide +kernel
theorem d14_44 : decode prog_12_method_9_code 44 = .ok (.lcmp, 1) := by decide +kernel
theorem d14_45 : decode prog_12_method_9_code 45 = .ok (.ifCond .ge 8, 3) := by decide +kernel
theorem d14_48 : decode prog_12_method_9_code 48 = .ok (.lload 7, 2) := by decide +kernel
theorem d14_50 : decode prog_12_method_9_code 50 = .ok (.goto 4, 3) := by decide +kernel
theorem d14_53 : decode prog_12_method_9_code 53 = .ok (.lconst 0, 1) := by decide +kernel
theorem d14_54 : decode prog_12_method_9_code 54 = .ok (.ladd, 1) := by decide +kernel
theorem d14_55 : decode prog_12_method_9_code 55 = .ok (.lstore 9, 2) := by decide +kernel
theorem d14_57 : decode prog_12_method_9_code 57 = .ok (.lload 7, 2) := by decide +kernel
theorem d14_59 : decode prog_12_method_9_code 59 = .ok (.lload 9, 2) := by decide +kernel
theorem d14_61 : decode prog_12_method_9_code 61 = .ok (.aload_n 0, 1) := by decide +kernel
theorem d14_62 : decode prog_12_method_9_code 62 = .ok (.getfield 76, 3) := by decide +kernel
theorem d14_65 : decode prog_12_method_9_code 65 = .ok (.lmul, 1) := by decide +kernel
theorem d14_66 : decode prog_12_method_9_code 66 = .ok (.lsub, 1) := by decide +kernel
theorem d14_67 : decode prog_12_method_9_code 67 = .ok (.lstore 11, 2) := by decide +kernel
theorem d14_69 : decode prog_12_method_9_code 69 = .ok (.lload 11, 2) := by decide +kernel
theorem d14_71 : decode prog_12_method_9_code 71 = .ok (.aload_n 0, 1) := by decide +kernel
theorem d14_72 : decode prog_12_method_9_code 72 = .ok (.getfield 76, 3) := by decide +kernel
theorem d14_75 : decode prog_12_method_9_code 75 = .ok (.lcmp, 1) := by decide +kernel
theorem d14_76 : decode prog_12_method_9_code 76 = .ok (.ifCond .lt 18, 3) := by decide +kernel
theorem d14_79 : decode prog_12_method_9_code 79 = .ok (.lload 9, 2) := by decide +kernel
theorem d14_81 : decode prog_12_method_9_code 81 = .ok (.lconst 1, 1) := by decide +kernel
theorem d14_82 : decode prog_12_method_9_code 82 = .ok (.ladd, 1) := by decide +kernel
theorem d14_83 : decode prog_12_method_9_code 83 = .ok (.lstore 9, 2) := by decide +kernel
theorem d14_85 : decode prog_12_method_9_code 85 = .ok (.lload 11, 2) := by decide +kernel
theorem d14_87 : decode prog_12_method_9_code 87 = .ok (.aload_n 0, 1) := by decide +kernel
theorem d14_88 : decode prog_12_method_9_code 88 = .ok (.getfield 76, 3) := by decide +kernel
theorem d14_91 : decode prog_12_method_9_code 91 = .ok (.lsub, 1) := by decide +kernel
theorem d14_92 : decode prog_12_method_9_code 92 = .ok (.lstore 11, 2) := by decide +kernel
theorem d14_94 : decode prog_12_method_9_code 94 = .ok (.lload 9, 2) := by decide +kernel
theorem d14_96 : decode prog_12_method_9_code 96 = .ok (.aload_n 0, 1) := by decide +kernel
theorem d14_97 : decode prog_12_method_9_code 97 = .ok (.getfield 76, 3) := by decide +kernel
theorem d14_100 : decode prog_12_method_9_code 100 = .ok (.lload 11, 2) := by decide +kernel
theorem d14_102 : decode prog_12_method_9_code 102 = .ok (.lsub, 1) := by decide +kernel
theorem d14_103 : decode prog_12_method_9_code 103 = .ok (.lload 11, 2) := by decide +kernel
theorem d14_105 : decode prog_12_method_9_code 105 = .ok (.lsub, 1) := by decide +kernel
theorem d14_106 : decode prog_12_method_9_code 106 = .ok (.lconst 1, 1) := by decide +kernel
theorem d14_107 : decode prog_12_method_9_code 107 = .ok (.lsub, 1) := by decide +kernel
theorem d14_108 : decode prog_12_method_9_code 108 = .ok (.bipush 63, 2) := by decide +kernel
theorem d14_110 : decode prog_12_method_9_code 110 = .ok (.lshr, 1) := by decide +kernel
theorem d14_111 : decode prog_12_method_9_code 111 = .ok (.lsub, 1) := by decide +kernel
theorem d14_112 : decode prog_12_method_9_code 112 = .ok (.lstore 9, 2) := by decide +kernel
theorem d14_114 : decode prog_12_method_9_code 114 = .ok (.lload_n 1, 1) := by decide +kernel
theorem d14_115 : decode prog_12_method_9_code 115 = .ok (.lconst 0, 1) := by decide +kernel
theorem d14_116 : decode prog_12_method_9_code 116 = .ok (.lcmp, 1) := by decide +kernel
theorem d14_117 : decode prog_12_method_9_code 117 = .ok (.ifCond .ge 9, 3) := by decide +kernel
theorem d14_120 : decode prog_12_method_9_code 120 = .ok (.lload 9, 2) := by decide +kernel
theorem d14_122 : decode prog_12_method_9_code 122 = .ok (.lneg, 1) := by decide +kernel
theorem d14_123 : decode prog_12_method_9_code 123 = .ok (.goto 5, 3) := by decide +kernel
theorem d14_126 : decode prog_12_method_9_code 126 = .ok (.lload 9, 2) := by decide +kernel
theorem d14_128 : decode prog_12_method_9_code 128 = .ok (.lstore 5, 2) := by decide +kernel
theorem d14_130 : decode prog_12_method_9_code 130 = .ok (.goto 37, 3) := by decide +kernel
theorem d14_133 : decode prog_12_method_9_code 133 = .ok (.lload_n 1, 1) := by decide +kernel
theorem d14_134 : decode prog_12_method_9_code 134 = .ok (.iconst 2, 1) := by decide +kernel
theorem d14_135 : decode prog_12_method_9_code 135 = .ok (.invokestatic 138, 3) := by decide +kernel
theorem d14_138 : decode prog_12_method_9_code 138 = .ok (.aload_n 0, 1) := by decide +kernel
theorem d14_139 : decode prog_12_method_9_code 139 = .ok (.getfield 66, 3) := by decide +kernel
theorem d14_142 : decode prog_12_method_9_code 142 = .ok (.invokevirtual 141, 3) := by decide +kernel
theorem d14_145 : decode prog_12_method_9_code 145 = .ok (.invokevirtual 121, 3) := by decide +kernel
theorem d14_148 : decode prog_12_method_9_code 148 = .ok (.astore 7, 2) := by decide +kernel
theorem d14_150 : decode prog_12_method_9_code 150 = .ok (.aload 7, 2) := by decide +kernel
theorem d14_152 : decode prog_12_method_9_code 152 = .ok (.aload_n 0, 1) := by decide +kernel
theorem d14_153 : decode prog_12_method_9_code 153 = .ok (.getfield 66, 3) := by decide +kernel
theorem d14_156 : decode prog_12_method_9_code 156 = .ok (.invokevirtual 142, 3) := by decide +kernel
theorem d14_159 : decode prog_12_method_9_code 159 = .ok (.invokestatic 145, 3) := by decide +kernel
theorem d14_162 : decode prog_12_method_9_code 162 = .ok (.invokestatic 31, 3) := by decide +kernel
theorem d14_165 : decode prog_12_method_9_code 165 = .ok (.lstore 5, 2) := by decide +kernel
theorem d14_167 : decode prog_12_method_9_code 167 = .ok (.lload 5, 2) := by decide +kernel
theorem d14_169 : decode prog_12_method_9_code 169 = .ok (.lreturn, 1) := by decide +kernel
theorem ef_14 (m : MethodId) (x0 : Addr) (x1 : Int64) : entryFrame m #[(.ref x0), (.long x1)] 13 = mkF m 0 #[.val (.ref x0), .val (.long x1), .second, .unset, .unset, .unset, .unset, .unset, .unset, .unset, .unset, .unset, .unset] [] := by first | (simp [entryFrame, mkF, argsToLocals, Value.category]; done) | rfl
set_option maxRecDepth 65536 in
set_option maxHeartbeats 4000000 in
theorem pf14_c19_0 (a0 : Addr) (q1 : Int64) (f_perPeriodNumerator : Int64) (f_perPeriodDenominator : Int64) (f_reciprocal : Int64) (f_exactUpTo : Int64) (hA : 120000 ≤ q1.toInt ∧ q1.toInt < 137438953472) (hrt : own_rate f_perPeriodNumerator f_perPeriodDenominator) (hre : f_reciprocal = (Fdu (-1 : Int64) f_perPeriodDenominator)) (hex : f_exactUpTo = ((9223372036854775807 : Int64) / f_perPeriodNumerator)) : ¬ (f_exactUpTo < q1) := by
  exact own_ex hA hrt hex
set_option maxRecDepth 65536 in
set_option maxHeartbeats 4000000 in
theorem pl_due (a0 : Addr) (q1 : Int64) (f_perPeriodNumerator : Int64) (f_perPeriodDenominator : Int64) (f_reciprocal : Int64) (f_exactUpTo : Int64) (hA : 120000 ≤ q1.toInt ∧ q1.toInt < 137438953472) (hrt : own_rate f_perPeriodNumerator f_perPeriodDenominator) (hre : f_reciprocal = (Fdu (-1 : Int64) f_perPeriodDenominator)) (hex : f_exactUpTo = ((9223372036854775807 : Int64) / f_perPeriodNumerator)) (v1 : Int64) (v2 : Int64) (v3 : Int64) (v4 : Int64) (v5 : Int64) (v6 : Int64) (v7 : Int64) (v8 : Int64) (hv1 : v1 = (q1 * f_perPeriodNumerator)) (hv2 : v2 = (Fmh v1 f_reciprocal)) (hv3 : v3 = (if f_reciprocal < (0 : Int64) then v1 else (0 : Int64))) (hv4 : v4 = (v2 + v3)) (hv5 : v5 = (v1 - (v4 * f_perPeriodDenominator))) (hv6 : v6 = (if v5 < f_perPeriodDenominator then v4 else (v4 + (1 : Int64)))) (hv7 : v7 = (if v5 < f_perPeriodDenominator then v5 else (v5 - f_perPeriodDenominator))) (hv8 : v8 = (v6 - ((((f_perPeriodDenominator - v7) - v7) - (1 : Int64)) >>> ((63 : Int32) &&& 0x3f).toInt64))) : 1 ≤ v8.toInt ∧ v8.toInt ≤ 1125899906842624 := by
  exact own_due hA hrt hre hv1 hv2 hv3 hv4 hv5 hv6 hv7 hv8
def Q14 (Z : State) (a0 : Addr) (q1 : Int64) (f_perPeriodNumerator : Int64) (f_perPeriodDenominator : Int64) (f_reciprocal : Int64) (f_exactUpTo : Int64) (h0 : Heap) (n0 : Nat) (v : Option Value) (h : Heap) (L : List Loc) : Prop := ∃ r : Int64, v = some (.long r) ∧ Fr n0 L ∧ h = h0 ∧ (1 ≤ r.toInt ∧ r.toInt ≤ 1125899906842624) ∧ True
set_option maxRecDepth 65536 in
set_option maxHeartbeats 40000000 in
theorem rm14 (l : Launch) (Z : State) (aw : Array Value) (hw : ∀ d ∈ tables_1, d.before aw Z = true) (ws : List Jvm.Cond) (a0 : Addr) (q1 : Int64) (f_perPeriodNumerator : Int64) (f_perPeriodDenominator : Int64) (f_reciprocal : Int64) (f_exactUpTo : Int64) (h0 : Heap) (n0 : Nat) (Z0 : n0 ≤ h0.size) (r0 : Exa Z h0 a0 "com/example/amortine/amortine/CentAmounts") (r1 : FC Z h0 a0 "perPeriodNumerator" "J" (.long f_perPeriodNumerator)) (r2 : FC Z h0 a0 "perPeriodDenominator" "J" (.long f_perPeriodDenominator)) (r3 : FC Z h0 a0 "reciprocal" "J" (.long f_reciprocal)) (r4 : FC Z h0 a0 "exactUpTo" "J" (.long f_exactUpTo)) (hA : (120000 ≤ q1.toInt ∧ q1.toInt < 137438953472)) (hrt : (own_rate f_perPeriodNumerator f_perPeriodDenominator)) (hre : (f_reciprocal = (Fdu (-1 : Int64) f_perPeriodDenominator))) (hex : (f_exactUpTo = ((9223372036854775807 : Int64) / f_perPeriodNumerator))) :
    MetFree l (⟨"com/example/amortine/amortine/CentAmounts", "interestOn", "(J)J"⟩ : MethodName) (head1 (Jvm.Cond.code (⟨"com/example/amortine/amortine/CentAmounts", "interestOn", "(J)J"⟩ : MethodName) prog_12_method_9_code 13 (some .long) :: ws) ({ frames := 1, cells := 0, slots := 0, locals := 31 } : Room)) (fun a U => a = #[(.ref a0), (.long q1)] ∧ Z.Warmed39 U.vm ∧ U.heap = h0) (fun _ _ _ _ _ => True) (fun _ U o U' => ∃ v L, o = .returned v ∧ Q14 Z a0 q1 f_perPeriodNumerator f_perPeriodDenominator f_reciprocal f_exactUpTo h0 n0 v U'.heap L ∧ FrameEnd U o U' L ({ frames := 1, cells := 0, slots := 0, locals := 31 } : Room).cells ({ frames := 1, cells := 0, slots := 0, locals := 31 } : Room).slots) := by
  refine MetFree.of_bodySF (plainFor_of_name pn_7) hisR ?_
  intro p e s m args below meth c s₁ Bd hml0 hP hK
  obtain ⟨rfl, hZ, hh⟩ := hP
  have hx := Bd.exec
  have hby := Bd.bytes
  have hml : c.maxLocals = 13 := hml0
  have hown : s.vm.findClass "com/example/amortine/amortine/CentAmounts" = some m.cls := findClass_of_methodNamed Bd.named
  have hnm := (name_of_methodNamed Bd.named Bd.method).1
  have X0 : Stand p l e ({ frames := 1, cells := 0, slots := 0, locals := 31 } : Room) s m #[(.ref a0), (.long q1)] below meth c s₁ [] 0 0 := Stand.of_body Bd
  have e0 : s₁.heap = h0 := by rw [← hh, Bd.state]; rfl
  have N0 := Fr.nil n0
  obtain ⟨A0, hA0⟩ : ∃ A0, A0 = s₁.setTop (entryFrame m #[(.ref a0), (.long q1)] 13) := ⟨_, rfl⟩
  have go0 : Go p e below A0 (s₁.setTop (mkF m 0 #[.val (.ref a0), .val (.long q1), .second, .unset, .unset, .unset, .unset, .unset, .unset, .unset, .unset, .unset, .unset] [])) := fun t k => by rw [hA0]; exact castTop (ef_14 m a0 q1) k
  have go1 : Go p e below A0 (s₁.setTop (mkF m 13 #[.val (.ref a0), .val (.long q1), .second, .val (.long q1), .second, .unset, .unset, .unset, .unset, .unset, .unset, .unset, .unset] [])) := by
    intro t k
    refine go0 t ?_
    refine o_lloadN X0 hx hby d14_0 1 rfl rfl ?_
    refine o_lconst X0 hx hby d14_1 2 rfl (v := (0 : Int64)) rfl ?_
    refine o_lcmp X0 hx hby d14_2 3 rfl ?_
    refine o_ifY X0 hx hby d14_3 11 rfl (flt (fun q => (own_nn2 hA) ((lw_lt q1 (0 : Int64)).mp q))).2.1 ?_
    refine o_lloadN X0 hx hby d14_11 12 rfl rfl ?_
    refine o_lstoreN X0 hx hby d14_12 13 rfl (l' := #[.val (.ref a0), .val (.long q1), .second, .val (.long q1), .second, .unset, .unset, .unset, .unset, .unset, .unset, .unset, .unset]) rfl ?_
    exact k
  obtain ⟨T1, X1, e1, st1⟩ := getF X0 hx hZ hown (host := "") (Or.inl (hw _ (List.mem_of_getElem? (i := 88) rfl))) Via.refl e0 r4 (g := (mkF m 15 #[.val (.ref a0), .val (.long q1), .second, .val (.long q1), .second, .unset, .unset, .unset, .unset, .unset, .unset, .unset, .unset] [(.ref a0), (.long q1)])) rfl rfl (hb hby d14_15)
  have go2 : Go p e below A0 (T1.setTop (mkF m 19 #[.val (.ref a0), .val (.long q1), .second, .val (.long q1), .second, .unset, .unset, .unset, .unset, .unset, .unset, .unset, .unset] [(.int (lcmpW q1 f_exactUpTo))])) := by
    intro t k
    refine go1 t ?_
    refine o_lloadN X0 hx hby d14_13 14 rfl rfl ?_
    refine o_aloadN X0 hx hby d14_14 15 rfl rfl rfl ?_
    refine st1 _ ?_
    show Steps p.tables e below (T1.setTop (mkF m 18 #[.val (.ref a0), .val (.long q1), .second, .val (.long q1), .second, .unset, .unset, .unset, .unset, .unset, .unset, .unset, .unset] [(.long f_exactUpTo), (.long q1)])) _
    refine o_lcmp X1 hx hby d14_18 19 rfl ?_
    exact k
  have f_c19_1 : ¬ (f_exactUpTo < q1) := pf14_c19_0 a0 q1 f_perPeriodNumerator f_perPeriodDenominator f_reciprocal f_exactUpTo hA hrt hre hex
  obtain ⟨T2, X2, e2, st2⟩ := getF X1 hx hZ hown (host := "") (Or.inl (hw _ (List.mem_of_getElem? (i := 75) rfl))) Via.refl e1 r1 (g := (mkF m 24 #[.val (.ref a0), .val (.long q1), .second, .val (.long q1), .second, .unset, .unset, .unset, .unset, .unset, .unset, .unset, .unset] [(.ref a0), (.long q1)])) rfl rfl (hb hby d14_24)
  have go3 : Go p e below A0 (T2.setTop (mkF m 30 #[.val (.ref a0), .val (.long q1), .second, .val (.long q1), .second, .unset, .unset, .val (.long (q1 * f_perPeriodNumerator)), .second, .unset, .unset, .unset, .unset] [])) := by
    intro t k
    refine go2 t ?_
    refine o_ifN X1 hx hby d14_19 22 rfl (flt (fun q => (f_c19_1) ((lw_gt q1 f_exactUpTo).mp q))).2.2.1 ?_
    refine o_lloadN X1 hx hby d14_22 23 rfl rfl ?_
    refine o_aloadN X1 hx hby d14_23 24 rfl rfl rfl ?_
    refine st2 _ ?_
    show Steps p.tables e below (T2.setTop (mkF m 27 #[.val (.ref a0), .val (.long q1), .second, .val (.long q1), .second, .unset, .unset, .unset, .unset, .unset, .unset, .unset, .unset] [(.long f_perPeriodNumerator), (.long q1)])) _
    refine o_lmul X2 hx hby d14_27 28 rfl ?_
    refine o_lstore X2 hx hby d14_28 30 rfl (l' := #[.val (.ref a0), .val (.long q1), .second, .val (.long q1), .second, .unset, .unset, .val (.long (q1 * f_perPeriodNumerator)), .second, .unset, .unset, .unset, .unset]) rfl ?_
    exact k
  obtain ⟨v1, hv1, go4⟩ : ∃ v1 : Int64, v1 = (q1 * f_perPeriodNumerator) ∧ Go p e below A0 (T2.setTop (mkF m 30 #[.val (.ref a0), .val (.long q1), .second, .val (.long q1), .second, .unset, .unset, .val (.long v1), .second, .unset, .unset, .unset, .unset] [])) := ⟨_, rfl, go3⟩
  obtain ⟨T3, X3, e3, st3⟩ := getF X2 hx hZ hown (host := "") (Or.inl (hw _ (List.mem_of_getElem? (i := 85) rfl))) Via.refl e2 r3 (g := (mkF m 33 #[.val (.ref a0), .val (.long q1), .second, .val (.long q1), .second, .unset, .unset, .val (.long v1), .second, .unset, .unset, .unset, .unset] [(.ref a0), (.long v1)])) rfl rfl (hb hby d14_33)
  have go5 : Go p e below A0 (T3.setTop (mkF m 36 #[.val (.ref a0), .val (.long q1), .second, .val (.long q1), .second, .unset, .unset, .val (.long v1), .second, .unset, .unset, .unset, .unset] [(.long f_reciprocal), (.long v1)])) := by
    intro t k
    refine go4 t ?_
    refine o_lload X2 hx hby d14_30 32 rfl rfl ?_
    refine o_aloadN X2 hx hby d14_32 33 rfl rfl rfl ?_
    refine st3 _ ?_
    show Steps p.tables e below (T3.setTop (mkF m 36 #[.val (.ref a0), .val (.long q1), .second, .val (.long q1), .second, .unset, .unset, .val (.long v1), .second, .unset, .unset, .unset, .unset] [(.long f_reciprocal), (.long v1)])) _
    exact k
  obtain ⟨_, _, ⟨T4, L4, k4, n4⟩, -, X4, ⟨Lc4, hQ4, l4, y4, z4⟩, st4⟩ := Jvm.LawKit.callS X3 hx (y := (⟨"java/lang/Math", "multiplyHigh", "(JJ)J"⟩ : MethodName)) hown (mvT hZ (hw _ (List.mem_of_getElem? (i := 108) rfl))) (mvT hZ (hw _ (List.mem_of_getElem? (i := 109) rfl))) (mvT hZ (hw _ (List.mem_of_getElem? (i := 110) rfl))) (mvT hZ (hw _ (List.mem_of_getElem? (i := 111) rfl))) (by decide) (backOf (W := 0) (rm15 l Z aw hw [] v1 f_reciprocal h0 n0 Z0) hZ (hw _ (List.mem_of_getElem? (i := 111) rfl)) (hw _ (List.mem_of_getElem? (i := 110) rfl)) (by decide) (by decide)) (g := (mkF m 36 #[.val (.ref a0), .val (.long q1), .second, .val (.long q1), .second, .unset, .unset, .val (.long v1), .second, .unset, .unset, .unset, .unset] [(.long f_reciprocal), (.long v1)])) rfl (by rw [hml]; rfl) (argsL := [(.long v1), (.long f_reciprocal)]) (rest := []) (lenOf pd_8 rfl) rfl (by show 2 * 0 + _ ≤ _; exact Nat.le_of_eq rfl) (hb hby d14_36) (fun _ _ => ⟨rfl, e3, (by decide : 0 + 0 ≤ _), (by decide : 0 + 0 ≤ _)⟩)
  dsimp only [Pt.U, Pt.locs, Pt.cells, Pt.slots] at X4 l4 y4 z4 st4 hQ4
  obtain rfl : k4 = 0 := y4
  obtain rfl : n4 = 0 := z4
  obtain ⟨rfl, N4q, e4⟩ := hQ4
  have N4 : Fr n0 L4 := by rw [l4]; exact Fr.app N0 N4q
  have go6 : Go p e below A0 (T4.setTop (mkF m 39 #[.val (.ref a0), .val (.long q1), .second, .val (.long q1), .second, .unset, .unset, .val (.long v1), .second, .unset, .unset, .unset, .unset] [(.long (Fmh v1 f_reciprocal))])) := by
    intro t k
    refine go5 t ?_
    refine st4 _ ?_
    show Steps p.tables e below (T4.setTop (mkF m 39 #[.val (.ref a0), .val (.long q1), .second, .val (.long q1), .second, .unset, .unset, .val (.long v1), .second, .unset, .unset, .unset, .unset] [(.long (Fmh v1 f_reciprocal))])) _
    exact k
  obtain ⟨v2, hv2, go7⟩ : ∃ v2 : Int64, v2 = (Fmh v1 f_reciprocal) ∧ Go p e below A0 (T4.setTop (mkF m 39 #[.val (.ref a0), .val (.long q1), .second, .val (.long q1), .second, .unset, .unset, .val (.long v1), .second, .unset, .unset, .unset, .unset] [(.long v2)])) := ⟨_, rfl, go6⟩
  obtain ⟨T5, X5, e5, st5⟩ := getF X4 hx hZ hown (host := "") (Or.inl (hw _ (List.mem_of_getElem? (i := 85) rfl))) Via.refl e4 r3 (g := (mkF m 40 #[.val (.ref a0), .val (.long q1), .second, .val (.long q1), .second, .unset, .unset, .val (.long v1), .second, .unset, .unset, .unset, .unset] [(.ref a0), (.long v2)])) rfl rfl (hb hby d14_40)
  have go8 : Go p e below A0 (T5.setTop (mkF m 45 #[.val (.ref a0), .val (.long q1), .second, .val (.long q1), .second, .unset, .unset, .val (.long v1), .second, .unset, .unset, .unset, .unset] [(.int (lcmpW f_reciprocal (0 : Int64))), (.long v2)])) := by
    intro t k
    refine go7 t ?_
    refine o_aloadN X4 hx hby d14_39 40 rfl rfl rfl ?_
    refine st5 _ ?_
    show Steps p.tables e below (T5.setTop (mkF m 43 #[.val (.ref a0), .val (.long q1), .second, .val (.long q1), .second, .unset, .unset, .val (.long v1), .second, .unset, .unset, .unset, .unset] [(.long f_reciprocal), (.long v2)])) _
    refine o_lconst X5 hx hby d14_43 44 rfl (v := (0 : Int64)) rfl ?_
    refine o_lcmp X5 hx hby d14_44 45 rfl ?_
    exact k
  obtain ⟨v3, hv3, go11⟩ : ∃ (v3 : Int64), v3 = (if f_reciprocal < (0 : Int64) then v1 else (0 : Int64)) ∧ Go p e below A0 (T5.setTop (mkF m 54 #[.val (.ref a0), .val (.long q1), .second, .val (.long q1), .second, .unset, .unset, .val (.long v1), .second, .unset, .unset, .unset, .unset] [(.long v3), (.long v2)])) := by
    by_cases hc45_6 : f_reciprocal < (0 : Int64)
    · have go9 : Go p e below A0 (T5.setTop (mkF m 54 #[.val (.ref a0), .val (.long q1), .second, .val (.long q1), .second, .unset, .unset, .val (.long v1), .second, .unset, .unset, .unset, .unset] [(.long v1), (.long v2)])) := by
        intro t k
        refine go8 t ?_
        refine o_ifN X5 hx hby d14_45 48 rfl (tlt ((lw_lt f_reciprocal (0 : Int64)).mpr hc45_6)).2.1 ?_
        refine o_lload X5 hx hby d14_48 50 rfl rfl ?_
        refine o_goto X5 hx hby d14_50 54 rfl ?_
        exact k
      exact ⟨v1, (if_pos hc45_6).symm, go9⟩
    · have go10 : Go p e below A0 (T5.setTop (mkF m 54 #[.val (.ref a0), .val (.long q1), .second, .val (.long q1), .second, .unset, .unset, .val (.long v1), .second, .unset, .unset, .unset, .unset] [(.long (0 : Int64)), (.long v2)])) := by
        intro t k
        refine go8 t ?_
        refine o_ifY X5 hx hby d14_45 53 rfl (flt (fun q => hc45_6 ((lw_lt f_reciprocal (0 : Int64)).mp q))).2.1 ?_
        refine o_lconst X5 hx hby d14_53 54 rfl (v := (0 : Int64)) rfl ?_
        exact k
      exact ⟨(0 : Int64), (if_neg hc45_6).symm, go10⟩
  have go12 : Go p e below A0 (T5.setTop (mkF m 57 #[.val (.ref a0), .val (.long q1), .second, .val (.long q1), .second, .unset, .unset, .val (.long v1), .second, .val (.long (v2 + v3)), .second, .unset, .unset] [])) := by
    intro t k
    refine go11 t ?_
    refine o_ladd X5 hx hby d14_54 55 rfl ?_
    refine o_lstore X5 hx hby d14_55 57 rfl (l' := #[.val (.ref a0), .val (.long q1), .second, .val (.long q1), .second, .unset, .unset, .val (.long v1), .second, .val (.long (v2 + v3)), .second, .unset, .unset]) rfl ?_
    exact k
  obtain ⟨v4, hv4, go13⟩ : ∃ v4 : Int64, v4 = (v2 + v3) ∧ Go p e below A0 (T5.setTop (mkF m 57 #[.val (.ref a0), .val (.long q1), .second, .val (.long q1), .second, .unset, .unset, .val (.long v1), .second, .val (.long v4), .second, .unset, .unset] [])) := ⟨_, rfl, go12⟩
  obtain ⟨T7, X7, e7, st7⟩ := getF X5 hx hZ hown (host := "") (Or.inl (hw _ (List.mem_of_getElem? (i := 77) rfl))) Via.refl e5 r2 (g := (mkF m 62 #[.val (.ref a0), .val (.long q1), .second, .val (.long q1), .second, .unset, .unset, .val (.long v1), .second, .val (.long v4), .second, .unset, .unset] [(.ref a0), (.long v4), (.long v1)])) rfl rfl (hb hby d14_62)
  have go14 : Go p e below A0 (T7.setTop (mkF m 69 #[.val (.ref a0), .val (.long q1), .second, .val (.long q1), .second, .unset, .unset, .val (.long v1), .second, .val (.long v4), .second, .val (.long (v1 - (v4 * f_perPeriodDenominator))), .second] [])) := by
    intro t k
    refine go13 t ?_
    refine o_lload X5 hx hby d14_57 59 rfl rfl ?_
    refine o_lload X5 hx hby d14_59 61 rfl rfl ?_
    refine o_aloadN X5 hx hby d14_61 62 rfl rfl rfl ?_
    refine st7 _ ?_
    show Steps p.tables e below (T7.setTop (mkF m 65 #[.val (.ref a0), .val (.long q1), .second, .val (.long q1), .second, .unset, .unset, .val (.long v1), .second, .val (.long v4), .second, .unset, .unset] [(.long f_perPeriodDenominator), (.long v4), (.long v1)])) _
    refine o_lmul X7 hx hby d14_65 66 rfl ?_
    refine o_lsub X7 hx hby d14_66 67 rfl ?_
    refine o_lstore X7 hx hby d14_67 69 rfl (l' := #[.val (.ref a0), .val (.long q1), .second, .val (.long q1), .second, .unset, .unset, .val (.long v1), .second, .val (.long v4), .second, .val (.long (v1 - (v4 * f_perPeriodDenominator))), .second]) rfl ?_
    exact k
  obtain ⟨v5, hv5, go15⟩ : ∃ v5 : Int64, v5 = (v1 - (v4 * f_perPeriodDenominator)) ∧ Go p e below A0 (T7.setTop (mkF m 69 #[.val (.ref a0), .val (.long q1), .second, .val (.long q1), .second, .unset, .unset, .val (.long v1), .second, .val (.long v4), .second, .val (.long v5), .second] [])) := ⟨_, rfl, go14⟩
  obtain ⟨T8, X8, e8, st8⟩ := getF X7 hx hZ hown (host := "") (Or.inl (hw _ (List.mem_of_getElem? (i := 77) rfl))) Via.refl e7 r2 (g := (mkF m 72 #[.val (.ref a0), .val (.long q1), .second, .val (.long q1), .second, .unset, .unset, .val (.long v1), .second, .val (.long v4), .second, .val (.long v5), .second] [(.ref a0), (.long v5)])) rfl rfl (hb hby d14_72)
  have go16 : Go p e below A0 (T8.setTop (mkF m 76 #[.val (.ref a0), .val (.long q1), .second, .val (.long q1), .second, .unset, .unset, .val (.long v1), .second, .val (.long v4), .second, .val (.long v5), .second] [(.int (lcmpW v5 f_perPeriodDenominator))])) := by
    intro t k
    refine go15 t ?_
    refine o_lload X7 hx hby d14_69 71 rfl rfl ?_
    refine o_aloadN X7 hx hby d14_71 72 rfl rfl rfl ?_
    refine st8 _ ?_
    show Steps p.tables e below (T8.setTop (mkF m 75 #[.val (.ref a0), .val (.long q1), .second, .val (.long q1), .second, .unset, .unset, .val (.long v1), .second, .val (.long v4), .second, .val (.long v5), .second] [(.long f_perPeriodDenominator), (.long v5)])) _
    refine o_lcmp X8 hx hby d14_75 76 rfl ?_
    exact k
  obtain ⟨T11, l11, v6, v7, X11, N11, e11, hv6, hv7, go19⟩ : ∃ (T11 : State) (l11 : List Loc) (v6 : Int64) (v7 : Int64), Stand p l e ({ frames := 1, cells := 0, slots := 0, locals := 31 } : Room) s m #[(.ref a0), (.long q1)] below meth c T11 l11 0 0 ∧ Fr n0 l11 ∧ T11.heap = h0 ∧ v6 = (if v5 < f_perPeriodDenominator then v4 else (v4 + (1 : Int64))) ∧ v7 = (if v5 < f_perPeriodDenominator then v5 else (v5 - f_perPeriodDenominator)) ∧ Go p e below A0 (T11.setTop (mkF m 94 #[.val (.ref a0), .val (.long q1), .second, .val (.long q1), .second, .unset, .unset, .val (.long v1), .second, .val (.long v6), .second, .val (.long v7), .second] [])) := by
    by_cases hc76_9 : v5 < f_perPeriodDenominator
    · have go17 : Go p e below A0 (T8.setTop (mkF m 94 #[.val (.ref a0), .val (.long q1), .second, .val (.long q1), .second, .unset, .unset, .val (.long v1), .second, .val (.long v4), .second, .val (.long v5), .second] [])) := by
        intro t k
        refine go16 t ?_
        refine o_ifY X8 hx hby d14_76 94 rfl (tlt ((lw_lt v5 f_perPeriodDenominator).mpr hc76_9)).1 ?_
        exact k
      exact ⟨T8, _, v4, v5, X8, N4, e8, (if_pos hc76_9).symm, (if_pos hc76_9).symm, go17⟩
    · obtain ⟨T10, X10, e10, st10⟩ := getF X8 hx hZ hown (host := "") (Or.inl (hw _ (List.mem_of_getElem? (i := 77) rfl))) Via.refl e8 r2 (g := (mkF m 88 #[.val (.ref a0), .val (.long q1), .second, .val (.long q1), .second, .unset, .unset, .val (.long v1), .second, .val (.long (v4 + (1 : Int64))), .second, .val (.long v5), .second] [(.ref a0), (.long v5)])) rfl rfl (hb hby d14_88)
      have go18 : Go p e below A0 (T10.setTop (mkF m 94 #[.val (.ref a0), .val (.long q1), .second, .val (.long q1), .second, .unset, .unset, .val (.long v1), .second, .val (.long (v4 + (1 : Int64))), .second, .val (.long (v5 - f_perPeriodDenominator)), .second] [])) := by
        intro t k
        refine go16 t ?_
        refine o_ifN X8 hx hby d14_76 79 rfl (flt (fun q => hc76_9 ((lw_lt v5 f_perPeriodDenominator).mp q))).1 ?_
        refine o_lload X8 hx hby d14_79 81 rfl rfl ?_
        refine o_lconst X8 hx hby d14_81 82 rfl (v := (1 : Int64)) rfl ?_
        refine o_ladd X8 hx hby d14_82 83 rfl ?_
        refine o_lstore X8 hx hby d14_83 85 rfl (l' := #[.val (.ref a0), .val (.long q1), .second, .val (.long q1), .second, .unset, .unset, .val (.long v1), .second, .val (.long (v4 + (1 : Int64))), .second, .val (.long v5), .second]) rfl ?_
        refine o_lload X8 hx hby d14_85 87 rfl rfl ?_
        refine o_aloadN X8 hx hby d14_87 88 rfl rfl rfl ?_
        refine st10 _ ?_
        show Steps p.tables e below (T10.setTop (mkF m 91 #[.val (.ref a0), .val (.long q1), .second, .val (.long q1), .second, .unset, .unset, .val (.long v1), .second, .val (.long (v4 + (1 : Int64))), .second, .val (.long v5), .second] [(.long f_perPeriodDenominator), (.long v5)])) _
        refine o_lsub X10 hx hby d14_91 92 rfl ?_
        refine o_lstore X10 hx hby d14_92 94 rfl (l' := #[.val (.ref a0), .val (.long q1), .second, .val (.long q1), .second, .unset, .unset, .val (.long v1), .second, .val (.long (v4 + (1 : Int64))), .second, .val (.long (v5 - f_perPeriodDenominator)), .second]) rfl ?_
        exact k
      exact ⟨T10, _, (v4 + (1 : Int64)), (v5 - f_perPeriodDenominator), X10, N4, e10, (if_neg hc76_9).symm, (if_neg hc76_9).symm, go18⟩
  obtain ⟨T12, X12, e12, st12⟩ := getF X11 hx hZ hown (host := "") (Or.inl (hw _ (List.mem_of_getElem? (i := 77) rfl))) Via.refl e11 r2 (g := (mkF m 97 #[.val (.ref a0), .val (.long q1), .second, .val (.long q1), .second, .unset, .unset, .val (.long v1), .second, .val (.long v6), .second, .val (.long v7), .second] [(.ref a0), (.long v6)])) rfl rfl (hb hby d14_97)
  have go20 : Go p e below A0 (T12.setTop (mkF m 114 #[.val (.ref a0), .val (.long q1), .second, .val (.long q1), .second, .unset, .unset, .val (.long v1), .second, .val (.long (v6 - ((((f_perPeriodDenominator - v7) - v7) - (1 : Int64)) >>> ((63 : Int32) &&& 0x3f).toInt64))), .second, .val (.long v7), .second] [])) := by
    intro t k
    refine go19 t ?_
    refine o_lload X11 hx hby d14_94 96 rfl rfl ?_
    refine o_aloadN X11 hx hby d14_96 97 rfl rfl rfl ?_
    refine st12 _ ?_
    show Steps p.tables e below (T12.setTop (mkF m 100 #[.val (.ref a0), .val (.long q1), .second, .val (.long q1), .second, .unset, .unset, .val (.long v1), .second, .val (.long v6), .second, .val (.long v7), .second] [(.long f_perPeriodDenominator), (.long v6)])) _
    refine o_lload X12 hx hby d14_100 102 rfl rfl ?_
    refine o_lsub X12 hx hby d14_102 103 rfl ?_
    refine o_lload X12 hx hby d14_103 105 rfl rfl ?_
    refine o_lsub X12 hx hby d14_105 106 rfl ?_
    refine o_lconst X12 hx hby d14_106 107 rfl (v := (1 : Int64)) rfl ?_
    refine o_lsub X12 hx hby d14_107 108 rfl ?_
    refine o_bipush X12 hx hby d14_108 110 rfl (v := (63 : Int32)) rfl ?_
    refine o_lshr X12 hx hby d14_110 111 rfl ?_
    refine o_lsub X12 hx hby d14_111 112 rfl ?_
    refine o_lstore X12 hx hby d14_112 114 rfl (l' := #[.val (.ref a0), .val (.long q1), .second, .val (.long q1), .second, .unset, .unset, .val (.long v1), .second, .val (.long (v6 - ((((f_perPeriodDenominator - v7) - v7) - (1 : Int64)) >>> ((63 : Int32) &&& 0x3f).toInt64))), .second, .val (.long v7), .second]) rfl ?_
    exact k
  obtain ⟨v8, hv8, go21⟩ : ∃ v8 : Int64, v8 = (v6 - ((((f_perPeriodDenominator - v7) - v7) - (1 : Int64)) >>> ((63 : Int32) &&& 0x3f).toInt64)) ∧ Go p e below A0 (T12.setTop (mkF m 114 #[.val (.ref a0), .val (.long q1), .second, .val (.long q1), .second, .unset, .unset, .val (.long v1), .second, .val (.long v8), .second, .val (.long v7), .second] [])) := ⟨_, rfl, go20⟩
  have go22 : Go p e below A0 (T12.setTop (mkF m 130 #[.val (.ref a0), .val (.long q1), .second, .val (.long q1), .second, .val (.long v8), .second, .val (.long v1), .second, .val (.long v8), .second, .val (.long v7), .second] [])) := by
    intro t k
    refine go21 t ?_
    refine o_lloadN X12 hx hby d14_114 115 rfl rfl ?_
    refine o_lconst X12 hx hby d14_115 116 rfl (v := (0 : Int64)) rfl ?_
    refine o_lcmp X12 hx hby d14_116 117 rfl ?_
    refine o_ifY X12 hx hby d14_117 126 rfl (flt (fun q => (own_nn2 hA) ((lw_lt q1 (0 : Int64)).mp q))).2.1 ?_
    refine o_lload X12 hx hby d14_126 128 rfl rfl ?_
    refine o_lstore X12 hx hby d14_128 130 rfl (l' := #[.val (.ref a0), .val (.long q1), .second, .val (.long q1), .second, .val (.long v8), .second, .val (.long v1), .second, .val (.long v8), .second, .val (.long v7), .second]) rfl ?_
    exact k
  have go23 : Go p e below A0 (T12.setTop (mkF m 169 #[.val (.ref a0), .val (.long q1), .second, .val (.long q1), .second, .val (.long v8), .second, .val (.long v1), .second, .val (.long v8), .second, .val (.long v7), .second] [(.long v8)])) := by
    intro t k
    refine go22 t ?_
    refine o_goto X12 hx hby d14_130 167 rfl ?_
    refine o_lload X12 hx hby d14_167 169 rfl rfl ?_
    exact k
  rw [hA0] at go23
  obtain ⟨fs, hr, hrun, hended, hW, hsame⟩ := X12.leave (v := some (.long v8)) (fun h => by rw [Bd.returns] at h; cases h)
  refine ⟨_, _, go23 _ (o_retJ X12 hx Bd.returns (hb hby d14_169) hr), hrun, hended, _, _, rfl, ?_, ⟨_, rfl⟩, hW, hsame.mono (by decide) (by decide)⟩
  show Q14 Z a0 q1 f_perPeriodNumerator f_perPeriodDenominator f_reciprocal f_exactUpTo h0 n0 _ T12.heap _
  rw [e12]
  exact ⟨v8, rfl, N11, rfl, pl_due a0 q1 f_perPeriodNumerator f_perPeriodDenominator f_reciprocal f_exactUpTo hA hrt hre hex v1 v2 v3 v4 v5 v6 v7 v8 hv1 hv2 hv3 hv4 hv5 hv6 hv7 hv8, trivial⟩
theorem d12_0 : decode prog_12_method_12_code 0 = .ok (.aload_n 0, 1) := by decide +kernel
theorem d12_1 : decode prog_12_method_12_code 1 = .ok (.getfield 57, 3) := by decide +kernel
theorem d12_4 : decode prog_12_method_12_code 4 = .ok (.lstore 6, 2) := by decide +kernel
theorem d12_6 : decode prog_12_method_12_code 6 = .ok (.aload_n 0, 1) := by decide +kernel
theorem d12_7 : decode prog_12_method_12_code 7 = .ok (.getfield 95, 3) := by decide +kernel
theorem d12_10 : decode prog_12_method_12_code 10 = .ok (.lstore 8, 2) := by decide +kernel
theorem d12_12 : decode prog_12_method_12_code 12 = .ok (.aload_n 0, 1) := by decide +kernel
theorem d12_13 : decode prog_12_method_12_code 13 = .ok (.getfield 101, 3) := by decide +kernel
theorem d12_16 : decode prog_12_method_12_code 16 = .ok (.lstore 10, 2) := by decide +kernel
theorem d12_18 : decode prog_12_method_12_code 18 = .ok (.aload_n 0, 1) := by decide +kernel
theorem d12_19 : decode prog_12_method_12_code 19 = .ok (.getfield 104, 3) := by decide +kernel
theorem d12_22 : decode prog_12_method_12_code 22 = .ok (.lstore 12, 2) := by decide +kernel
theorem d12_24 : decode prog_12_method_12_code 24 = .ok (.iconst 0, 1) := by decide +kernel
theorem d12_25 : decode prog_12_method_12_code 25 = .ok (.istore 14, 2) := by decide +kernel
theorem d12_27 : decode prog_12_method_12_code 27 = .ok (.iconst 0, 1) := by decide +kernel
theorem d12_28 : decode prog_12_method_12_code 28 = .ok (.istore 15, 2) := by decide +kernel
theorem d12_30 : decode prog_12_method_12_code 30 = .ok (.lload 6, 2) := by decide +kernel
theorem d12_32 : decode prog_12_method_12_code 32 = .ok (.aload_n 0, 1) := by decide +kernel
theorem d12_33 : decode prog_12_method_12_code 33 = .ok (.getfield 51, 3) := by decide +kernel
theorem d12_36 : decode prog_12_method_12_code 36 = .ok (.lsub, 1) := by decide +kernel
theorem d12_37 : decode prog_12_method_12_code 37 = .ok (.invokestatic 177, 3) := by decide +kernel
theorem d12_40 : decode prog_12_method_12_code 40 = .ok (.istore 16, 2) := by decide +kernel
theorem d12_42 : decode prog_12_method_12_code 42 = .ok (.iload 14, 2) := by decide +kernel
theorem d12_44 : decode prog_12_method_12_code 44 = .ok (.iload 4, 2) := by decide +kernel
theorem d12_46 : decode prog_12_method_12_code 46 = .ok (.if_icmp .ge 110, 3) := by decide +kernel
theorem d12_49 : decode prog_12_method_12_code 49 = .ok (.iload 15, 2) := by decide +kernel
theorem d12_51 : decode prog_12_method_12_code 51 = .ok (.ifCond .ne 105, 3) := by decide +kernel
theorem d12_54 : decode prog_12_method_12_code 54 = .ok (.aload_n 0, 1) := by decide +kernel
theorem d12_55 : decode prog_12_method_12_code 55 = .ok (.lload 6, 2) := by decide +kernel
theorem d12_57 : decode prog_12_method_12_code 57 = .ok (.invokevirtual 107, 3) := by decide +kernel
theorem d12_60 : decode prog_12_method_12_code 60 = .ok (.lstore 17, 2) := by decide +kernel
theorem d12_62 : decode prog_12_method_12_code 62 = .ok (.lload 6, 2) := by decide +kernel
theorem d12_64 : decode prog_12_method_12_code 64 = .ok (.lload_n 1, 1) := by decide +kernel
theorem d12_65 : decode prog_12_method_12_code 65 = .ok (.lload 17, 2) := by decide +kernel
theorem d12_67 : decode prog_12_method_12_code 67 = .ok (.lsub, 1) := by decide +kernel
theorem d12_68 : decode prog_12_method_12_code 68 = .ok (.lsub, 1) := by decide +kernel
theorem d12_69 : decode prog_12_method_12_code 69 = .ok (.lstore 19, 2) := by decide +kernel
theorem d12_71 : decode prog_12_method_12_code 71 = .ok (.lload 19, 2) := by decide +kernel
theorem d12_73 : decode prog_12_method_12_code 73 = .ok (.aload_n 0, 1) := by decide +kernel
theorem d12_74 : decode prog_12_method_12_code 74 = .ok (.getfield 51, 3) := by decide +kernel
theorem d12_77 : decode prog_12_method_12_code 77 = .ok (.lsub, 1) := by decide +kernel
theorem d12_78 : decode prog_12_method_12_code 78 = .ok (.invokestatic 177, 3) := by decide +kernel
theorem d12_81 : decode prog_12_method_12_code 81 = .ok (.istore 21, 2) := by decide +kernel
theorem d12_83 : decode prog_12_method_12_code 83 = .ok (.iload 16, 2) := by decide +kernel
theorem d12_85 : decode prog_12_method_12_code 85 = .ok (.iload 21, 2) := by decide +kernel
theorem d12_87 : decode prog_12_method_12_code 87 = .ok (.invokestatic 181, 3) := by decide +kernel
theorem d12_90 : decode prog_12_method_12_code 90 = .ok (.ifCond .ne 17, 3) := by decide +kernel
theorem d12_93 : decode prog_12_method_12_code 93 = .ok (.iload 5, 2) := by decide +kernel
theorem d12_95 : decode prog_12_method_12_code 95 = .ok (.ifCond .eq 16, 3) := by decide +kernel
theorem d12_98 : decode prog_12_method_12_code 98 = .ok (.iload 14, 2) := by decide +kernel
theorem d12_100 : decode prog_12_method_12_code 100 = .ok (.iload 4, 2) := by decide +kernel
theorem d12_102 : decode prog_12_method_12_code 102 = .ok (.iconst 1, 1) := by decide +kernel
theorem d12_103 : decode prog_12_method_12_code 103 = .ok (.isub, 1) := by decide +kernel
theorem d12_104 : decode prog_12_method_12_code 104 = .ok (.if_icmp .ne 7, 3) := by decide +kernel
theorem d12_107 : decode prog_12_method_12_code 107 = .ok (.iconst 1, 1) := by decide +kernel
theorem d12_108 : decode prog_12_method_12_code 108 = .ok (.goto 4, 3) := by decide +kernel
theorem d12_111 : decode prog_12_method_12_code 111 = .ok (.iconst 0, 1) := by decide +kernel
theorem d12_112 : decode prog_12_method_12_code 112 = .ok (.istore 15, 2) := by decide +kernel
theorem d12_114 : decode prog_12_method_12_code 114 = .ok (.lload 17, 2) := by decide +kernel
theorem d12_116 : decode prog_12_method_12_code 116 = .ok (.lload 10, 2) := by decide +kernel
theorem d12_118 : decode prog_12_method_12_code 118 = .ok (.lcmp, 1) := by decide +kernel
theorem d12_119 : decode prog_12_method_12_code 119 = .ok (.ifCond .ne 11, 3) := by decide +kernel
theorem d12_122 : decode prog_12_method_12_code 122 = .ok (.iload 15, 2) := by decide +kernel
theorem d12_124 : decode prog_12_method_12_code 124 = .ok (.ifCond .ne 6, 3) := by decide +kernel
theorem d12_127 : decode prog_12_method_12_code 127 = .ok (.goto 29, 3) := by decide +kernel
theorem d12_130 : decode prog_12_method_12_code 130 = .ok (.iinc 14 1, 3) := by decide +kernel
theorem d12_133 : decode prog_12_method_12_code 133 = .ok (.lload 6, 2) := by decide +kernel
theorem d12_135 : decode prog_12_method_12_code 135 = .ok (.lstore 8, 2) := by decide +kernel
theorem d12_137 : decode prog_12_method_12_code 137 = .ok (.lload 10, 2) := by decide +kernel
theorem d12_139 : decode prog_12_method_12_code 139 = .ok (.lstore 12, 2) := by decide +kernel
theorem d12_141 : decode prog_12_method_12_code 141 = .ok (.lload 17, 2) := by decide +kernel
theorem d12_143 : decode prog_12_method_12_code 143 = .ok (.lstore 10, 2) := by decide +kernel
theorem d12_145 : decode prog_12_method_12_code 145 = .ok (.lload 19, 2) := by decide +kernel
theorem d12_147 : decode prog_12_method_12_code 147 = .ok (.lstore 6, 2) := by decide +kernel
theorem d12_149 : decode prog_12_method_12_code 149 = .ok (.iload 21, 2) := by decide +kernel
theorem d12_151 : decode prog_12_method_12_code 151 = .ok (.istore 16, 2) := by decide +kernel
theorem d12_153 : decode prog_12_method_12_code 153 = .ok (.goto (-111), 3) := by decide +kernel
theorem d12_156 : decode prog_12_method_12_code 156 = .ok (.iload 14, 2) := by decide +kernel
theorem d12_158 : decode prog_12_method_12_code 158 = .ok (.ifCond .le 172, 3) := by decide +kernel
theorem d12_161 : decode prog_12_method_12_code 161 = .ok (.aload_n 0, 1) := by decide +kernel
theorem d12_162 : decode prog_12_method_12_code 162 = .ok (.getfield 60, 3) := by decide +kernel
theorem d12_165 : decode prog_12_method_12_code 165 = .ok (.iload_n 3, 1) := by decide +kernel
theorem d12_166 : decode prog_12_method_12_code 166 = .ok (.iconst 2, 1) := by decide +kernel
theorem d12_167 : decode prog_12_method_12_code 167 = .ok (.invokestatic 129, 3) := by decide +kernel
theorem d12_170 : decode prog_12_method_12_code 170 = .ok (.invokestatic 129, 3) := by decide +kernel
theorem d12_173 : decode prog_12_method_12_code 173 = .ok (.istore 17, 2) := by decide +kernel
theorem d12_175 : decode prog_12_method_12_code 175 = .ok (.aload_n 0, 1) := by decide +kernel
theorem d12_176 : decode prog_12_method_12_code 176 = .ok (.lload 8, 2) := by decide +kernel
theorem d12_178 : decode prog_12_method_12_code 178 = .ok (.putfield 95, 3) := by decide +kernel
theorem d12_181 : decode prog_12_method_12_code 181 = .ok (.aload_n 0, 1) := by decide +kernel
theorem d12_182 : decode prog_12_method_12_code 182 = .ok (.iload 14, 2) := by decide +kernel
theorem d12_184 : decode prog_12_method_12_code 184 = .ok (.iconst 1, 1) := by decide +kernel
theorem d12_185 : decode prog_12_method_12_code 185 = .ok (.if_icmp .ne 10, 3) := by decide +kernel
theorem d12_188 : decode prog_12_method_12_code 188 = .ok (.aload_n 0, 1) := by decide +kernel
theorem d12_189 : decode prog_12_method_12_code 189 = .ok (.getfield 60, 3) := by decide +kernel
theorem d12_192 : decode prog_12_method_12_code 192 = .ok (.goto 5, 3) := by decide +kernel
theorem d12_195 : decode prog_12_method_12_code 195 = .ok (.iload 17, 2) := by decide +kernel
theorem d12_197 : decode prog_12_method_12_code 197 = .ok (.putfield 98, 3) := by decide +kernel
theorem d12_200 : decode prog_12_method_12_code 200 = .ok (.aload_n 0, 1) := by decide +kernel
theorem d12_201 : decode prog_12_method_12_code 201 = .ok (.lload 12, 2) := by decide +kernel
theorem d12_203 : decode prog_12_method_12_code 203 = .ok (.putfield 104, 3) := by decide +kernel
theorem d12_206 : decode prog_12_method_12_code 206 = .ok (.aload_n 0, 1) := by decide +kernel
theorem d12_207 : decode prog_12_method_12_code 207 = .ok (.lload 10, 2) := by decide +kernel
theorem d12_209 : decode prog_12_method_12_code 209 = .ok (.putfield 101, 3) := by decide +kernel
theorem d12_212 : decode prog_12_method_12_code 212 = .ok (.aload_n 0, 1) := by decide +kernel
theorem d12_213 : decode prog_12_method_12_code 213 = .ok (.lload_n 1, 1) := by decide +kernel
theorem d12_214 : decode prog_12_method_12_code 214 = .ok (.putfield 151, 3) := by decide +kernel
theorem d12_217 : decode prog_12_method_12_code 217 = .ok (.aload_n 0, 1) := by decide +kernel
theorem d12_218 : decode prog_12_method_12_code 218 = .ok (.iload_n 3, 1) := by decide +kernel
theorem d12_219 : decode prog_12_method_12_code 219 = .ok (.putfield 154, 3) := by decide +kernel
theorem d12_222 : decode prog_12_method_12_code 222 = .ok (.aload_n 0, 1) := by decide +kernel
theorem d12_223 : decode prog_12_method_12_code 223 = .ok (.lload_n 1, 1) := by decide +kernel
theorem d12_224 : decode prog_12_method_12_code 224 = .ok (.lload 10, 2) := by decide +kernel
theorem d12_226 : decode prog_12_method_12_code 226 = .ok (.lsub, 1) := by decide +kernel
theorem d12_227 : decode prog_12_method_12_code 227 = .ok (.putfield 157, 3) := by decide +kernel
theorem d12_230 : decode prog_12_method_12_code 230 = .ok (.aload_n 0, 1) := by decide +kernel
theorem d12_231 : decode prog_12_method_12_code 231 = .ok (.iload_n 3, 1) := by decide +kernel
theorem d12_232 : decode prog_12_method_12_code 232 = .ok (.iconst 2, 1) := by decide +kernel
theorem d12_233 : decode prog_12_method_12_code 233 = .ok (.invokestatic 129, 3) := by decide +kernel
theorem d12_236 : decode prog_12_method_12_code 236 = .ok (.putfield 160, 3) := by decide +kernel
theorem d12_239 : decode prog_12_method_12_code 239 = .ok (.aload_n 0, 1) := by decide +kernel
theorem d12_240 : decode prog_12_method_12_code 240 = .ok (.lload 6, 2) := by decide +kernel
theorem d12_242 : decode prog_12_method_12_code 242 = .ok (.putfield 57, 3) := by decide +kernel
theorem d12_245 : decode prog_12_method_12_code 245 = .ok (.aload_n 0, 1) := by decide +kernel
theorem d12_246 : decode prog_12_method_12_code 246 = .ok (.iload 17, 2) := by decide +kernel
theorem d12_248 : decode prog_12_method_12_code 248 = .ok (.putfield 60, 3) := by decide +kernel
theorem d12_251 : decode prog_12_method_12_code 251 = .ok (.aload_n 0, 1) := by decide +kernel
theorem d12_252 : decode prog_12_method_12_code 252 = .ok (.lload_n 1, 1) := by decide +kernel
theorem d12_253 : decode prog_12_method_12_code 253 = .ok (.iload 14, 2) := by decide +kernel
theorem d12_255 : decode prog_12_method_12_code 255 = .ok (.i2l, 1) := by decide +kernel
theorem d12_256 : decode prog_12_method_12_code 256 = .ok (.lmul, 1) := by decide +kernel
theorem d12_257 : decode prog_12_method_12_code 257 = .ok (.putfield 163, 3) := by decide +kernel
theorem d12_260 : decode prog_12_method_12_code 260 = .ok (.aload_n 0, 1) := by decide +kernel
theorem d12_261 : decode prog_12_method_12_code 261 = .ok (.iload_n 3, 1) := by decide +kernel
theorem d12_262 : decode prog_12_method_12_code 262 = .ok (.putfield 166, 3) := by decide +kernel
theorem d12_265 : decode prog_12_method_12_code 265 = .ok (.aload_n 0, 1) := by decide +kernel
theorem d12_266 : decode prog_12_method_12_code 266 = .ok (.lconst 0, 1) := by decide +kernel
theorem d12_267 : decode prog_12_method_12_code 267 = .ok (.putfield 111, 3) := by decide +kernel
theorem d12_270 : decode prog_12_method_12_code 270 = .ok (.aload_n 0, 1) := by decide +kernel
theorem d12_271 : decode prog_12_method_12_code 271 = .ok (.iconst 0, 1) := by decide +kernel
theorem d12_272 : decode prog_12_method_12_code 272 = .ok (.putfield 114, 3) := by decide +kernel
theorem d12_275 : decode prog_12_method_12_code 275 = .ok (.aload_n 0, 1) := by decide +kernel
theorem d12_276 : decode prog_12_method_12_code 276 = .ok (.iconst 0, 1) := by decide +kernel
theorem d12_277 : decode prog_12_method_12_code 277 = .ok (.putfield 169, 3) := by decide +kernel
theorem d12_280 : decode prog_12_method_12_code 280 = .ok (.iload 15, 2) := by decide +kernel
theorem d12_282 : decode prog_12_method_12_code 282 = .ok (.ifCond .eq 48, 3) := by decide +kernel
theorem d12_285 : decode prog_12_method_12_code 285 = .ok (.aload_n 0, 1) := by decide +kernel
theorem d12_286 : decode prog_12_method_12_code 286 = .ok (.invokevirtual 187, 3) := by decide +kernel
theorem d12_289 : decode prog_12_method_12_code 289 = .ok (.aload_n 0, 1) := by decide +kernel
theorem d12_290 : decode prog_12_method_12_code 290 = .ok (.dup, 1) := by decide +kernel
theorem d12_291 : decode prog_12_method_12_code 291 = .ok (.getfield 163, 3) := by decide +kernel
theorem d12_294 : decode prog_12_method_12_code 294 = .ok (.lload_n 1, 1) := by decide +kernel
theorem d12_295 : decode prog_12_method_12_code 295 = .ok (.iload 14, 2) := by decide +kernel
theorem d12_297 : decode prog_12_method_12_code 297 = .ok (.iconst 1, 1) := by decide +kernel
theorem d12_298 : decode prog_12_method_12_code 298 = .ok (.isub, 1) := by decide +kernel
theorem d12_299 : decode prog_12_method_12_code 299 = .ok (.i2l, 1) := by decide +kernel
theorem d12_300 : decode prog_12_method_12_code 300 = .ok (.lmul, 1) := by decide +kernel
theorem d12_301 : decode prog_12_method_12_code 301 = .ok (.ladd, 1) := by decide +kernel
theorem d12_302 : decode prog_12_method_12_code 302 = .ok (.putfield 163, 3) := by decide +kernel
theorem d12_305 : decode prog_12_method_12_code 305 = .ok (.aload_n 0, 1) := by decide +kernel
theorem d12_306 : decode prog_12_method_12_code 306 = .ok (.iload 14, 2) := by decide +kernel
theorem d12_308 : decode prog_12_method_12_code 308 = .ok (.iconst 1, 1) := by decide +kernel
theorem d12_309 : decode prog_12_method_12_code 309 = .ok (.if_icmp .ne 10, 3) := by decide +kernel
theorem d12_312 : decode prog_12_method_12_code 312 = .ok (.aload_n 0, 1) := by decide +kernel
theorem d12_313 : decode prog_12_method_12_code 313 = .ok (.getfield 154, 3) := by decide +kernel
theorem d12_316 : decode prog_12_method_12_code 316 = .ok (.goto 11, 3) := by decide +kernel
theorem d12_319 : decode prog_12_method_12_code 319 = .ok (.iload_n 3, 1) := by decide +kernel
theorem d12_320 : decode prog_12_method_12_code 320 = .ok (.aload_n 0, 1) := by decide +kernel
theorem d12_321 : decode prog_12_method_12_code 321 = .ok (.getfield 154, 3) := by decide +kernel
theorem d12_324 : decode prog_12_method_12_code 324 = .ok (.invokestatic 129, 3) := by decide +kernel
theorem d12_327 : decode prog_12_method_12_code 327 = .ok (.putfield 166, 3) := by decide +kernel
theorem d12_330 : decode prog_12_method_12_code 330 = .ok (.iload 14, 2) := by decide +kernel
theorem d12_332 : decode prog_12_method_12_code 332 = .ok (.ireturn, 1) := by decide +kernel
theorem pd_11 : parseMethodDescriptor "(J)I" = some ⟨[.long], some .int⟩ := by decide +kernel
theorem pd_12 : parseMethodDescriptor "(J)J" = some ⟨[.long], some .long⟩ := by decide +kernel
theorem pd_13 : parseMethodDescriptor "(II)Z" = some ⟨[.int, .int], some .boolean⟩ := by decide +kernel
theorem pd_14 : parseMethodDescriptor "(II)I" = some ⟨[.int, .int], some .int⟩ := by decide +kernel
theorem ef_12 (m : MethodId) (x0 : Addr) (x1 : Int64) : entryFrame m #[(.ref x0), (.long x1), (.int (2 : Int32)), (.int (1 : Int32)), (.int (0 : Int32))] 22 = mkF m 0 #[.val (.ref x0), .val (.long x1), .second, .val (.int (2 : Int32)), .val (.int (1 : Int32)), .val (.int (0 : Int32)), .unset, .unset, .unset, .unset, .unset, .unset, .unset, .unset, .unset, .unset, .unset, .unset, .unset, .unset, .unset, .unset] [] := by first | (simp [entryFrame, mkF, argsToLocals, Value.category]; done) | rfl
set_option maxRecDepth 65536 in
set_option maxHeartbeats 4000000 in
theorem pf12_c90_0 (a0 : Addr) (q1 : Int64) (f_balloon : Int64) (f_balloonScale : Int32) (f_closing : Int64) (f_closingScale : Int32) (f_perPeriodNumerator : Int64) (f_perPeriodDenominator : Int64) (f_reciprocal : Int64) (f_exactUpTo : Int64) (f_opening : Int64) (f_interest : Int64) (f_owedBefore : Int64) (f_openingScale : Int32) (f_payment : Int64) (f_paymentScale : Int32) (f_principal : Int64) (f_principalScale : Int32) (f_madePaid : Int64) (f_madeScale : Int32) (f_raised : Int64) (f_raisedScale : Int32) (f_settled : Int32) (f_tallied : Int64) (f_talliedScale : Int32) (f_indexation : Int64) (f_indexationScale : Int32) (hA : 120000 ≤ f_closing.toInt ∧ f_closing.toInt < 137438953472) (hrt : own_rate f_perPeriodNumerator f_perPeriodDenominator) (hre : f_reciprocal = (Fdu (-1 : Int64) f_perPeriodDenominator)) (hex : f_exactUpTo = ((9223372036854775807 : Int64) / f_perPeriodNumerator)) (hB : 0 ≤ f_balloon.toInt ∧ f_balloon.toInt < f_closing.toInt) (hPa : 1 ≤ f_closing.toInt - q1.toInt - f_balloon.toInt ∧ f_closing.toInt - q1.toInt - f_balloon.toInt ≤ 4294967296) (pa0 : f_interest = 0) (v1 : Int64) (v2 : Int32) (r7_r : Int64) (v3 : Int64) (v4 : Int64) (v5 : Int32) (v6 : Int32) (hv1 : v1 = (f_closing - f_balloon)) (hv2 : v2 = (Fsig v1)) (hv3 : v3 = (f_closing - (q1 - r7_r))) (hv4 : v4 = (v3 - f_balloon)) (hv5 : v5 = (Fsig v4)) (hv6 : v6 = (Fre v2 v5)) (qf7_0 : 1 ≤ r7_r.toInt ∧ r7_r.toInt ≤ 1125899906842624) : v6 = (0 : Int32) := by
  exact own_c90 hA hB hPa qf7_0 hv1 hv2 hv3 hv4 hv5 hv6
set_option maxRecDepth 65536 in
set_option maxHeartbeats 4000000 in
theorem pf12_c119_1 (a0 : Addr) (q1 : Int64) (f_balloon : Int64) (f_balloonScale : Int32) (f_closing : Int64) (f_closingScale : Int32) (f_perPeriodNumerator : Int64) (f_perPeriodDenominator : Int64) (f_reciprocal : Int64) (f_exactUpTo : Int64) (f_opening : Int64) (f_interest : Int64) (f_owedBefore : Int64) (f_openingScale : Int32) (f_payment : Int64) (f_paymentScale : Int32) (f_principal : Int64) (f_principalScale : Int32) (f_madePaid : Int64) (f_madeScale : Int32) (f_raised : Int64) (f_raisedScale : Int32) (f_settled : Int32) (f_tallied : Int64) (f_talliedScale : Int32) (f_indexation : Int64) (f_indexationScale : Int32) (hA : 120000 ≤ f_closing.toInt ∧ f_closing.toInt < 137438953472) (hrt : own_rate f_perPeriodNumerator f_perPeriodDenominator) (hre : f_reciprocal = (Fdu (-1 : Int64) f_perPeriodDenominator)) (hex : f_exactUpTo = ((9223372036854775807 : Int64) / f_perPeriodNumerator)) (hB : 0 ≤ f_balloon.toInt ∧ f_balloon.toInt < f_closing.toInt) (hPa : 1 ≤ f_closing.toInt - q1.toInt - f_balloon.toInt ∧ f_closing.toInt - q1.toInt - f_balloon.toInt ≤ 4294967296) (pa0 : f_interest = 0) (v1 : Int64) (v2 : Int32) (r7_r : Int64) (v3 : Int64) (v4 : Int64) (v5 : Int32) (v6 : Int32) (hv1 : v1 = (f_closing - f_balloon)) (hv2 : v2 = (Fsig v1)) (hv3 : v3 = (f_closing - (q1 - r7_r))) (hv4 : v4 = (v3 - f_balloon)) (hv5 : v5 = (Fsig v4)) (hv6 : v6 = (Fre v2 v5)) (qf7_0 : 1 ≤ r7_r.toInt ∧ r7_r.toInt ≤ 1125899906842624) : ¬ (r7_r = f_interest) := by
  rw [pa0]; exact own_nz1 (Int.lt_of_lt_of_le (by decide) qf7_0.1)
def Q12 (Z : State) (a0 : Addr) (q1 : Int64) (f_balloon : Int64) (f_balloonScale : Int32) (f_closing : Int64) (f_closingScale : Int32) (f_perPeriodNumerator : Int64) (f_perPeriodDenominator : Int64) (f_reciprocal : Int64) (f_exactUpTo : Int64) (f_opening : Int64) (f_interest : Int64) (f_owedBefore : Int64) (f_openingScale : Int32) (f_payment : Int64) (f_paymentScale : Int32) (f_principal : Int64) (f_principalScale : Int32) (f_madePaid : Int64) (f_madeScale : Int32) (f_raised : Int64) (f_raisedScale : Int32) (f_settled : Int32) (f_tallied : Int64) (f_talliedScale : Int32) (f_indexation : Int64) (f_indexationScale : Int32) (h0 : Heap) (n0 : Nat) (v : Option Value) (h : Heap) (L : List Loc) : Prop := ∃ r : Int64, v = some (.int (1 : Int32)) ∧ Fr n0 L ∧ Keep h0 h [a0] ∧ FC Z h a0 "balloon" "J" (.long f_balloon) ∧ FC Z h a0 "balloonScale" "I" (.int f_balloonScale) ∧ FC Z h a0 "closing" "J" (.long (f_closing - (q1 - r))) ∧ FC Z h a0 "closingScale" "I" (.int (Fmax f_closingScale (Fmax (2 : Int32) (2 : Int32)))) ∧ FC Z h a0 "opening" "J" (.long f_closing) ∧ FC Z h a0 "interest" "J" (.long r) ∧ FC Z h a0 "owedBefore" "J" (.long f_interest) ∧ FC Z h a0 "openingScale" "I" (.int f_closingScale) ∧ FC Z h a0 "payment" "J" (.long q1) ∧ FC Z h a0 "paymentScale" "I" (.int (2 : Int32)) ∧ FC Z h a0 "principal" "J" (.long (q1 - r)) ∧ FC Z h a0 "principalScale" "I" (.int (Fmax (2 : Int32) (2 : Int32))) ∧ FC Z h a0 "madePaid" "J" (.long (q1 * ((1 : Int32).toInt64))) ∧ FC Z h a0 "madeScale" "I" (.int (2 : Int32)) ∧ FC Z h a0 "raised" "J" (.long (0 : Int64)) ∧ FC Z h a0 "raisedScale" "I" (.int (0 : Int32)) ∧ FC Z h a0 "settled" "Z" (.int (0 : Int32)) ∧ FC Z h a0 "tallied" "J" (.long f_tallied) ∧ FC Z h a0 "talliedScale" "I" (.int f_talliedScale) ∧ FC Z h a0 "indexation" "J" (.long f_indexation) ∧ FC Z h a0 "indexationScale" "I" (.int f_indexationScale) ∧ (1 ≤ r.toInt ∧ r.toInt ≤ 1125899906842624) ∧ True
set_option maxRecDepth 65536 in
set_option maxHeartbeats 40000000 in
theorem rm12 (l : Launch) (Z : State) (aw : Array Value) (hw : ∀ d ∈ tables_1, d.before aw Z = true) (ws : List Jvm.Cond) (a0 : Addr) (q1 : Int64) (f_balloon : Int64) (f_balloonScale : Int32) (f_closing : Int64) (f_closingScale : Int32) (f_perPeriodNumerator : Int64) (f_perPeriodDenominator : Int64) (f_reciprocal : Int64) (f_exactUpTo : Int64) (f_opening : Int64) (f_interest : Int64) (f_owedBefore : Int64) (f_openingScale : Int32) (f_payment : Int64) (f_paymentScale : Int32) (f_principal : Int64) (f_principalScale : Int32) (f_madePaid : Int64) (f_madeScale : Int32) (f_raised : Int64) (f_raisedScale : Int32) (f_settled : Int32) (f_tallied : Int64) (f_talliedScale : Int32) (f_indexation : Int64) (f_indexationScale : Int32) (h0 : Heap) (n0 : Nat) (Z0 : n0 ≤ h0.size) (r0 : Exa Z h0 a0 "com/example/amortine/amortine/CentAmounts") (r1 : n0 ≤ a0) (r2 : FC Z h0 a0 "balloon" "J" (.long f_balloon)) (r3 : FC Z h0 a0 "balloonScale" "I" (.int f_balloonScale)) (r4 : FC Z h0 a0 "closing" "J" (.long f_closing)) (r5 : FC Z h0 a0 "closingScale" "I" (.int f_closingScale)) (r6 : FC Z h0 a0 "perPeriodNumerator" "J" (.long f_perPeriodNumerator)) (r7 : FC Z h0 a0 "perPeriodDenominator" "J" (.long f_perPeriodDenominator)) (r8 : FC Z h0 a0 "reciprocal" "J" (.long f_reciprocal)) (r9 : FC Z h0 a0 "exactUpTo" "J" (.long f_exactUpTo)) (r10 : FC Z h0 a0 "opening" "J" (.long f_opening)) (r11 : FC Z h0 a0 "interest" "J" (.long f_interest)) (r12 : FC Z h0 a0 "owedBefore" "J" (.long f_owedBefore)) (r13 : FC Z h0 a0 "openingScale" "I" (.int f_openingScale)) (r14 : FC Z h0 a0 "payment" "J" (.long f_payment)) (r15 : FC Z h0 a0 "paymentScale" "I" (.int f_paymentScale)) (r16 : FC Z h0 a0 "principal" "J" (.long f_principal)) (r17 : FC Z h0 a0 "principalScale" "I" (.int f_principalScale)) (r18 : FC Z h0 a0 "madePaid" "J" (.long f_madePaid)) (r19 : FC Z h0 a0 "madeScale" "I" (.int f_madeScale)) (r20 : FC Z h0 a0 "raised" "J" (.long f_raised)) (r21 : FC Z h0 a0 "raisedScale" "I" (.int f_raisedScale)) (r22 : FC Z h0 a0 "settled" "Z" (.int f_settled)) (r23 : FC Z h0 a0 "tallied" "J" (.long f_tallied)) (r24 : FC Z h0 a0 "talliedScale" "I" (.int f_talliedScale)) (r25 : FC Z h0 a0 "indexation" "J" (.long f_indexation)) (r26 : FC Z h0 a0 "indexationScale" "I" (.int f_indexationScale)) (hA : (120000 ≤ f_closing.toInt ∧ f_closing.toInt < 137438953472)) (hrt : (own_rate f_perPeriodNumerator f_perPeriodDenominator)) (hre : (f_reciprocal = (Fdu (-1 : Int64) f_perPeriodDenominator))) (hex : (f_exactUpTo = ((9223372036854775807 : Int64) / f_perPeriodNumerator))) (hB : (0 ≤ f_balloon.toInt ∧ f_balloon.toInt < f_closing.toInt)) (hPa : (1 ≤ f_closing.toInt - q1.toInt - f_balloon.toInt ∧ f_closing.toInt - q1.toInt - f_balloon.toInt ≤ 4294967296)) (pa0 : (f_interest = 0)) :
    MetFree l (⟨"com/example/amortine/amortine/CentAmounts", "payInTurn", "(JIIZ)I"⟩ : MethodName) (head1 (Jvm.Cond.code (⟨"com/example/amortine/amortine/CentAmounts", "payInTurn", "(JIIZ)I"⟩ : MethodName) prog_12_method_12_code 22 (some .int) :: ws) ({ frames := 2, cells := 0, slots := 0, locals := 55 } : Room)) (fun a U => a = #[(.ref a0), (.long q1), (.int (2 : Int32)), (.int (1 : Int32)), (.int (0 : Int32))] ∧ Z.Warmed39 U.vm ∧ U.heap = h0) (fun _ _ _ _ _ => True) (fun _ U o U' => ∃ v L, o = .returned v ∧ Q12 Z a0 q1 f_balloon f_balloonScale f_closing f_closingScale f_perPeriodNumerator f_perPeriodDenominator f_reciprocal f_exactUpTo f_opening f_interest f_owedBefore f_openingScale f_payment f_paymentScale f_principal f_principalScale f_madePaid f_madeScale f_raised f_raisedScale f_settled f_tallied f_talliedScale f_indexation f_indexationScale h0 n0 v U'.heap L ∧ FrameEnd U o U' L ({ frames := 2, cells := 0, slots := 0, locals := 55 } : Room).cells ({ frames := 2, cells := 0, slots := 0, locals := 55 } : Room).slots) := by
  refine MetFree.of_bodySF (plainFor_of_name pn_7) hisR ?_
  intro p e s m args below meth c s₁ Bd hml0 hP hK
  obtain ⟨rfl, hZ, hh⟩ := hP
  have hx := Bd.exec
  have hby := Bd.bytes
  have hml : c.maxLocals = 22 := hml0
  have hown : s.vm.findClass "com/example/amortine/amortine/CentAmounts" = some m.cls := findClass_of_methodNamed Bd.named
  have hnm := (name_of_methodNamed Bd.named Bd.method).1
  have X0 : Stand p l e ({ frames := 2, cells := 0, slots := 0, locals := 55 } : Room) s m #[(.ref a0), (.long q1), (.int (2 : Int32)), (.int (1 : Int32)), (.int (0 : Int32))] below meth c s₁ [] 0 0 := Stand.of_body Bd
  have e0 : s₁.heap = h0 := by rw [← hh, Bd.state]; rfl
  have N0 := Fr.nil n0
  obtain ⟨A0, hA0⟩ : ∃ A0, A0 = s₁.setTop (entryFrame m #[(.ref a0), (.long q1), (.int (2 : Int32)), (.int (1 : Int32)), (.int (0 : Int32))] 22) := ⟨_, rfl⟩
  have go0 : Go p e below A0 (s₁.setTop (mkF m 0 #[.val (.ref a0), .val (.long q1), .second, .val (.int (2 : Int32)), .val (.int (1 : Int32)), .val (.int (0 : Int32)), .unset, .unset, .unset, .unset, .unset, .unset, .unset, .unset, .unset, .unset, .unset, .unset, .unset, .unset, .unset, .unset] [])) := fun t k => by rw [hA0]; exact castTop (ef_12 m a0 q1) k
  have wl49 : (Jvm.Cond.laysFinal "com/example/amortine/amortine/CentAmounts" "com/example/amortine/amortine/CentAmounts" "balloon" "J").before aw Z = true := (hw _ (List.mem_of_getElem? (i := 49) rfl))
  have wl51 : (Jvm.Cond.laysFinal "com/example/amortine/amortine/CentAmounts" "com/example/amortine/amortine/CentAmounts" "balloonScale" "I").before aw Z = true := (hw _ (List.mem_of_getElem? (i := 51) rfl))
  have wl53 : (Jvm.Cond.lays "com/example/amortine/amortine/CentAmounts" "com/example/amortine/amortine/CentAmounts" "closing" "J").before aw Z = true := (hw _ (List.mem_of_getElem? (i := 53) rfl))
  have wl55 : (Jvm.Cond.lays "com/example/amortine/amortine/CentAmounts" "com/example/amortine/amortine/CentAmounts" "closingScale" "I").before aw Z = true := (hw _ (List.mem_of_getElem? (i := 55) rfl))
  have wl76 : (Jvm.Cond.lays "com/example/amortine/amortine/CentAmounts" "com/example/amortine/amortine/CentAmounts" "perPeriodNumerator" "J").before aw Z = true := (hw _ (List.mem_of_getElem? (i := 76) rfl))
  have wl78 : (Jvm.Cond.lays "com/example/amortine/amortine/CentAmounts" "com/example/amortine/amortine/CentAmounts" "perPeriodDenominator" "J").before aw Z = true := (hw _ (List.mem_of_getElem? (i := 78) rfl))
  have wl86 : (Jvm.Cond.lays "com/example/amortine/amortine/CentAmounts" "com/example/amortine/amortine/CentAmounts" "reciprocal" "J").before aw Z = true := (hw _ (List.mem_of_getElem? (i := 86) rfl))
  have wl89 : (Jvm.Cond.lays "com/example/amortine/amortine/CentAmounts" "com/example/amortine/amortine/CentAmounts" "exactUpTo" "J").before aw Z = true := (hw _ (List.mem_of_getElem? (i := 89) rfl))
  have wl96 : (Jvm.Cond.lays "com/example/amortine/amortine/CentAmounts" "com/example/amortine/amortine/CentAmounts" "opening" "J").before aw Z = true := (hw _ (List.mem_of_getElem? (i := 96) rfl))
  have wl98 : (Jvm.Cond.lays "com/example/amortine/amortine/CentAmounts" "com/example/amortine/amortine/CentAmounts" "interest" "J").before aw Z = true := (hw _ (List.mem_of_getElem? (i := 98) rfl))
  have wl100 : (Jvm.Cond.lays "com/example/amortine/amortine/CentAmounts" "com/example/amortine/amortine/CentAmounts" "owedBefore" "J").before aw Z = true := (hw _ (List.mem_of_getElem? (i := 100) rfl))
  have wl121 : (Jvm.Cond.lays "com/example/amortine/amortine/CentAmounts" "com/example/amortine/amortine/CentAmounts" "openingScale" "I").before aw Z = true := (hw _ (List.mem_of_getElem? (i := 121) rfl))
  have wl123 : (Jvm.Cond.lays "com/example/amortine/amortine/CentAmounts" "com/example/amortine/amortine/CentAmounts" "payment" "J").before aw Z = true := (hw _ (List.mem_of_getElem? (i := 123) rfl))
  have wl125 : (Jvm.Cond.lays "com/example/amortine/amortine/CentAmounts" "com/example/amortine/amortine/CentAmounts" "paymentScale" "I").before aw Z = true := (hw _ (List.mem_of_getElem? (i := 125) rfl))
  have wl127 : (Jvm.Cond.lays "com/example/amortine/amortine/CentAmounts" "com/example/amortine/amortine/CentAmounts" "principal" "J").before aw Z = true := (hw _ (List.mem_of_getElem? (i := 127) rfl))
  have wl129 : (Jvm.Cond.lays "com/example/amortine/amortine/CentAmounts" "com/example/amortine/amortine/CentAmounts" "principalScale" "I").before aw Z = true := (hw _ (List.mem_of_getElem? (i := 129) rfl))
  have wl131 : (Jvm.Cond.lays "com/example/amortine/amortine/CentAmounts" "com/example/amortine/amortine/CentAmounts" "madePaid" "J").before aw Z = true := (hw _ (List.mem_of_getElem? (i := 131) rfl))
  have wl133 : (Jvm.Cond.lays "com/example/amortine/amortine/CentAmounts" "com/example/amortine/amortine/CentAmounts" "madeScale" "I").before aw Z = true := (hw _ (List.mem_of_getElem? (i := 133) rfl))
  have wl135 : (Jvm.Cond.lays "com/example/amortine/amortine/CentAmounts" "com/example/amortine/amortine/CentAmounts" "raised" "J").before aw Z = true := (hw _ (List.mem_of_getElem? (i := 135) rfl))
  have wl137 : (Jvm.Cond.lays "com/example/amortine/amortine/CentAmounts" "com/example/amortine/amortine/CentAmounts" "raisedScale" "I").before aw Z = true := (hw _ (List.mem_of_getElem? (i := 137) rfl))
  have wl139 : (Jvm.Cond.lays "com/example/amortine/amortine/CentAmounts" "com/example/amortine/amortine/CentAmounts" "settled" "Z").before aw Z = true := (hw _ (List.mem_of_getElem? (i := 139) rfl))
  have wl161 : (Jvm.Cond.lays "com/example/amortine/amortine/CentAmounts" "com/example/amortine/amortine/CentAmounts" "tallied" "J").before aw Z = true := (hw _ (List.mem_of_getElem? (i := 161) rfl))
  have wl163 : (Jvm.Cond.lays "com/example/amortine/amortine/CentAmounts" "com/example/amortine/amortine/CentAmounts" "talliedScale" "I").before aw Z = true := (hw _ (List.mem_of_getElem? (i := 163) rfl))
  have wl165 : (Jvm.Cond.lays "com/example/amortine/amortine/CentAmounts" "com/example/amortine/amortine/CentAmounts" "indexation" "J").before aw Z = true := (hw _ (List.mem_of_getElem? (i := 165) rfl))
  have wl167 : (Jvm.Cond.lays "com/example/amortine/amortine/CentAmounts" "com/example/amortine/amortine/CentAmounts" "indexationScale" "I").before aw Z = true := (hw _ (List.mem_of_getElem? (i := 167) rfl))
  obtain ⟨T1, X1, e1, st1⟩ := getF X0 hx hZ hown (host := "") (Or.inl (hw _ (List.mem_of_getElem? (i := 52) rfl))) Via.refl e0 r4 (g := (mkF m 1 #[.val (.ref a0), .val (.long q1), .second, .val (.int (2 : Int32)), .val (.int (1 : Int32)), .val (.int (0 : Int32)), .unset, .unset, .unset, .unset, .unset, .unset, .unset, .unset, .unset, .unset, .unset, .unset, .unset, .unset, .unset, .unset] [(.ref a0)])) rfl rfl (hb hby d12_1)
  have go1 : Go p e below A0 (T1.setTop (mkF m 6 #[.val (.ref a0), .val (.long q1), .second, .val (.int (2 : Int32)), .val (.int (1 : Int32)), .val (.int (0 : Int32)), .val (.long f_closing), .second, .unset, .unset, .unset, .unset, .unset, .unset, .unset, .unset, .unset, .unset, .unset, .unset, .unset, .unset] [])) := by
    intro t k
    refine go0 t ?_
    refine o_aloadN X0 hx hby d12_0 1 rfl rfl rfl ?_
    refine st1 _ ?_
    show Steps p.tables e below (T1.setTop (mkF m 4 #[.val (.ref a0), .val (.long q1), .second, .val (.int (2 : Int32)), .val (.int (1 : Int32)), .val (.int (0 : Int32)), .unset, .unset, .unset, .unset, .unset, .unset, .unset, .unset, .unset, .unset, .unset, .unset, .unset, .unset, .unset, .unset] [(.long f_closing)])) _
    refine o_lstore X1 hx hby d12_4 6 rfl (l' := #[.val (.ref a0), .val (.long q1), .second, .val (.int (2 : Int32)), .val (.int (1 : Int32)), .val (.int (0 : Int32)), .val (.long f_closing), .second, .unset, .unset, .unset, .unset, .unset, .unset, .unset, .unset, .unset, .unset, .unset, .unset, .unset, .unset]) rfl ?_
    exact k
  obtain ⟨T2, X2, e2, st2⟩ := getF X1 hx hZ hown (host := "") (Or.inl (hw _ (List.mem_of_getElem? (i := 95) rfl))) Via.refl e1 r10 (g := (mkF m 7 #[.val (.ref a0), .val (.long q1), .second, .val (.int (2 : Int32)), .val (.int (1 : Int32)), .val (.int (0 : Int32)), .val (.long f_closing), .second, .unset, .unset, .unset, .unset, .unset, .unset, .unset, .unset, .unset, .unset, .unset, .unset, .unset, .unset] [(.ref a0)])) rfl rfl (hb hby d12_7)
  have go2 : Go p e below A0 (T2.setTop (mkF m 12 #[.val (.ref a0), .val (.long q1), .second, .val (.int (2 : Int32)), .val (.int (1 : Int32)), .val (.int (0 : Int32)), .val (.long f_closing), .second, .val (.long f_opening), .second, .unset, .unset, .unset, .unset, .unset, .unset, .unset, .unset, .unset, .unset, .unset, .unset] [])) := by
    intro t k
    refine go1 t ?_
    refine o_aloadN X1 hx hby d12_6 7 rfl rfl rfl ?_
    refine st2 _ ?_
    show Steps p.tables e below (T2.setTop (mkF m 10 #[.val (.ref a0), .val (.long q1), .second, .val (.int (2 : Int32)), .val (.int (1 : Int32)), .val (.int (0 : Int32)), .val (.long f_closing), .second, .unset, .unset, .unset, .unset, .unset, .unset, .unset, .unset, .unset, .unset, .unset, .unset, .unset, .unset] [(.long f_opening)])) _
    refine o_lstore X2 hx hby d12_10 12 rfl (l' := #[.val (.ref a0), .val (.long q1), .second, .val (.int (2 : Int32)), .val (.int (1 : Int32)), .val (.int (0 : Int32)), .val (.long f_closing), .second, .val (.long f_opening), .second, .unset, .unset, .unset, .unset, .unset, .unset, .unset, .unset, .unset, .unset, .unset, .unset]) rfl ?_
    exact k
  obtain ⟨T3, X3, e3, st3⟩ := getF X2 hx hZ hown (host := "") (Or.inl (hw _ (List.mem_of_getElem? (i := 97) rfl))) Via.refl e2 r11 (g := (mkF m 13 #[.val (.ref a0), .val (.long q1), .second, .val (.int (2 : Int32)), .val (.int (1 : Int32)), .val (.int (0 : Int32)), .val (.long f_closing), .second, .val (.long f_opening), .second, .unset, .unset, .unset, .unset, .unset, .unset, .unset, .unset, .unset, .unset, .unset, .unset] [(.ref a0)])) rfl rfl (hb hby d12_13)
  have go3 : Go p e below A0 (T3.setTop (mkF m 18 #[.val (.ref a0), .val (.long q1), .second, .val (.int (2 : Int32)), .val (.int (1 : Int32)), .val (.int (0 : Int32)), .val (.long f_closing), .second, .val (.long f_opening), .second, .val (.long f_interest), .second, .unset, .unset, .unset, .unset, .unset, .unset, .unset, .unset, .unset, .unset] [])) := by
    intro t k
    refine go2 t ?_
    refine o_aloadN X2 hx hby d12_12 13 rfl rfl rfl ?_
    refine st3 _ ?_
    show Steps p.tables e below (T3.setTop (mkF m 16 #[.val (.ref a0), .val (.long q1), .second, .val (.int (2 : Int32)), .val (.int (1 : Int32)), .val (.int (0 : Int32)), .val (.long f_closing), .second, .val (.long f_opening), .second, .unset, .unset, .unset, .unset, .unset, .unset, .unset, .unset, .unset, .unset, .unset, .unset] [(.long f_interest)])) _
    refine o_lstore X3 hx hby d12_16 18 rfl (l' := #[.val (.ref a0), .val (.long q1), .second, .val (.int (2 : Int32)), .val (.int (1 : Int32)), .val (.int (0 : Int32)), .val (.long f_closing), .second, .val (.long f_opening), .second, .val (.long f_interest), .second, .unset, .unset, .unset, .unset, .unset, .unset, .unset, .unset, .unset, .unset]) rfl ?_
    exact k
  obtain ⟨T4, X4, e4, st4⟩ := getF X3 hx hZ hown (host := "") (Or.inl (hw _ (List.mem_of_getElem? (i := 99) rfl))) Via.refl e3 r12 (g := (mkF m 19 #[.val (.ref a0), .val (.long q1), .second, .val (.int (2 : Int32)), .val (.int (1 : Int32)), .val (.int (0 : Int32)), .val (.long f_closing), .second, .val (.long f_opening), .second, .val (.long f_interest), .second, .unset, .unset, .unset, .unset, .unset, .unset, .unset, .unset, .unset, .unset] [(.ref a0)])) rfl rfl (hb hby d12_19)
  have go4 : Go p e below A0 (T4.setTop (mkF m 24 #[.val (.ref a0), .val (.long q1), .second, .val (.int (2 : Int32)), .val (.int (1 : Int32)), .val (.int (0 : Int32)), .val (.long f_closing), .second, .val (.long f_opening), .second, .val (.long f_interest), .second, .val (.long f_owedBefore), .second, .unset, .unset, .unset, .unset, .unset, .unset, .unset, .unset] [])) := by
    intro t k
    refine go3 t ?_
    refine o_aloadN X3 hx hby d12_18 19 rfl rfl rfl ?_
    refine st4 _ ?_
    show Steps p.tables e below (T4.setTop (mkF m 22 #[.val (.ref a0), .val (.long q1), .second, .val (.int (2 : Int32)), .val (.int (1 : Int32)), .val (.int (0 : Int32)), .val (.long f_closing), .second, .val (.long f_opening), .second, .val (.long f_interest), .second, .unset, .unset, .unset, .unset, .unset, .unset, .unset, .unset, .unset, .unset] [(.long f_owedBefore)])) _
    refine o_lstore X4 hx hby d12_22 24 rfl (l' := #[.val (.ref a0), .val (.long q1), .second, .val (.int (2 : Int32)), .val (.int (1 : Int32)), .val (.int (0 : Int32)), .val (.long f_closing), .second, .val (.long f_opening), .second, .val (.long f_interest), .second, .val (.long f_owedBefore), .second, .unset, .unset, .unset, .unset, .unset, .unset, .unset, .unset]) rfl ?_
    exact k
  have go5 : Go p e below A0 (T4.setTop (mkF m 27 #[.val (.ref a0), .val (.long q1), .second, .val (.int (2 : Int32)), .val (.int (1 : Int32)), .val (.int (0 : Int32)), .val (.long f_closing), .second, .val (.long f_opening), .second, .val (.long f_interest), .second, .val (.long f_owedBefore), .second, .val (.int (0 : Int32)), .unset, .unset, .unset, .unset, .unset, .unset, .unset] [])) := by
    intro t k
    refine go4 t ?_
    refine o_iconst X4 hx hby d12_24 25 rfl (v := (0 : Int32)) rfl ?_
    refine o_istore X4 hx hby d12_25 27 rfl (l' := #[.val (.ref a0), .val (.long q1), .second, .val (.int (2 : Int32)), .val (.int (1 : Int32)), .val (.int (0 : Int32)), .val (.long f_closing), .second, .val (.long f_opening), .second, .val (.long f_interest), .second, .val (.long f_owedBefore), .second, .val (.int (0 : Int32)), .unset, .unset, .unset, .unset, .unset, .unset, .unset]) rfl ?_
    exact k
  have go6 : Go p e below A0 (T4.setTop (mkF m 30 #[.val (.ref a0), .val (.long q1), .second, .val (.int (2 : Int32)), .val (.int (1 : Int32)), .val (.int (0 : Int32)), .val (.long f_closing), .second, .val (.long f_opening), .second, .val (.long f_interest), .second, .val (.long f_owedBefore), .second, .val (.int (0 : Int32)), .val (.int (0 : Int32)), .unset, .unset, .unset, .unset, .unset, .unset] [])) := by
    intro t k
    refine go5 t ?_
    refine o_iconst X4 hx hby d12_27 28 rfl (v := (0 : Int32)) rfl ?_
    refine o_istore X4 hx hby d12_28 30 rfl (l' := #[.val (.ref a0), .val (.long q1), .second, .val (.int (2 : Int32)), .val (.int (1 : Int32)), .val (.int (0 : Int32)), .val (.long f_closing), .second, .val (.long f_opening), .second, .val (.long f_interest), .second, .val (.long f_owedBefore), .second, .val (.int (0 : Int32)), .val (.int (0 : Int32)), .unset, .unset, .unset, .unset, .unset, .unset]) rfl ?_
    exact k
  obtain ⟨T5, X5, e5, st5⟩ := getF X4 hx hZ hown (host := "") (Or.inl (hw _ (List.mem_of_getElem? (i := 48) rfl))) Via.refl e4 r2 (g := (mkF m 33 #[.val (.ref a0), .val (.long q1), .second, .val (.int (2 : Int32)), .val (.int (1 : Int32)), .val (.int (0 : Int32)), .val (.long f_closing), .second, .val (.long f_opening), .second, .val (.long f_interest), .second, .val (.long f_owedBefore), .second, .val (.int (0 : Int32)), .val (.int (0 : Int32)), .unset, .unset, .unset, .unset, .unset, .unset] [(.ref a0), (.long f_closing)])) rfl rfl (hb hby d12_33)
  have go7 : Go p e below A0 (T5.setTop (mkF m 37 #[.val (.ref a0), .val (.long q1), .second, .val (.int (2 : Int32)), .val (.int (1 : Int32)), .val (.int (0 : Int32)), .val (.long f_closing), .second, .val (.long f_opening), .second, .val (.long f_interest), .second, .val (.long f_owedBefore), .second, .val (.int (0 : Int32)), .val (.int (0 : Int32)), .unset, .unset, .unset, .unset, .unset, .unset] [(.long (f_closing - f_balloon))])) := by
    intro t k
    refine go6 t ?_
    refine o_lload X4 hx hby d12_30 32 rfl rfl ?_
    refine o_aloadN X4 hx hby d12_32 33 rfl rfl rfl ?_
    refine st5 _ ?_
    show Steps p.tables e below (T5.setTop (mkF m 36 #[.val (.ref a0), .val (.long q1), .second, .val (.int (2 : Int32)), .val (.int (1 : Int32)), .val (.int (0 : Int32)), .val (.long f_closing), .second, .val (.long f_opening), .second, .val (.long f_interest), .second, .val (.long f_owedBefore), .second, .val (.int (0 : Int32)), .val (.int (0 : Int32)), .unset, .unset, .unset, .unset, .unset, .unset] [(.long f_balloon), (.long f_closing)])) _
    refine o_lsub X5 hx hby d12_36 37 rfl ?_
    exact k
  obtain ⟨v1, hv1, go8⟩ : ∃ v1 : Int64, v1 = (f_closing - f_balloon) ∧ Go p e below A0 (T5.setTop (mkF m 37 #[.val (.ref a0), .val (.long q1), .second, .val (.int (2 : Int32)), .val (.int (1 : Int32)), .val (.int (0 : Int32)), .val (.long f_closing), .second, .val (.long f_opening), .second, .val (.long f_interest), .second, .val (.long f_owedBefore), .second, .val (.int (0 : Int32)), .val (.int (0 : Int32)), .unset, .unset, .unset, .unset, .unset, .unset] [(.long v1)])) := ⟨_, rfl, go7⟩
  obtain ⟨_, _, ⟨T6, L6, k6, n6⟩, -, X6, ⟨Lc6, hQ6, l6, y6, z6⟩, st6⟩ := Jvm.LawKit.callS X5 hx (y := (⟨"java/lang/Long", "signum", "(J)I"⟩ : MethodName)) hown (mvT hZ (hw _ (List.mem_of_getElem? (i := 101) rfl))) (mvT hZ (hw _ (List.mem_of_getElem? (i := 102) rfl))) (mvT hZ (hw _ (List.mem_of_getElem? (i := 82) rfl))) (mvT hZ (hw _ (List.mem_of_getElem? (i := 103) rfl))) (by decide) (backOf (W := 0) (rm13 l Z aw hw [] v1 h0 n0 Z0) hZ (hw _ (List.mem_of_getElem? (i := 103) rfl)) (hw _ (List.mem_of_getElem? (i := 82) rfl)) (by decide) (by decide)) (g := (mkF m 37 #[.val (.ref a0), .val (.long q1), .second, .val (.int (2 : Int32)), .val (.int (1 : Int32)), .val (.int (0 : Int32)), .val (.long f_closing), .second, .val (.long f_opening), .second, .val (.long f_interest), .second, .val (.long f_owedBefore), .second, .val (.int (0 : Int32)), .val (.int (0 : Int32)), .unset, .unset, .unset, .unset, .unset, .unset] [(.long v1)])) rfl (by rw [hml]; rfl) (argsL := [(.long v1)]) (rest := []) (lenOf pd_11 rfl) rfl (by show 2 * 0 + _ ≤ _; exact Nat.le_of_eq rfl) (hb hby d12_37) (fun _ _ => ⟨rfl, e5, (by decide : 0 + 0 ≤ _), (by decide : 0 + 0 ≤ _)⟩)
  dsimp only [Pt.U, Pt.locs, Pt.cells, Pt.slots] at X6 l6 y6 z6 st6 hQ6
  obtain rfl : k6 = 0 := y6
  obtain rfl : n6 = 0 := z6
  obtain ⟨rfl, N6q, e6⟩ := hQ6
  have N6 : Fr n0 L6 := by rw [l6]; exact Fr.app N0 N6q
  have go9 : Go p e below A0 (T6.setTop (mkF m 40 #[.val (.ref a0), .val (.long q1), .second, .val (.int (2 : Int32)), .val (.int (1 : Int32)), .val (.int (0 : Int32)), .val (.long f_closing), .second, .val (.long f_opening), .second, .val (.long f_interest), .second, .val (.long f_owedBefore), .second, .val (.int (0 : Int32)), .val (.int (0 : Int32)), .unset, .unset, .unset, .unset, .unset, .unset] [(.int (Fsig v1))])) := by
    intro t k
    refine go8 t ?_
    refine st6 _ ?_
    show Steps p.tables e below (T6.setTop (mkF m 40 #[.val (.ref a0), .val (.long q1), .second, .val (.int (2 : Int32)), .val (.int (1 : Int32)), .val (.int (0 : Int32)), .val (.long f_closing), .second, .val (.long f_opening), .second, .val (.long f_interest), .second, .val (.long f_owedBefore), .second, .val (.int (0 : Int32)), .val (.int (0 : Int32)), .unset, .unset, .unset, .unset, .unset, .unset] [(.int (Fsig v1))])) _
    exact k
  obtain ⟨v2, hv2, go10⟩ : ∃ v2 : Int32, v2 = (Fsig v1) ∧ Go p e below A0 (T6.setTop (mkF m 40 #[.val (.ref a0), .val (.long q1), .second, .val (.int (2 : Int32)), .val (.int (1 : Int32)), .val (.int (0 : Int32)), .val (.long f_closing), .second, .val (.long f_opening), .second, .val (.long f_interest), .second, .val (.long f_owedBefore), .second, .val (.int (0 : Int32)), .val (.int (0 : Int32)), .unset, .unset, .unset, .unset, .unset, .unset] [(.int v2)])) := ⟨_, rfl, go9⟩
  have go11 : Go p e below A0 (T6.setTop (mkF m 42 #[.val (.ref a0), .val (.long q1), .second, .val (.int (2 : Int32)), .val (.int (1 : Int32)), .val (.int (0 : Int32)), .val (.long f_closing), .second, .val (.long f_opening), .second, .val (.long f_interest), .second, .val (.long f_owedBefore), .second, .val (.int (0 : Int32)), .val (.int (0 : Int32)), .val (.int v2), .unset, .unset, .unset, .unset, .unset] [])) := by
    intro t k
    refine go10 t ?_
    refine o_istore X6 hx hby d12_40 42 rfl (l' := #[.val (.ref a0), .val (.long q1), .second, .val (.int (2 : Int32)), .val (.int (1 : Int32)), .val (.int (0 : Int32)), .val (.long f_closing), .second, .val (.long f_opening), .second, .val (.long f_interest), .second, .val (.long f_owedBefore), .second, .val (.int (0 : Int32)), .val (.int (0 : Int32)), .val (.int v2), .unset, .unset, .unset, .unset, .unset]) rfl ?_
    exact k
  have go12 : Go p e below A0 (T6.setTop (mkF m 57 #[.val (.ref a0), .val (.long q1), .second, .val (.int (2 : Int32)), .val (.int (1 : Int32)), .val (.int (0 : Int32)), .val (.long f_closing), .second, .val (.long f_opening), .second, .val (.long f_interest), .second, .val (.long f_owedBefore), .second, .val (.int (0 : Int32)), .val (.int (0 : Int32)), .val (.int v2), .unset, .unset, .unset, .unset, .unset] [(.long f_closing), (.ref a0)])) := by
    intro t k
    refine go11 t ?_
    refine o_iload X6 hx hby d12_42 44 rfl rfl ?_
    refine o_iload X6 hx hby d12_44 46 rfl rfl ?_
    refine o_icmpN X6 hx hby d12_46 49 rfl (tlt (show (0 : Int32) < (1 : Int32) by decide)).2.1 ?_
    refine o_iload X6 hx hby d12_49 51 rfl rfl ?_
    refine o_ifN X6 hx hby d12_51 54 rfl (teq (show (0 : Int32) = (0 : Int32) by decide)).2 ?_
    refine o_aloadN X6 hx hby d12_54 55 rfl rfl rfl ?_
    refine o_lload X6 hx hby d12_55 57 rfl rfl ?_
    exact k
  obtain ⟨cq7, q7, q7'⟩ := r0.cell
  obtain ⟨_, _, ⟨T7, L7, k7, n7⟩, -, X7, ⟨Lc7, hQ7, l7, y7, z7⟩, st7⟩ := X6.privateBack hx (y := (⟨"com/example/amortine/amortine/CentAmounts", "interestOn", "(J)J"⟩ : MethodName)) hown (mvT hZ (hw _ (List.mem_of_getElem? (i := 104) rfl))) (mvT hZ (hw _ (List.mem_of_getElem? (i := 105) rfl))) (own_selp (y := (⟨"com/example/amortine/amortine/CentAmounts", "interestOn", "(J)J"⟩ : MethodName)) (mvT hZ (hw _ (List.mem_of_getElem? (i := 40) rfl))) (Cond.privateMethod_at (mvP hZ (hw _ (List.mem_of_getElem? (i := 106) rfl)) (args := #[]))) (mvT hZ (hw _ (List.mem_of_getElem? (i := 105) rfl))) (by decide)) (Cond.privateMethod_at (mvP hZ (hw _ (List.mem_of_getElem? (i := 106) rfl)) (args := #[]))) (mvT hZ (hw _ (List.mem_of_getElem? (i := 107) rfl))) (by decide) (backOf (W := 0) (rm14 l Z aw hw [] a0 f_closing f_perPeriodNumerator f_perPeriodDenominator f_reciprocal f_exactUpTo h0 n0 Z0 (r0) (r6) (r7) (r8) (r9) (hA) (hrt) (hre) (hex)) hZ (hw _ (List.mem_of_getElem? (i := 107) rfl)) (hw _ (List.mem_of_getElem? (i := 41) rfl)) (by decide) (by decide)) (g := (mkF m 57 #[.val (.ref a0), .val (.long q1), .second, .val (.int (2 : Int32)), .val (.int (1 : Int32)), .val (.int (0 : Int32)), .val (.long f_closing), .second, .val (.long f_opening), .second, .val (.long f_interest), .second, .val (.long f_owedBefore), .second, .val (.int (0 : Int32)), .val (.int (0 : Int32)), .val (.int v2), .unset, .unset, .unset, .unset, .unset] [(.long f_closing), (.ref a0)])) rfl (by rw [hml]; rfl) (Steps.refl _) (a := a0) (by rw [e6]; exact q7) q7' (argsL := [(.long f_closing)]) (rest := []) (lenOf pd_12 rfl) rfl (by show 2 * 0 + _ ≤ _; exact Nat.le_of_eq rfl) (hb hby d12_57) (fun _ _ => ⟨rfl, e6, (by decide : 0 + 0 ≤ _), (by decide : 0 + 0 ≤ _)⟩)
  dsimp only [Pt.U, Pt.locs, Pt.cells, Pt.slots] at X7 l7 y7 z7 st7 hQ7
  obtain rfl : k7 = 0 := y7
  obtain rfl : n7 = 0 := z7
  obtain ⟨r7_r, rfl, N7q, e7, qf7_0, -⟩ := hQ7
  have N7 : Fr n0 L7 := by rw [l7]; exact Fr.app N6 N7q
  have go13 : Go p e below A0 (T7.setTop (mkF m 60 #[.val (.ref a0), .val (.long q1), .second, .val (.int (2 : Int32)), .val (.int (1 : Int32)), .val (.int (0 : Int32)), .val (.long f_closing), .second, .val (.long f_opening), .second, .val (.long f_interest), .second, .val (.long f_owedBefore), .second, .val (.int (0 : Int32)), .val (.int (0 : Int32)), .val (.int v2), .unset, .unset, .unset, .unset, .unset] [(.long r7_r)])) := by
    intro t k
    refine go12 t ?_
    refine st7.trans ?_
    show Steps p.tables e below (T7.setTop (mkF m 60 #[.val (.ref a0), .val (.long q1), .second, .val (.int (2 : Int32)), .val (.int (1 : Int32)), .val (.int (0 : Int32)), .val (.long f_closing), .second, .val (.long f_opening), .second, .val (.long f_interest), .second, .val (.long f_owedBefore), .second, .val (.int (0 : Int32)), .val (.int (0 : Int32)), .val (.int v2), .unset, .unset, .unset, .unset, .unset] [(.long r7_r)])) _
    exact k
  have go14 : Go p e below A0 (T7.setTop (mkF m 62 #[.val (.ref a0), .val (.long q1), .second, .val (.int (2 : Int32)), .val (.int (1 : Int32)), .val (.int (0 : Int32)), .val (.long f_closing), .second, .val (.long f_opening), .second, .val (.long f_interest), .second, .val (.long f_owedBefore), .second, .val (.int (0 : Int32)), .val (.int (0 : Int32)), .val (.int v2), .val (.long r7_r), .second, .unset, .unset, .unset] [])) := by
    intro t k
    refine go13 t ?_
    refine o_lstore X7 hx hby d12_60 62 rfl (l' := #[.val (.ref a0), .val (.long q1), .second, .val (.int (2 : Int32)), .val (.int (1 : Int32)), .val (.int (0 : Int32)), .val (.long f_closing), .second, .val (.long f_opening), .second, .val (.long f_interest), .second, .val (.long f_owedBefore), .second, .val (.int (0 : Int32)), .val (.int (0 : Int32)), .val (.int v2), .val (.long r7_r), .second, .unset, .unset, .unset]) rfl ?_
    exact k
  have go15 : Go p e below A0 (T7.setTop (mkF m 71 #[.val (.ref a0), .val (.long q1), .second, .val (.int (2 : Int32)), .val (.int (1 : Int32)), .val (.int (0 : Int32)), .val (.long f_closing), .second, .val (.long f_opening), .second, .val (.long f_interest), .second, .val (.long f_owedBefore), .second, .val (.int (0 : Int32)), .val (.int (0 : Int32)), .val (.int v2), .val (.long r7_r), .second, .val (.long (f_closing - (q1 - r7_r))), .second, .unset] [])) := by
    intro t k
    refine go14 t ?_
    refine o_lload X7 hx hby d12_62 64 rfl rfl ?_
    refine o_lloadN X7 hx hby d12_64 65 rfl rfl ?_
    refine o_lload X7 hx hby d12_65 67 rfl rfl ?_
    refine o_lsub X7 hx hby d12_67 68 rfl ?_
    refine o_lsub X7 hx hby d12_68 69 rfl ?_
    refine o_lstore X7 hx hby d12_69 71 rfl (l' := #[.val (.ref a0), .val (.long q1), .second, .val (.int (2 : Int32)), .val (.int (1 : Int32)), .val (.int (0 : Int32)), .val (.long f_closing), .second, .val (.long f_opening), .second, .val (.long f_interest), .second, .val (.long f_owedBefore), .second, .val (.int (0 : Int32)), .val (.int (0 : Int32)), .val (.int v2), .val (.long r7_r), .second, .val (.long (f_closing - (q1 - r7_r))), .second, .unset]) rfl ?_
    exact k
  obtain ⟨v3, hv3, go16⟩ : ∃ v3 : Int64, v3 = (f_closing - (q1 - r7_r)) ∧ Go p e below A0 (T7.setTop (mkF m 71 #[.val (.ref a0), .val (.long q1), .second, .val (.int (2 : Int32)), .val (.int (1 : Int32)), .val (.int (0 : Int32)), .val (.long f_closing), .second, .val (.long f_opening), .second, .val (.long f_interest), .second, .val (.long f_owedBefore), .second, .val (.int (0 : Int32)), .val (.int (0 : Int32)), .val (.int v2), .val (.long r7_r), .second, .val (.long v3), .second, .unset] [])) := ⟨_, rfl, go15⟩
  obtain ⟨T8, X8, e8, st8⟩ := getF X7 hx hZ hown (host := "") (Or.inl (hw _ (List.mem_of_getElem? (i := 48) rfl))) Via.refl e7 r2 (g := (mkF m 74 #[.val (.ref a0), .val (.long q1), .second, .val (.int (2 : Int32)), .val (.int (1 : Int32)), .val (.int (0 : Int32)), .val (.long f_closing), .second, .val (.long f_opening), .second, .val (.long f_interest), .second, .val (.long f_owedBefore), .second, .val (.int (0 : Int32)), .val (.int (0 : Int32)), .val (.int v2), .val (.long r7_r), .second, .val (.long v3), .second, .unset] [(.ref a0), (.long v3)])) rfl rfl (hb hby d12_74)
  have go17 : Go p e below A0 (T8.setTop (mkF m 78 #[.val (.ref a0), .val (.long q1), .second, .val (.int (2 : Int32)), .val (.int (1 : Int32)), .val (.int (0 : Int32)), .val (.long f_closing), .second, .val (.long f_opening), .second, .val (.long f_interest), .second, .val (.long f_owedBefore), .second, .val (.int (0 : Int32)), .val (.int (0 : Int32)), .val (.int v2), .val (.long r7_r), .second, .val (.long v3), .second, .unset] [(.long (v3 - f_balloon))])) := by
    intro t k
    refine go16 t ?_
    refine o_lload X7 hx hby d12_71 73 rfl rfl ?_
    refine o_aloadN X7 hx hby d12_73 74 rfl rfl rfl ?_
    refine st8 _ ?_
    show Steps p.tables e below (T8.setTop (mkF m 77 #[.val (.ref a0), .val (.long q1), .second, .val (.int (2 : Int32)), .val (.int (1 : Int32)), .val (.int (0 : Int32)), .val (.long f_closing), .second, .val (.long f_opening), .second, .val (.long f_interest), .second, .val (.long f_owedBefore), .second, .val (.int (0 : Int32)), .val (.int (0 : Int32)), .val (.int v2), .val (.long r7_r), .second, .val (.long v3), .second, .unset] [(.long f_balloon), (.long v3)])) _
    refine o_lsub X8 hx hby d12_77 78 rfl ?_
    exact k
  obtain ⟨v4, hv4, go18⟩ : ∃ v4 : Int64, v4 = (v3 - f_balloon) ∧ Go p e below A0 (T8.setTop (mkF m 78 #[.val (.ref a0), .val (.long q1), .second, .val (.int (2 : Int32)), .val (.int (1 : Int32)), .val (.int (0 : Int32)), .val (.long f_closing), .second, .val (.long f_opening), .second, .val (.long f_interest), .second, .val (.long f_owedBefore), .second, .val (.int (0 : Int32)), .val (.int (0 : Int32)), .val (.int v2), .val (.long r7_r), .second, .val (.long v3), .second, .unset] [(.long v4)])) := ⟨_, rfl, go17⟩
  obtain ⟨_, _, ⟨T9, L9, k9, n9⟩, -, X9, ⟨Lc9, hQ9, l9, y9, z9⟩, st9⟩ := Jvm.LawKit.callS X8 hx (y := (⟨"java/lang/Long", "signum", "(J)I"⟩ : MethodName)) hown (mvT hZ (hw _ (List.mem_of_getElem? (i := 101) rfl))) (mvT hZ (hw _ (List.mem_of_getElem? (i := 102) rfl))) (mvT hZ (hw _ (List.mem_of_getElem? (i := 82) rfl))) (mvT hZ (hw _ (List.mem_of_getElem? (i := 103) rfl))) (by decide) (backOf (W := 0) (rm13 l Z aw hw [] v4 h0 n0 Z0) hZ (hw _ (List.mem_of_getElem? (i := 103) rfl)) (hw _ (List.mem_of_getElem? (i := 82) rfl)) (by decide) (by decide)) (g := (mkF m 78 #[.val (.ref a0), .val (.long q1), .second, .val (.int (2 : Int32)), .val (.int (1 : Int32)), .val (.int (0 : Int32)), .val (.long f_closing), .second, .val (.long f_opening), .second, .val (.long f_interest), .second, .val (.long f_owedBefore), .second, .val (.int (0 : Int32)), .val (.int (0 : Int32)), .val (.int v2), .val (.long r7_r), .second, .val (.long v3), .second, .unset] [(.long v4)])) rfl (by rw [hml]; rfl) (argsL := [(.long v4)]) (rest := []) (lenOf pd_11 rfl) rfl (by show 2 * 0 + _ ≤ _; exact Nat.le_of_eq rfl) (hb hby d12_78) (fun _ _ => ⟨rfl, e8, (by decide : 0 + 0 ≤ _), (by decide : 0 + 0 ≤ _)⟩)
  dsimp only [Pt.U, Pt.locs, Pt.cells, Pt.slots] at X9 l9 y9 z9 st9 hQ9
  obtain rfl : k9 = 0 := y9
  obtain rfl : n9 = 0 := z9
  obtain ⟨rfl, N9q, e9⟩ := hQ9
  have N9 : Fr n0 L9 := by rw [l9]; exact Fr.app N7 N9q
  have go19 : Go p e below A0 (T9.setTop (mkF m 81 #[.val (.ref a0), .val (.long q1), .second, .val (.int (2 : Int32)), .val (.int (1 : Int32)), .val (.int (0 : Int32)), .val (.long f_closing), .second, .val (.long f_opening), .second, .val (.long f_interest), .second, .val (.long f_owedBefore), .second, .val (.int (0 : Int32)), .val (.int (0 : Int32)), .val (.int v2), .val (.long r7_r), .second, .val (.long v3), .second, .unset] [(.int (Fsig v4))])) := by
    intro t k
    refine go18 t ?_
    refine st9 _ ?_
    show Steps p.tables e below (T9.setTop (mkF m 81 #[.val (.ref a0), .val (.long q1), .second, .val (.int (2 : Int32)), .val (.int (1 : Int32)), .val (.int (0 : Int32)), .val (.long f_closing), .second, .val (.long f_opening), .second, .val (.long f_interest), .second, .val (.long f_owedBefore), .second, .val (.int (0 : Int32)), .val (.int (0 : Int32)), .val (.int v2), .val (.long r7_r), .second, .val (.long v3), .second, .unset] [(.int (Fsig v4))])) _
    exact k
  obtain ⟨v5, hv5, go20⟩ : ∃ v5 : Int32, v5 = (Fsig v4) ∧ Go p e below A0 (T9.setTop (mkF m 81 #[.val (.ref a0), .val (.long q1), .second, .val (.int (2 : Int32)), .val (.int (1 : Int32)), .val (.int (0 : Int32)), .val (.long f_closing), .second, .val (.long f_opening), .second, .val (.long f_interest), .second, .val (.long f_owedBefore), .second, .val (.int (0 : Int32)), .val (.int (0 : Int32)), .val (.int v2), .val (.long r7_r), .second, .val (.long v3), .second, .unset] [(.int v5)])) := ⟨_, rfl, go19⟩
  have go21 : Go p e below A0 (T9.setTop (mkF m 83 #[.val (.ref a0), .val (.long q1), .second, .val (.int (2 : Int32)), .val (.int (1 : Int32)), .val (.int (0 : Int32)), .val (.long f_closing), .second, .val (.long f_opening), .second, .val (.long f_interest), .second, .val (.long f_owedBefore), .second, .val (.int (0 : Int32)), .val (.int (0 : Int32)), .val (.int v2), .val (.long r7_r), .second, .val (.long v3), .second, .val (.int v5)] [])) := by
    intro t k
    refine go20 t ?_
    refine o_istore X9 hx hby d12_81 83 rfl (l' := #[.val (.ref a0), .val (.long q1), .second, .val (.int (2 : Int32)), .val (.int (1 : Int32)), .val (.int (0 : Int32)), .val (.long f_closing), .second, .val (.long f_opening), .second, .val (.long f_interest), .second, .val (.long f_owedBefore), .second, .val (.int (0 : Int32)), .val (.int (0 : Int32)), .val (.int v2), .val (.long r7_r), .second, .val (.long v3), .second, .val (.int v5)]) rfl ?_
    exact k
  have go22 : Go p e below A0 (T9.setTop (mkF m 87 #[.val (.ref a0), .val (.long q1), .second, .val (.int (2 : Int32)), .val (.int (1 : Int32)), .val (.int (0 : Int32)), .val (.long f_closing), .second, .val (.long f_opening), .second, .val (.long f_interest), .second, .val (.long f_owedBefore), .second, .val (.int (0 : Int32)), .val (.int (0 : Int32)), .val (.int v2), .val (.long r7_r), .second, .val (.long v3), .second, .val (.int v5)] [(.int v5), (.int v2)])) := by
    intro t k
    refine go21 t ?_
    refine o_iload X9 hx hby d12_83 85 rfl rfl ?_
    refine o_iload X9 hx hby d12_85 87 rfl rfl ?_
    exact k
  obtain ⟨_, _, ⟨T10, L10, k10, n10⟩, -, X10, ⟨Lc10, hQ10, l10, y10, z10⟩, st10⟩ := Jvm.LawKit.callS X9 hx (y := (⟨"com/example/amortine/amortine/Amounts", "reaches", "(II)Z"⟩ : MethodName)) hown (mvT hZ (hw _ (List.mem_of_getElem? (i := 113) rfl))) (mvT hZ (hw _ (List.mem_of_getElem? (i := 114) rfl))) (mvT hZ (hw _ (List.mem_of_getElem? (i := 115) rfl))) (mvT hZ (hw _ (List.mem_of_getElem? (i := 116) rfl))) (by decide) (backOf (W := 0) (rm16 l Z aw hw [] v2 v5 h0 n0 Z0) hZ (hw _ (List.mem_of_getElem? (i := 116) rfl)) (hw _ (List.mem_of_getElem? (i := 115) rfl)) (by decide) (by decide)) (g := (mkF m 87 #[.val (.ref a0), .val (.long q1), .second, .val (.int (2 : Int32)), .val (.int (1 : Int32)), .val (.int (0 : Int32)), .val (.long f_closing), .second, .val (.long f_opening), .second, .val (.long f_interest), .second, .val (.long f_owedBefore), .second, .val (.int (0 : Int32)), .val (.int (0 : Int32)), .val (.int v2), .val (.long r7_r), .second, .val (.long v3), .second, .val (.int v5)] [(.int v5), (.int v2)])) rfl (by rw [hml]; rfl) (argsL := [(.int v2), (.int v5)]) (rest := []) (lenOf pd_13 rfl) rfl (by show 2 * 0 + _ ≤ _; exact Nat.le_of_eq rfl) (hb hby d12_87) (fun _ _ => ⟨rfl, e9, (by decide : 0 + 0 ≤ _), (by decide : 0 + 0 ≤ _)⟩)
  dsimp only [Pt.U, Pt.locs, Pt.cells, Pt.slots] at X10 l10 y10 z10 st10 hQ10
  obtain rfl : k10 = 0 := y10
  obtain rfl : n10 = 0 := z10
  obtain ⟨rfl, N10q, e10⟩ := hQ10
  have N10 : Fr n0 L10 := by rw [l10]; exact Fr.app N9 N10q
  have go23 : Go p e below A0 (T10.setTop (mkF m 90 #[.val (.ref a0), .val (.long q1), .second, .val (.int (2 : Int32)), .val (.int (1 : Int32)), .val (.int (0 : Int32)), .val (.long f_closing), .second, .val (.long f_opening), .second, .val (.long f_interest), .second, .val (.long f_owedBefore), .second, .val (.int (0 : Int32)), .val (.int (0 : Int32)), .val (.int v2), .val (.long r7_r), .second, .val (.long v3), .second, .val (.int v5)] [(.int (Fre v2 v5))])) := by
    intro t k
    refine go22 t ?_
    refine st10 _ ?_
    show Steps p.tables e below (T10.setTop (mkF m 90 #[.val (.ref a0), .val (.long q1), .second, .val (.int (2 : Int32)), .val (.int (1 : Int32)), .val (.int (0 : Int32)), .val (.long f_closing), .second, .val (.long f_opening), .second, .val (.long f_interest), .second, .val (.long f_owedBefore), .second, .val (.int (0 : Int32)), .val (.int (0 : Int32)), .val (.int v2), .val (.long r7_r), .second, .val (.long v3), .second, .val (.int v5)] [(.int (Fre v2 v5))])) _
    exact k
  obtain ⟨v6, hv6, go24⟩ : ∃ v6 : Int32, v6 = (Fre v2 v5) ∧ Go p e below A0 (T10.setTop (mkF m 90 #[.val (.ref a0), .val (.long q1), .second, .val (.int (2 : Int32)), .val (.int (1 : Int32)), .val (.int (0 : Int32)), .val (.long f_closing), .second, .val (.long f_opening), .second, .val (.long f_interest), .second, .val (.long f_owedBefore), .second, .val (.int (0 : Int32)), .val (.int (0 : Int32)), .val (.int v2), .val (.long r7_r), .second, .val (.long v3), .second, .val (.int v5)] [(.int v6)])) := ⟨_, rfl, go23⟩
  have f_c90_1 : v6 = (0 : Int32) := pf12_c90_0 a0 q1 f_balloon f_balloonScale f_closing f_closingScale f_perPeriodNumerator f_perPeriodDenominator f_reciprocal f_exactUpTo f_opening f_interest f_owedBefore f_openingScale f_payment f_paymentScale f_principal f_principalScale f_madePaid f_madeScale f_raised f_raisedScale f_settled f_tallied f_talliedScale f_indexation f_indexationScale hA hrt hre hex hB hPa pa0 v1 v2 r7_r v3 v4 v5 v6 hv1 hv2 hv3 hv4 hv5 hv6 qf7_0
  have go25 : Go p e below A0 (T10.setTop (mkF m 114 #[.val (.ref a0), .val (.long q1), .second, .val (.int (2 : Int32)), .val (.int (1 : Int32)), .val (.int (0 : Int32)), .val (.long f_closing), .second, .val (.long f_opening), .second, .val (.long f_interest), .second, .val (.long f_owedBefore), .second, .val (.int (0 : Int32)), .val (.int (0 : Int32)), .val (.int v2), .val (.long r7_r), .second, .val (.long v3), .second, .val (.int v5)] [])) := by
    intro t k
    refine go24 t ?_
    refine o_ifN X10 hx hby d12_90 93 rfl (teq (f_c90_1)).2 ?_
    refine o_iload X10 hx hby d12_93 95 rfl rfl ?_
    refine o_ifY X10 hx hby d12_95 111 rfl (teq (show (0 : Int32) = (0 : Int32) by decide)).1 ?_
    refine o_iconst X10 hx hby d12_111 112 rfl (v := (0 : Int32)) rfl ?_
    refine o_istore X10 hx hby d12_112 114 rfl (l' := #[.val (.ref a0), .val (.long q1), .second, .val (.int (2 : Int32)), .val (.int (1 : Int32)), .val (.int (0 : Int32)), .val (.long f_closing), .second, .val (.long f_opening), .second, .val (.long f_interest), .second, .val (.long f_owedBefore), .second, .val (.int (0 : Int32)), .val (.int (0 : Int32)), .val (.int v2), .val (.long r7_r), .second, .val (.long v3), .second, .val (.int v5)]) rfl ?_
    exact k
  have go26 : Go p e below A0 (T10.setTop (mkF m 119 #[.val (.ref a0), .val (.long q1), .second, .val (.int (2 : Int32)), .val (.int (1 : Int32)), .val (.int (0 : Int32)), .val (.long f_closing), .second, .val (.long f_opening), .second, .val (.long f_interest), .second, .val (.long f_owedBefore), .second, .val (.int (0 : Int32)), .val (.int (0 : Int32)), .val (.int v2), .val (.long r7_r), .second, .val (.long v3), .second, .val (.int v5)] [(.int (lcmpW r7_r f_interest))])) := by
    intro t k
    refine go25 t ?_
    refine o_lload X10 hx hby d12_114 116 rfl rfl ?_
    refine o_lload X10 hx hby d12_116 118 rfl rfl ?_
    refine o_lcmp X10 hx hby d12_118 119 rfl ?_
    exact k
  have f_c119_2 : ¬ (r7_r = f_interest) := pf12_c119_1 a0 q1 f_balloon f_balloonScale f_closing f_closingScale f_perPeriodNumerator f_perPeriodDenominator f_reciprocal f_exactUpTo f_opening f_interest f_owedBefore f_openingScale f_payment f_paymentScale f_principal f_principalScale f_madePaid f_madeScale f_raised f_raisedScale f_settled f_tallied f_talliedScale f_indexation f_indexationScale hA hrt hre hex hB hPa pa0 v1 v2 r7_r v3 v4 v5 v6 hv1 hv2 hv3 hv4 hv5 hv6 qf7_0
  have go27 : Go p e below A0 (T10.setTop (mkF m 133 #[.val (.ref a0), .val (.long q1), .second, .val (.int (2 : Int32)), .val (.int (1 : Int32)), .val (.int (0 : Int32)), .val (.long f_closing), .second, .val (.long f_opening), .second, .val (.long f_interest), .second, .val (.long f_owedBefore), .second, .val (.int (1 : Int32)), .val (.int (0 : Int32)), .val (.int v2), .val (.long r7_r), .second, .val (.long v3), .second, .val (.int v5)] [])) := by
    intro t k
    refine go26 t ?_
    refine o_ifY X10 hx hby d12_119 130 rfl (feq (fun q => (f_c119_2) ((lw_eq r7_r f_interest).mp q))).2 ?_
    refine o_iinc X10 hx hby d12_130 133 rfl rfl (i := (1 : Int32)) rfl (l' := #[.val (.ref a0), .val (.long q1), .second, .val (.int (2 : Int32)), .val (.int (1 : Int32)), .val (.int (0 : Int32)), .val (.long f_closing), .second, .val (.long f_opening), .second, .val (.long f_interest), .second, .val (.long f_owedBefore), .second, .val (.int (1 : Int32)), .val (.int (0 : Int32)), .val (.int v2), .val (.long r7_r), .second, .val (.long v3), .second, .val (.int v5)]) rfl ?_
    exact k
  have go28 : Go p e below A0 (T10.setTop (mkF m 137 #[.val (.ref a0), .val (.long q1), .second, .val (.int (2 : Int32)), .val (.int (1 : Int32)), .val (.int (0 : Int32)), .val (.long f_closing), .second, .val (.long f_closing), .second, .val (.long f_interest), .second, .val (.long f_owedBefore), .second, .val (.int (1 : Int32)), .val (.int (0 : Int32)), .val (.int v2), .val (.long r7_r), .second, .val (.long v3), .second, .val (.int v5)] [])) := by
    intro t k
    refine go27 t ?_
    refine o_lload X10 hx hby d12_133 135 rfl rfl ?_
    refine o_lstore X10 hx hby d12_135 137 rfl (l' := #[.val (.ref a0), .val (.long q1), .second, .val (.int (2 : Int32)), .val (.int (1 : Int32)), .val (.int (0 : Int32)), .val (.long f_closing), .second, .val (.long f_closing), .second, .val (.long f_interest), .second, .val (.long f_owedBefore), .second, .val (.int (1 : Int32)), .val (.int (0 : Int32)), .val (.int v2), .val (.long r7_r), .second, .val (.long v3), .second, .val (.int v5)]) rfl ?_
    exact k
  have go29 : Go p e below A0 (T10.setTop (mkF m 141 #[.val (.ref a0), .val (.long q1), .second, .val (.int (2 : Int32)), .val (.int (1 : Int32)), .val (.int (0 : Int32)), .val (.long f_closing), .second, .val (.long f_closing), .second, .val (.long f_interest), .second, .val (.long f_interest), .second, .val (.int (1 : Int32)), .val (.int (0 : Int32)), .val (.int v2), .val (.long r7_r), .second, .val (.long v3), .second, .val (.int v5)] [])) := by
    intro t k
    refine go28 t ?_
    refine o_lload X10 hx hby d12_137 139 rfl rfl ?_
    refine o_lstore X10 hx hby d12_139 141 rfl (l' := #[.val (.ref a0), .val (.long q1), .second, .val (.int (2 : Int32)), .val (.int (1 : Int32)), .val (.int (0 : Int32)), .val (.long f_closing), .second, .val (.long f_closing), .second, .val (.long f_interest), .second, .val (.long f_interest), .second, .val (.int (1 : Int32)), .val (.int (0 : Int32)), .val (.int v2), .val (.long r7_r), .second, .val (.long v3), .second, .val (.int v5)]) rfl ?_
    exact k
  have go30 : Go p e below A0 (T10.setTop (mkF m 145 #[.val (.ref a0), .val (.long q1), .second, .val (.int (2 : Int32)), .val (.int (1 : Int32)), .val (.int (0 : Int32)), .val (.long f_closing), .second, .val (.long f_closing), .second, .val (.long r7_r), .second, .val (.long f_interest), .second, .val (.int (1 : Int32)), .val (.int (0 : Int32)), .val (.int v2), .val (.long r7_r), .second, .val (.long v3), .second, .val (.int v5)] [])) := by
    intro t k
    refine go29 t ?_
    refine o_lload X10 hx hby d12_141 143 rfl rfl ?_
    refine o_lstore X10 hx hby d12_143 145 rfl (l' := #[.val (.ref a0), .val (.long q1), .second, .val (.int (2 : Int32)), .val (.int (1 : Int32)), .val (.int (0 : Int32)), .val (.long f_closing), .second, .val (.long f_closing), .second, .val (.long r7_r), .second, .val (.long f_interest), .second, .val (.int (1 : Int32)), .val (.int (0 : Int32)), .val (.int v2), .val (.long r7_r), .second, .val (.long v3), .second, .val (.int v5)]) rfl ?_
    exact k
  have go31 : Go p e below A0 (T10.setTop (mkF m 149 #[.val (.ref a0), .val (.long q1), .second, .val (.int (2 : Int32)), .val (.int (1 : Int32)), .val (.int (0 : Int32)), .val (.long v3), .second, .val (.long f_closing), .second, .val (.long r7_r), .second, .val (.long f_interest), .second, .val (.int (1 : Int32)), .val (.int (0 : Int32)), .val (.int v2), .val (.long r7_r), .second, .val (.long v3), .second, .val (.int v5)] [])) := by
    intro t k
    refine go30 t ?_
    refine o_lload X10 hx hby d12_145 147 rfl rfl ?_
    refine o_lstore X10 hx hby d12_147 149 rfl (l' := #[.val (.ref a0), .val (.long q1), .second, .val (.int (2 : Int32)), .val (.int (1 : Int32)), .val (.int (0 : Int32)), .val (.long v3), .second, .val (.long f_closing), .second, .val (.long r7_r), .second, .val (.long f_interest), .second, .val (.int (1 : Int32)), .val (.int (0 : Int32)), .val (.int v2), .val (.long r7_r), .second, .val (.long v3), .second, .val (.int v5)]) rfl ?_
    exact k
  have go32 : Go p e below A0 (T10.setTop (mkF m 153 #[.val (.ref a0), .val (.long q1), .second, .val (.int (2 : Int32)), .val (.int (1 : Int32)), .val (.int (0 : Int32)), .val (.long v3), .second, .val (.long f_closing), .second, .val (.long r7_r), .second, .val (.long f_interest), .second, .val (.int (1 : Int32)), .val (.int (0 : Int32)), .val (.int v5), .val (.long r7_r), .second, .val (.long v3), .second, .val (.int v5)] [])) := by
    intro t k
    refine go31 t ?_
    refine o_iload X10 hx hby d12_149 151 rfl rfl ?_
    refine o_istore X10 hx hby d12_151 153 rfl (l' := #[.val (.ref a0), .val (.long q1), .second, .val (.int (2 : Int32)), .val (.int (1 : Int32)), .val (.int (0 : Int32)), .val (.long v3), .second, .val (.long f_closing), .second, .val (.long r7_r), .second, .val (.long f_interest), .second, .val (.int (1 : Int32)), .val (.int (0 : Int32)), .val (.int v5), .val (.long r7_r), .second, .val (.long v3), .second, .val (.int v5)]) rfl ?_
    exact k
  obtain ⟨T11, X11, e11, st11⟩ := getF X10 hx hZ hown (host := "") (Or.inl (hw _ (List.mem_of_getElem? (i := 54) rfl))) Via.refl e10 r5 (g := (mkF m 162 #[.val (.ref a0), .val (.long q1), .second, .val (.int (2 : Int32)), .val (.int (1 : Int32)), .val (.int (0 : Int32)), .val (.long v3), .second, .val (.long f_closing), .second, .val (.long r7_r), .second, .val (.long f_interest), .second, .val (.int (1 : Int32)), .val (.int (0 : Int32)), .val (.int v5), .val (.long r7_r), .second, .val (.long v3), .second, .val (.int v5)] [(.ref a0)])) rfl rfl (hb hby d12_162)
  have go33 : Go p e below A0 (T11.setTop (mkF m 167 #[.val (.ref a0), .val (.long q1), .second, .val (.int (2 : Int32)), .val (.int (1 : Int32)), .val (.int (0 : Int32)), .val (.long v3), .second, .val (.long f_closing), .second, .val (.long r7_r), .second, .val (.long f_interest), .second, .val (.int (1 : Int32)), .val (.int (0 : Int32)), .val (.int v5), .val (.long r7_r), .second, .val (.long v3), .second, .val (.int v5)] [(.int (2 : Int32)), (.int (2 : Int32)), (.int f_closingScale)])) := by
    intro t k
    refine go32 t ?_
    refine o_goto X10 hx hby d12_153 42 rfl ?_
    refine o_iload X10 hx hby d12_42 44 rfl rfl ?_
    refine o_iload X10 hx hby d12_44 46 rfl rfl ?_
    refine o_icmpY X10 hx hby d12_46 156 rfl (flt (show ¬ ((1 : Int32) < (1 : Int32)) by decide)).2.1 ?_
    refine o_iload X10 hx hby d12_156 158 rfl rfl ?_
    refine o_ifN X10 hx hby d12_158 161 rfl (tlt (show (0 : Int32) < (1 : Int32) by decide)).2.2.2 ?_
    refine o_aloadN X10 hx hby d12_161 162 rfl rfl rfl ?_
    refine st11 _ ?_
    show Steps p.tables e below (T11.setTop (mkF m 165 #[.val (.ref a0), .val (.long q1), .second, .val (.int (2 : Int32)), .val (.int (1 : Int32)), .val (.int (0 : Int32)), .val (.long v3), .second, .val (.long f_closing), .second, .val (.long r7_r), .second, .val (.long f_interest), .second, .val (.int (1 : Int32)), .val (.int (0 : Int32)), .val (.int v5), .val (.long r7_r), .second, .val (.long v3), .second, .val (.int v5)] [(.int f_closingScale)])) _
    refine o_iloadN X11 hx hby d12_165 166 rfl rfl ?_
    refine o_iconst X11 hx hby d12_166 167 rfl (v := (2 : Int32)) rfl ?_
    exact k
  obtain ⟨_, _, ⟨T12, L12, k12, n12⟩, -, X12, ⟨Lc12, hQ12, l12, y12, z12⟩, st12⟩ := Jvm.LawKit.callS X11 hx (y := (⟨"java/lang/Math", "max", "(II)I"⟩ : MethodName)) hown (mvT hZ (hw _ (List.mem_of_getElem? (i := 117) rfl))) (mvT hZ (hw _ (List.mem_of_getElem? (i := 118) rfl))) (mvT hZ (hw _ (List.mem_of_getElem? (i := 110) rfl))) (mvT hZ (hw _ (List.mem_of_getElem? (i := 119) rfl))) (by decide) (backOf (W := 1) (rm17 l Z aw hw [] (2 : Int32) (2 : Int32) h0 n0 Z0) hZ (hw _ (List.mem_of_getElem? (i := 119) rfl)) (hw _ (List.mem_of_getElem? (i := 110) rfl)) (by decide) (by decide)) (g := (mkF m 167 #[.val (.ref a0), .val (.long q1), .second, .val (.int (2 : Int32)), .val (.int (1 : Int32)), .val (.int (0 : Int32)), .val (.long v3), .second, .val (.long f_closing), .second, .val (.long r7_r), .second, .val (.long f_interest), .second, .val (.int (1 : Int32)), .val (.int (0 : Int32)), .val (.int v5), .val (.long r7_r), .second, .val (.long v3), .second, .val (.int v5)] [(.int (2 : Int32)), (.int (2 : Int32)), (.int f_closingScale)])) rfl (by rw [hml]; rfl) (argsL := [(.int (2 : Int32)), (.int (2 : Int32))]) (rest := [(.int f_closingScale)]) (lenOf pd_14 rfl) rfl (by show 2 * 0 + _ ≤ _; exact Nat.le_of_eq rfl) (hb hby d12_167) (fun _ _ => ⟨rfl, e11, (by decide : 0 + 0 ≤ _), (by decide : 0 + 0 ≤ _)⟩)
  dsimp only [Pt.U, Pt.locs, Pt.cells, Pt.slots] at X12 l12 y12 z12 st12 hQ12
  obtain rfl : k12 = 0 := y12
  obtain rfl : n12 = 0 := z12
  obtain ⟨rfl, N12q, e12⟩ := hQ12
  have N12 : Fr n0 L12 := by rw [l12]; exact Fr.app N10 N12q
  have go34 : Go p e below A0 (T12.setTop (mkF m 170 #[.val (.ref a0), .val (.long q1), .second, .val (.int (2 : Int32)), .val (.int (1 : Int32)), .val (.int (0 : Int32)), .val (.long v3), .second, .val (.long f_closing), .second, .val (.long r7_r), .second, .val (.long f_interest), .second, .val (.int (1 : Int32)), .val (.int (0 : Int32)), .val (.int v5), .val (.long r7_r), .second, .val (.long v3), .second, .val (.int v5)] [(.int (Fmax (2 : Int32) (2 : Int32))), (.int f_closingScale)])) := by
    intro t k
    refine go33 t ?_
    refine st12 _ ?_
    show Steps p.tables e below (T12.setTop (mkF m 170 #[.val (.ref a0), .val (.long q1), .second, .val (.int (2 : Int32)), .val (.int (1 : Int32)), .val (.int (0 : Int32)), .val (.long v3), .second, .val (.long f_closing), .second, .val (.long r7_r), .second, .val (.long f_interest), .second, .val (.int (1 : Int32)), .val (.int (0 : Int32)), .val (.int v5), .val (.long r7_r), .second, .val (.long v3), .second, .val (.int v5)] [(.int (Fmax (2 : Int32) (2 : Int32))), (.int f_closingScale)])) _
    exact k
  obtain ⟨v7, hv7, go35⟩ : ∃ v7 : Int32, v7 = (Fmax (2 : Int32) (2 : Int32)) ∧ Go p e below A0 (T12.setTop (mkF m 170 #[.val (.ref a0), .val (.long q1), .second, .val (.int (2 : Int32)), .val (.int (1 : Int32)), .val (.int (0 : Int32)), .val (.long v3), .second, .val (.long f_closing), .second, .val (.long r7_r), .second, .val (.long f_interest), .second, .val (.int (1 : Int32)), .val (.int (0 : Int32)), .val (.int v5), .val (.long r7_r), .second, .val (.long v3), .second, .val (.int v5)] [(.int v7), (.int f_closingScale)])) := ⟨_, rfl, go34⟩
  obtain ⟨_, _, ⟨T13, L13, k13, n13⟩, -, X13, ⟨Lc13, hQ13, l13, y13, z13⟩, st13⟩ := Jvm.LawKit.callS X12 hx (y := (⟨"java/lang/Math", "max", "(II)I"⟩ : MethodName)) hown (mvT hZ (hw _ (List.mem_of_getElem? (i := 117) rfl))) (mvT hZ (hw _ (List.mem_of_getElem? (i := 118) rfl))) (mvT hZ (hw _ (List.mem_of_getElem? (i := 110) rfl))) (mvT hZ (hw _ (List.mem_of_getElem? (i := 119) rfl))) (by decide) (backOf (W := 0) (rm17 l Z aw hw [] f_closingScale v7 h0 n0 Z0) hZ (hw _ (List.mem_of_getElem? (i := 119) rfl)) (hw _ (List.mem_of_getElem? (i := 110) rfl)) (by decide) (by decide)) (g := (mkF m 170 #[.val (.ref a0), .val (.long q1), .second, .val (.int (2 : Int32)), .val (.int (1 : Int32)), .val (.int (0 : Int32)), .val (.long v3), .second, .val (.long f_closing), .second, .val (.long r7_r), .second, .val (.long f_interest), .second, .val (.int (1 : Int32)), .val (.int (0 : Int32)), .val (.int v5), .val (.long r7_r), .second, .val (.long v3), .second, .val (.int v5)] [(.int v7), (.int f_closingScale)])) rfl (by rw [hml]; rfl) (argsL := [(.int f_closingScale), (.int v7)]) (rest := []) (lenOf pd_14 rfl) rfl (by show 2 * 0 + _ ≤ _; exact Nat.le_of_eq rfl) (hb hby d12_170) (fun _ _ => ⟨rfl, e12, (by decide : 0 + 0 ≤ _), (by decide : 0 + 0 ≤ _)⟩)
  dsimp only [Pt.U, Pt.locs, Pt.cells, Pt.slots] at X13 l13 y13 z13 st13 hQ13
  obtain rfl : k13 = 0 := y13
  obtain rfl : n13 = 0 := z13
  obtain ⟨rfl, N13q, e13⟩ := hQ13
  have N13 : Fr n0 L13 := by rw [l13]; exact Fr.app N12 N13q
  have go36 : Go p e below A0 (T13.setTop (mkF m 173 #[.val (.ref a0), .val (.long q1), .second, .val (.int (2 : Int32)), .val (.int (1 : Int32)), .val (.int (0 : Int32)), .val (.long v3), .second, .val (.long f_closing), .second, .val (.long r7_r), .second, .val (.long f_interest), .second, .val (.int (1 : Int32)), .val (.int (0 : Int32)), .val (.int v5), .val (.long r7_r), .second, .val (.long v3), .second, .val (.int v5)] [(.int (Fmax f_closingScale v7))])) := by
    intro t k
    refine go35 t ?_
    refine st13 _ ?_
    show Steps p.tables e below (T13.setTop (mkF m 173 #[.val (.ref a0), .val (.long q1), .second, .val (.int (2 : Int32)), .val (.int (1 : Int32)), .val (.int (0 : Int32)), .val (.long v3), .second, .val (.long f_closing), .second, .val (.long r7_r), .second, .val (.long f_interest), .second, .val (.int (1 : Int32)), .val (.int (0 : Int32)), .val (.int v5), .val (.long r7_r), .second, .val (.long v3), .second, .val (.int v5)] [(.int (Fmax f_closingScale v7))])) _
    exact k
  obtain ⟨v8, hv8, go37⟩ : ∃ v8 : Int32, v8 = (Fmax f_closingScale v7) ∧ Go p e below A0 (T13.setTop (mkF m 173 #[.val (.ref a0), .val (.long q1), .second, .val (.int (2 : Int32)), .val (.int (1 : Int32)), .val (.int (0 : Int32)), .val (.long v3), .second, .val (.long f_closing), .second, .val (.long r7_r), .second, .val (.long f_interest), .second, .val (.int (1 : Int32)), .val (.int (0 : Int32)), .val (.int v5), .val (.long r7_r), .second, .val (.long v3), .second, .val (.int v5)] [(.int v8)])) := ⟨_, rfl, go36⟩
  have go38 : Go p e below A0 (T13.setTop (mkF m 175 #[.val (.ref a0), .val (.long q1), .second, .val (.int (2 : Int32)), .val (.int (1 : Int32)), .val (.int (0 : Int32)), .val (.long v3), .second, .val (.long f_closing), .second, .val (.long r7_r), .second, .val (.long f_interest), .second, .val (.int (1 : Int32)), .val (.int (0 : Int32)), .val (.int v5), .val (.int v8), .unset, .val (.long v3), .second, .val (.int v5)] [])) := by
    intro t k
    refine go37 t ?_
    refine o_istore X13 hx hby d12_173 175 rfl (l' := #[.val (.ref a0), .val (.long q1), .second, .val (.int (2 : Int32)), .val (.int (1 : Int32)), .val (.int (0 : Int32)), .val (.long v3), .second, .val (.long f_closing), .second, .val (.long r7_r), .second, .val (.long f_interest), .second, .val (.int (1 : Int32)), .val (.int (0 : Int32)), .val (.int v5), .val (.int v8), .unset, .val (.long v3), .second, .val (.int v5)]) rfl ?_
    exact k
  have go39 : Go p e below A0 (T13.setTop (mkF m 178 #[.val (.ref a0), .val (.long q1), .second, .val (.int (2 : Int32)), .val (.int (1 : Int32)), .val (.int (0 : Int32)), .val (.long v3), .second, .val (.long f_closing), .second, .val (.long r7_r), .second, .val (.long f_interest), .second, .val (.int (1 : Int32)), .val (.int (0 : Int32)), .val (.int v5), .val (.int v8), .unset, .val (.long v3), .second, .val (.int v5)] [(.long f_closing), (.ref a0)])) := by
    intro t k
    refine go38 t ?_
    refine o_aloadN X13 hx hby d12_175 176 rfl rfl rfl ?_
    refine o_lload X13 hx hby d12_176 178 rfl rfl ?_
    exact k
  obtain ⟨T14, h14, X14, e14, W14, st14⟩ := putF X13 hx hZ hown (host := "") (Or.inl (hw _ (List.mem_of_getElem? (i := 95) rfl))) Via.refl e13 r10 r0 (Or.inl (hw _ (List.mem_of_getElem? (i := 96) rfl))) (hw _ (List.mem_of_getElem? (i := 40) rfl)) (ty := .long) (by decide) rfl rfl (g := (mkF m 178 #[.val (.ref a0), .val (.long q1), .second, .val (.int (2 : Int32)), .val (.int (1 : Int32)), .val (.int (0 : Int32)), .val (.long v3), .second, .val (.long f_closing), .second, .val (.long r7_r), .second, .val (.long f_interest), .second, .val (.int (1 : Int32)), .val (.int (0 : Int32)), .val (.int v5), .val (.int v8), .unset, .val (.long v3), .second, .val (.int v5)] [(.long f_closing), (.ref a0)])) rfl rfl (hb hby d12_178)
  have f1 : Exa Z h14 a0 "com/example/amortine/amortine/CentAmounts" := r0.wr W14
  have f2 : FC Z h14 a0 "balloon" "J" (.long f_balloon) := r2.other W14 (Or.inr (slot_ne (Or.inr wl49) (Or.inl wl96) (by decide) (t := .long) (t' := .long) (by decide) (by decide)))
  have f3 : FC Z h14 a0 "balloonScale" "I" (.int f_balloonScale) := r3.other W14 (Or.inr (slot_ne (Or.inr wl51) (Or.inl wl96) (by decide) (t := .int) (t' := .long) (by decide) (by decide)))
  have f4 : FC Z h14 a0 "closing" "J" (.long f_closing) := r4.other W14 (Or.inr (slot_ne (Or.inl wl53) (Or.inl wl96) (by decide) (t := .long) (t' := .long) (by decide) (by decide)))
  have f5 : FC Z h14 a0 "closingScale" "I" (.int f_closingScale) := r5.other W14 (Or.inr (slot_ne (Or.inl wl55) (Or.inl wl96) (by decide) (t := .int) (t' := .long) (by decide) (by decide)))
  have f6 : FC Z h14 a0 "perPeriodNumerator" "J" (.long f_perPeriodNumerator) := r6.other W14 (Or.inr (slot_ne (Or.inl wl76) (Or.inl wl96) (by decide) (t := .long) (t' := .long) (by decide) (by decide)))
  have f7 : FC Z h14 a0 "perPeriodDenominator" "J" (.long f_perPeriodDenominator) := r7.other W14 (Or.inr (slot_ne (Or.inl wl78) (Or.inl wl96) (by decide) (t := .long) (t' := .long) (by decide) (by decide)))
  have f8 : FC Z h14 a0 "reciprocal" "J" (.long f_reciprocal) := r8.other W14 (Or.inr (slot_ne (Or.inl wl86) (Or.inl wl96) (by decide) (t := .long) (t' := .long) (by decide) (by decide)))
  have f9 : FC Z h14 a0 "exactUpTo" "J" (.long f_exactUpTo) := r9.other W14 (Or.inr (slot_ne (Or.inl wl89) (Or.inl wl96) (by decide) (t := .long) (t' := .long) (by decide) (by decide)))
  have f10 : FC Z h14 a0 "interest" "J" (.long f_interest) := r11.other W14 (Or.inr (slot_ne (Or.inl wl98) (Or.inl wl96) (by decide) (t := .long) (t' := .long) (by decide) (by decide)))
  have f11 : FC Z h14 a0 "owedBefore" "J" (.long f_owedBefore) := r12.other W14 (Or.inr (slot_ne (Or.inl wl100) (Or.inl wl96) (by decide) (t := .long) (t' := .long) (by decide) (by decide)))
  have f12 : FC Z h14 a0 "openingScale" "I" (.int f_openingScale) := r13.other W14 (Or.inr (slot_ne (Or.inl wl121) (Or.inl wl96) (by decide) (t := .int) (t' := .long) (by decide) (by decide)))
  have f13 : FC Z h14 a0 "payment" "J" (.long f_payment) := r14.other W14 (Or.inr (slot_ne (Or.inl wl123) (Or.inl wl96) (by decide) (t := .long) (t' := .long) (by decide) (by decide)))
  have f14 : FC Z h14 a0 "paymentScale" "I" (.int f_paymentScale) := r15.other W14 (Or.inr (slot_ne (Or.inl wl125) (Or.inl wl96) (by decide) (t := .int) (t' := .long) (by decide) (by decide)))
  have f15 : FC Z h14 a0 "principal" "J" (.long f_principal) := r16.other W14 (Or.inr (slot_ne (Or.inl wl127) (Or.inl wl96) (by decide) (t := .long) (t' := .long) (by decide) (by decide)))
  have f16 : FC Z h14 a0 "principalScale" "I" (.int f_principalScale) := r17.other W14 (Or.inr (slot_ne (Or.inl wl129) (Or.inl wl96) (by decide) (t := .int) (t' := .long) (by decide) (by decide)))
  have f17 : FC Z h14 a0 "madePaid" "J" (.long f_madePaid) := r18.other W14 (Or.inr (slot_ne (Or.inl wl131) (Or.inl wl96) (by decide) (t := .long) (t' := .long) (by decide) (by decide)))
  have f18 : FC Z h14 a0 "madeScale" "I" (.int f_madeScale) := r19.other W14 (Or.inr (slot_ne (Or.inl wl133) (Or.inl wl96) (by decide) (t := .int) (t' := .long) (by decide) (by decide)))
  have f19 : FC Z h14 a0 "raised" "J" (.long f_raised) := r20.other W14 (Or.inr (slot_ne (Or.inl wl135) (Or.inl wl96) (by decide) (t := .long) (t' := .long) (by decide) (by decide)))
  have f20 : FC Z h14 a0 "raisedScale" "I" (.int f_raisedScale) := r21.other W14 (Or.inr (slot_ne (Or.inl wl137) (Or.inl wl96) (by decide) (t := .int) (t' := .long) (by decide) (by decide)))
  have f21 : FC Z h14 a0 "settled" "Z" (.int f_settled) := r22.other W14 (Or.inr (slot_ne (Or.inl wl139) (Or.inl wl96) (by decide) (t := .boolean) (t' := .long) (by decide) (by decide)))
  have f22 : FC Z h14 a0 "tallied" "J" (.long f_tallied) := r23.other W14 (Or.inr (slot_ne (Or.inl wl161) (Or.inl wl96) (by decide) (t := .long) (t' := .long) (by decide) (by decide)))
  have f23 : FC Z h14 a0 "talliedScale" "I" (.int f_talliedScale) := r24.other W14 (Or.inr (slot_ne (Or.inl wl163) (Or.inl wl96) (by decide) (t := .int) (t' := .long) (by decide) (by decide)))
  have f24 : FC Z h14 a0 "indexation" "J" (.long f_indexation) := r25.other W14 (Or.inr (slot_ne (Or.inl wl165) (Or.inl wl96) (by decide) (t := .long) (t' := .long) (by decide) (by decide)))
  have f25 : FC Z h14 a0 "indexationScale" "I" (.int f_indexationScale) := r26.other W14 (Or.inr (slot_ne (Or.inl wl167) (Or.inl wl96) (by decide) (t := .int) (t' := .long) (by decide) (by decide)))
  have Zp14 : n0 ≤ h14.size := Nat.le_trans Z0 (Keep.of_wr W14).1
  have K14 : Keep h0 h14 [a0] := (Keep.refl h0 [a0]).wr W14 (Or.inl (List.mem_of_getElem? (i := 0) rfl))
  have N14 := Fr.snoc X14 N13 r1
  have f26 : FC Z h14 a0 "opening" "J" (.long f_closing) := r10.same W14
  obtain ⟨T15, X15, e15, st15⟩ := getF X14 hx hZ hown (host := "") (Or.inl (hw _ (List.mem_of_getElem? (i := 54) rfl))) Via.refl e14 f5 (g := (mkF m 189 #[.val (.ref a0), .val (.long q1), .second, .val (.int (2 : Int32)), .val (.int (1 : Int32)), .val (.int (0 : Int32)), .val (.long v3), .second, .val (.long f_closing), .second, .val (.long r7_r), .second, .val (.long f_interest), .second, .val (.int (1 : Int32)), .val (.int (0 : Int32)), .val (.int v5), .val (.int v8), .unset, .val (.long v3), .second, .val (.int v5)] [(.ref a0), (.ref a0)])) rfl rfl (hb hby d12_189)
  have go40 : Go p e below A0 (T15.setTop (mkF m 197 #[.val (.ref a0), .val (.long q1), .second, .val (.int (2 : Int32)), .val (.int (1 : Int32)), .val (.int (0 : Int32)), .val (.long v3), .second, .val (.long f_closing), .second, .val (.long r7_r), .second, .val (.long f_interest), .second, .val (.int (1 : Int32)), .val (.int (0 : Int32)), .val (.int v5), .val (.int v8), .unset, .val (.long v3), .second, .val (.int v5)] [(.int f_closingScale), (.ref a0)])) := by
    intro t k
    refine go39 t ?_
    refine st14 _ ?_
    show Steps p.tables e below (T14.setTop (mkF m 181 #[.val (.ref a0), .val (.long q1), .second, .val (.int (2 : Int32)), .val (.int (1 : Int32)), .val (.int (0 : Int32)), .val (.long v3), .second, .val (.long f_closing), .second, .val (.long r7_r), .second, .val (.long f_interest), .second, .val (.int (1 : Int32)), .val (.int (0 : Int32)), .val (.int v5), .val (.int v8), .unset, .val (.long v3), .second, .val (.int v5)] [])) _
    refine o_aloadN X14 hx hby d12_181 182 rfl rfl rfl ?_
    refine o_iload X14 hx hby d12_182 184 rfl rfl ?_
    refine o_iconst X14 hx hby d12_184 185 rfl (v := (1 : Int32)) rfl ?_
    refine o_icmpN X14 hx hby d12_185 188 rfl (teq (show (1 : Int32) = (1 : Int32) by decide)).2 ?_
    refine o_aloadN X14 hx hby d12_188 189 rfl rfl rfl ?_
    refine st15 _ ?_
    show Steps p.tables e below (T15.setTop (mkF m 192 #[.val (.ref a0), .val (.long q1), .second, .val (.int (2 : Int32)), .val (.int (1 : Int32)), .val (.int (0 : Int32)), .val (.long v3), .second, .val (.long f_closing), .second, .val (.long r7_r), .second, .val (.long f_interest), .second, .val (.int (1 : Int32)), .val (.int (0 : Int32)), .val (.int v5), .val (.int v8), .unset, .val (.long v3), .second, .val (.int v5)] [(.int f_closingScale), (.ref a0)])) _
    refine o_goto X15 hx hby d12_192 197 rfl ?_
    exact k
  obtain ⟨T16, h16, X16, e16, W16, st16⟩ := putF X15 hx hZ hown (host := "") (Or.inl (hw _ (List.mem_of_getElem? (i := 120) rfl))) Via.refl e15 f12 f1 (Or.inl (hw _ (List.mem_of_getElem? (i := 121) rfl))) (hw _ (List.mem_of_getElem? (i := 40) rfl)) (ty := .int) (by decide) rfl rfl (g := (mkF m 197 #[.val (.ref a0), .val (.long q1), .second, .val (.int (2 : Int32)), .val (.int (1 : Int32)), .val (.int (0 : Int32)), .val (.long v3), .second, .val (.long f_closing), .second, .val (.long r7_r), .second, .val (.long f_interest), .second, .val (.int (1 : Int32)), .val (.int (0 : Int32)), .val (.int v5), .val (.int v8), .unset, .val (.long v3), .second, .val (.int v5)] [(.int f_closingScale), (.ref a0)])) rfl rfl (hb hby d12_197)
  have f27 : Exa Z h16 a0 "com/example/amortine/amortine/CentAmounts" := f1.wr W16
  have f28 : FC Z h16 a0 "balloon" "J" (.long f_balloon) := f2.other W16 (Or.inr (slot_ne (Or.inr wl49) (Or.inl wl121) (by decide) (t := .long) (t' := .int) (by decide) (by decide)))
  have f29 : FC Z h16 a0 "balloonScale" "I" (.int f_balloonScale) := f3.other W16 (Or.inr (slot_ne (Or.inr wl51) (Or.inl wl121) (by decide) (t := .int) (t' := .int) (by decide) (by decide)))
  have f30 : FC Z h16 a0 "closing" "J" (.long f_closing) := f4.other W16 (Or.inr (slot_ne (Or.inl wl53) (Or.inl wl121) (by decide) (t := .long) (t' := .int) (by decide) (by decide)))
  have f31 : FC Z h16 a0 "closingScale" "I" (.int f_closingScale) := f5.other W16 (Or.inr (slot_ne (Or.inl wl55) (Or.inl wl121) (by decide) (t := .int) (t' := .int) (by decide) (by decide)))
  have f32 : FC Z h16 a0 "perPeriodNumerator" "J" (.long f_perPeriodNumerator) := f6.other W16 (Or.inr (slot_ne (Or.inl wl76) (Or.inl wl121) (by decide) (t := .long) (t' := .int) (by decide) (by decide)))
  have f33 : FC Z h16 a0 "perPeriodDenominator" "J" (.long f_perPeriodDenominator) := f7.other W16 (Or.inr (slot_ne (Or.inl wl78) (Or.inl wl121) (by decide) (t := .long) (t' := .int) (by decide) (by decide)))
  have f34 : FC Z h16 a0 "reciprocal" "J" (.long f_reciprocal) := f8.other W16 (Or.inr (slot_ne (Or.inl wl86) (Or.inl wl121) (by decide) (t := .long) (t' := .int) (by decide) (by decide)))
  have f35 : FC Z h16 a0 "exactUpTo" "J" (.long f_exactUpTo) := f9.other W16 (Or.inr (slot_ne (Or.inl wl89) (Or.inl wl121) (by decide) (t := .long) (t' := .int) (by decide) (by decide)))
  have f36 : FC Z h16 a0 "interest" "J" (.long f_interest) := f10.other W16 (Or.inr (slot_ne (Or.inl wl98) (Or.inl wl121) (by decide) (t := .long) (t' := .int) (by decide) (by decide)))
  have f37 : FC Z h16 a0 "owedBefore" "J" (.long f_owedBefore) := f11.other W16 (Or.inr (slot_ne (Or.inl wl100) (Or.inl wl121) (by decide) (t := .long) (t' := .int) (by decide) (by decide)))
  have f38 : FC Z h16 a0 "payment" "J" (.long f_payment) := f13.other W16 (Or.inr (slot_ne (Or.inl wl123) (Or.inl wl121) (by decide) (t := .long) (t' := .int) (by decide) (by decide)))
  have f39 : FC Z h16 a0 "paymentScale" "I" (.int f_paymentScale) := f14.other W16 (Or.inr (slot_ne (Or.inl wl125) (Or.inl wl121) (by decide) (t := .int) (t' := .int) (by decide) (by decide)))
  have f40 : FC Z h16 a0 "principal" "J" (.long f_principal) := f15.other W16 (Or.inr (slot_ne (Or.inl wl127) (Or.inl wl121) (by decide) (t := .long) (t' := .int) (by decide) (by decide)))
  have f41 : FC Z h16 a0 "principalScale" "I" (.int f_principalScale) := f16.other W16 (Or.inr (slot_ne (Or.inl wl129) (Or.inl wl121) (by decide) (t := .int) (t' := .int) (by decide) (by decide)))
  have f42 : FC Z h16 a0 "madePaid" "J" (.long f_madePaid) := f17.other W16 (Or.inr (slot_ne (Or.inl wl131) (Or.inl wl121) (by decide) (t := .long) (t' := .int) (by decide) (by decide)))
  have f43 : FC Z h16 a0 "madeScale" "I" (.int f_madeScale) := f18.other W16 (Or.inr (slot_ne (Or.inl wl133) (Or.inl wl121) (by decide) (t := .int) (t' := .int) (by decide) (by decide)))
  have f44 : FC Z h16 a0 "raised" "J" (.long f_raised) := f19.other W16 (Or.inr (slot_ne (Or.inl wl135) (Or.inl wl121) (by decide) (t := .long) (t' := .int) (by decide) (by decide)))
  have f45 : FC Z h16 a0 "raisedScale" "I" (.int f_raisedScale) := f20.other W16 (Or.inr (slot_ne (Or.inl wl137) (Or.inl wl121) (by decide) (t := .int) (t' := .int) (by decide) (by decide)))
  have f46 : FC Z h16 a0 "settled" "Z" (.int f_settled) := f21.other W16 (Or.inr (slot_ne (Or.inl wl139) (Or.inl wl121) (by decide) (t := .boolean) (t' := .int) (by decide) (by decide)))
  have f47 : FC Z h16 a0 "tallied" "J" (.long f_tallied) := f22.other W16 (Or.inr (slot_ne (Or.inl wl161) (Or.inl wl121) (by decide) (t := .long) (t' := .int) (by decide) (by decide)))
  have f48 : FC Z h16 a0 "talliedScale" "I" (.int f_talliedScale) := f23.other W16 (Or.inr (slot_ne (Or.inl wl163) (Or.inl wl121) (by decide) (t := .int) (t' := .int) (by decide) (by decide)))
  have f49 : FC Z h16 a0 "indexation" "J" (.long f_indexation) := f24.other W16 (Or.inr (slot_ne (Or.inl wl165) (Or.inl wl121) (by decide) (t := .long) (t' := .int) (by decide) (by decide)))
  have f50 : FC Z h16 a0 "indexationScale" "I" (.int f_indexationScale) := f25.other W16 (Or.inr (slot_ne (Or.inl wl167) (Or.inl wl121) (by decide) (t := .int) (t' := .int) (by decide) (by decide)))
  have f51 : FC Z h16 a0 "opening" "J" (.long f_closing) := f26.other W16 (Or.inr (slot_ne (Or.inl wl96) (Or.inl wl121) (by decide) (t := .long) (t' := .int) (by decide) (by decide)))
  have Zp16 : n0 ≤ h16.size := Nat.le_trans Zp14 (Keep.of_wr W16).1
  have K16 : Keep h0 h16 [a0] := K14.wr W16 (Or.inl (List.mem_of_getElem? (i := 0) rfl))
  have N16 := Fr.snoc X16 N14 r1
  have f52 : FC Z h16 a0 "openingScale" "I" (.int f_closingScale) := f12.same W16
  have go41 : Go p e below A0 (T16.setTop (mkF m 203 #[.val (.ref a0), .val (.long q1), .second, .val (.int (2 : Int32)), .val (.int (1 : Int32)), .val (.int (0 : Int32)), .val (.long v3), .second, .val (.long f_closing), .second, .val (.long r7_r), .second, .val (.long f_interest), .second, .val (.int (1 : Int32)), .val (.int (0 : Int32)), .val (.int v5), .val (.int v8), .unset, .val (.long v3), .second, .val (.int v5)] [(.long f_interest), (.ref a0)])) := by
    intro t k
    refine go40 t ?_
    refine st16 _ ?_
    show Steps p.tables e below (T16.setTop (mkF m 200 #[.val (.ref a0), .val (.long q1), .second, .val (.int (2 : Int32)), .val (.int (1 : Int32)), .val (.int (0 : Int32)), .val (.long v3), .second, .val (.long f_closing), .second, .val (.long r7_r), .second, .val (.long f_interest), .second, .val (.int (1 : Int32)), .val (.int (0 : Int32)), .val (.int v5), .val (.int v8), .unset, .val (.long v3), .second, .val (.int v5)] [])) _
    refine o_aloadN X16 hx hby d12_200 201 rfl rfl rfl ?_
    refine o_lload X16 hx hby d12_201 203 rfl rfl ?_
    exact k
  obtain ⟨T17, h17, X17, e17, W17, st17⟩ := putF X16 hx hZ hown (host := "") (Or.inl (hw _ (List.mem_of_getElem? (i := 99) rfl))) Via.refl e16 f37 f27 (Or.inl (hw _ (List.mem_of_getElem? (i := 100) rfl))) (hw _ (List.mem_of_getElem? (i := 40) rfl)) (ty := .long) (by decide) rfl rfl (g := (mkF m 203 #[.val (.ref a0), .val (.long q1), .second, .val (.int (2 : Int32)), .val (.int (1 : Int32)), .val (.int (0 : Int32)), .val (.long v3), .second, .val (.long f_closing), .second, .val (.long r7_r), .second, .val (.long f_interest), .second, .val (.int (1 : Int32)), .val (.int (0 : Int32)), .val (.int v5), .val (.int v8), .unset, .val (.long v3), .second, .val (.int v5)] [(.long f_interest), (.ref a0)])) rfl rfl (hb hby d12_203)
  have f53 : Exa Z h17 a0 "com/example/amortine/amortine/CentAmounts" := f27.wr W17
  have f54 : FC Z h17 a0 "balloon" "J" (.long f_balloon) := f28.other W17 (Or.inr (slot_ne (Or.inr wl49) (Or.inl wl100) (by decide) (t := .long) (t' := .long) (by decide) (by decide)))
  have f55 : FC Z h17 a0 "balloonScale" "I" (.int f_balloonScale) := f29.other W17 (Or.inr (slot_ne (Or.inr wl51) (Or.inl wl100) (by decide) (t := .int) (t' := .long) (by decide) (by decide)))
  have f56 : FC Z h17 a0 "closing" "J" (.long f_closing) := f30.other W17 (Or.inr (slot_ne (Or.inl wl53) (Or.inl wl100) (by decide) (t := .long) (t' := .long) (by decide) (by decide)))
  have f57 : FC Z h17 a0 "closingScale" "I" (.int f_closingScale) := f31.other W17 (Or.inr (slot_ne (Or.inl wl55) (Or.inl wl100) (by decide) (t := .int) (t' := .long) (by decide) (by decide)))
  have f58 : FC Z h17 a0 "perPeriodNumerator" "J" (.long f_perPeriodNumerator) := f32.other W17 (Or.inr (slot_ne (Or.inl wl76) (Or.inl wl100) (by decide) (t := .long) (t' := .long) (by decide) (by decide)))
  have f59 : FC Z h17 a0 "perPeriodDenominator" "J" (.long f_perPeriodDenominator) := f33.other W17 (Or.inr (slot_ne (Or.inl wl78) (Or.inl wl100) (by decide) (t := .long) (t' := .long) (by decide) (by decide)))
  have f60 : FC Z h17 a0 "reciprocal" "J" (.long f_reciprocal) := f34.other W17 (Or.inr (slot_ne (Or.inl wl86) (Or.inl wl100) (by decide) (t := .long) (t' := .long) (by decide) (by decide)))
  have f61 : FC Z h17 a0 "exactUpTo" "J" (.long f_exactUpTo) := f35.other W17 (Or.inr (slot_ne (Or.inl wl89) (Or.inl wl100) (by decide) (t := .long) (t' := .long) (by decide) (by decide)))
  have f62 : FC Z h17 a0 "interest" "J" (.long f_interest) := f36.other W17 (Or.inr (slot_ne (Or.inl wl98) (Or.inl wl100) (by decide) (t := .long) (t' := .long) (by decide) (by decide)))
  have f63 : FC Z h17 a0 "payment" "J" (.long f_payment) := f38.other W17 (Or.inr (slot_ne (Or.inl wl123) (Or.inl wl100) (by decide) (t := .long) (t' := .long) (by decide) (by decide)))
  have f64 : FC Z h17 a0 "paymentScale" "I" (.int f_paymentScale) := f39.other W17 (Or.inr (slot_ne (Or.inl wl125) (Or.inl wl100) (by decide) (t := .int) (t' := .long) (by decide) (by decide)))
  have f65 : FC Z h17 a0 "principal" "J" (.long f_principal) := f40.other W17 (Or.inr (slot_ne (Or.inl wl127) (Or.inl wl100) (by decide) (t := .long) (t' := .long) (by decide) (by decide)))
  have f66 : FC Z h17 a0 "principalScale" "I" (.int f_principalScale) := f41.other W17 (Or.inr (slot_ne (Or.inl wl129) (Or.inl wl100) (by decide) (t := .int) (t' := .long) (by decide) (by decide)))
  have f67 : FC Z h17 a0 "madePaid" "J" (.long f_madePaid) := f42.other W17 (Or.inr (slot_ne (Or.inl wl131) (Or.inl wl100) (by decide) (t := .long) (t' := .long) (by decide) (by decide)))
  have f68 : FC Z h17 a0 "madeScale" "I" (.int f_madeScale) := f43.other W17 (Or.inr (slot_ne (Or.inl wl133) (Or.inl wl100) (by decide) (t := .int) (t' := .long) (by decide) (by decide)))
  have f69 : FC Z h17 a0 "raised" "J" (.long f_raised) := f44.other W17 (Or.inr (slot_ne (Or.inl wl135) (Or.inl wl100) (by decide) (t := .long) (t' := .long) (by decide) (by decide)))
  have f70 : FC Z h17 a0 "raisedScale" "I" (.int f_raisedScale) := f45.other W17 (Or.inr (slot_ne (Or.inl wl137) (Or.inl wl100) (by decide) (t := .int) (t' := .long) (by decide) (by decide)))
  have f71 : FC Z h17 a0 "settled" "Z" (.int f_settled) := f46.other W17 (Or.inr (slot_ne (Or.inl wl139) (Or.inl wl100) (by decide) (t := .boolean) (t' := .long) (by decide) (by decide)))
  have f72 : FC Z h17 a0 "tallied" "J" (.long f_tallied) := f47.other W17 (Or.inr (slot_ne (Or.inl wl161) (Or.inl wl100) (by decide) (t := .long) (t' := .long) (by decide) (by decide)))
  have f73 : FC Z h17 a0 "talliedScale" "I" (.int f_talliedScale) := f48.other W17 (Or.inr (slot_ne (Or.inl wl163) (Or.inl wl100) (by decide) (t := .int) (t' := .long) (by decide) (by decide)))
  have f74 : FC Z h17 a0 "indexation" "J" (.long f_indexation) := f49.other W17 (Or.inr (slot_ne (Or.inl wl165) (Or.inl wl100) (by decide) (t := .long) (t' := .long) (by decide) (by decide)))
  have f75 : FC Z h17 a0 "indexationScale" "I" (.int f_indexationScale) := f50.other W17 (Or.inr (slot_ne (Or.inl wl167) (Or.inl wl100) (by decide) (t := .int) (t' := .long) (by decide) (by decide)))
  have f76 : FC Z h17 a0 "opening" "J" (.long f_closing) := f51.other W17 (Or.inr (slot_ne (Or.inl wl96) (Or.inl wl100) (by decide) (t := .long) (t' := .long) (by decide) (by decide)))
  have f77 : FC Z h17 a0 "openingScale" "I" (.int f_closingScale) := f52.other W17 (Or.inr (slot_ne (Or.inl wl121) (Or.inl wl100) (by decide) (t := .int) (t' := .long) (by decide) (by decide)))
  have Zp17 : n0 ≤ h17.size := Nat.le_trans Zp16 (Keep.of_wr W17).1
  have K17 : Keep h0 h17 [a0] := K16.wr W17 (Or.inl (List.mem_of_getElem? (i := 0) rfl))
  have N17 := Fr.snoc X17 N16 r1
  have f78 : FC Z h17 a0 "owedBefore" "J" (.long f_interest) := f37.same W17
  have go42 : Go p e below A0 (T17.setTop (mkF m 209 #[.val (.ref a0), .val (.long q1), .second, .val (.int (2 : Int32)), .val (.int (1 : Int32)), .val (.int (0 : Int32)), .val (.long v3), .second, .val (.long f_closing), .second, .val (.long r7_r), .second, .val (.long f_interest), .second, .val (.int (1 : Int32)), .val (.int (0 : Int32)), .val (.int v5), .val (.int v8), .unset, .val (.long v3), .second, .val (.int v5)] [(.long r7_r), (.ref a0)])) := by
    intro t k
    refine go41 t ?_
    refine st17 _ ?_
    show Steps p.tables e below (T17.setTop (mkF m 206 #[.val (.ref a0), .val (.long q1), .second, .val (.int (2 : Int32)), .val (.int (1 : Int32)), .val (.int (0 : Int32)), .val (.long v3), .second, .val (.long f_closing), .second, .val (.long r7_r), .second, .val (.long f_interest), .second, .val (.int (1 : Int32)), .val (.int (0 : Int32)), .val (.int v5), .val (.int v8), .unset, .val (.long v3), .second, .val (.int v5)] [])) _
    refine o_aloadN X17 hx hby d12_206 207 rfl rfl rfl ?_
    refine o_lload X17 hx hby d12_207 209 rfl rfl ?_
    exact k
  obtain ⟨T18, h18, X18, e18, W18, st18⟩ := putF X17 hx hZ hown (host := "") (Or.inl (hw _ (List.mem_of_getElem? (i := 97) rfl))) Via.refl e17 f62 f53 (Or.inl (hw _ (List.mem_of_getElem? (i := 98) rfl))) (hw _ (List.mem_of_getElem? (i := 40) rfl)) (ty := .long) (by decide) rfl rfl (g := (mkF m 209 #[.val (.ref a0), .val (.long q1), .second, .val (.int (2 : Int32)), .val (.int (1 : Int32)), .val (.int (0 : Int32)), .val (.long v3), .second, .val (.long f_closing), .second, .val (.long r7_r), .second, .val (.long f_interest), .second, .val (.int (1 : Int32)), .val (.int (0 : Int32)), .val (.int v5), .val (.int v8), .unset, .val (.long v3), .second, .val (.int v5)] [(.long r7_r), (.ref a0)])) rfl rfl (hb hby d12_209)
  have f79 : Exa Z h18 a0 "com/example/amortine/amortine/CentAmounts" := f53.wr W18
  have f80 : FC Z h18 a0 "balloon" "J" (.long f_balloon) := f54.other W18 (Or.inr (slot_ne (Or.inr wl49) (Or.inl wl98) (by decide) (t := .long) (t' := .long) (by decide) (by decide)))
  have f81 : FC Z h18 a0 "balloonScale" "I" (.int f_balloonScale) := f55.other W18 (Or.inr (slot_ne (Or.inr wl51) (Or.inl wl98) (by decide) (t := .int) (t' := .long) (by decide) (by decide)))
  have f82 : FC Z h18 a0 "closing" "J" (.long f_closing) := f56.other W18 (Or.inr (slot_ne (Or.inl wl53) (Or.inl wl98) (by decide) (t := .long) (t' := .long) (by decide) (by decide)))
  have f83 : FC Z h18 a0 "closingScale" "I" (.int f_closingScale) := f57.other W18 (Or.inr (slot_ne (Or.inl wl55) (Or.inl wl98) (by decide) (t := .int) (t' := .long) (by decide) (by decide)))
  have f84 : FC Z h18 a0 "perPeriodNumerator" "J" (.long f_perPeriodNumerator) := f58.other W18 (Or.inr (slot_ne (Or.inl wl76) (Or.inl wl98) (by decide) (t := .long) (t' := .long) (by decide) (by decide)))
  have f85 : FC Z h18 a0 "perPeriodDenominator" "J" (.long f_perPeriodDenominator) := f59.other W18 (Or.inr (slot_ne (Or.inl wl78) (Or.inl wl98) (by decide) (t := .long) (t' := .long) (by decide) (by decide)))
  have f86 : FC Z h18 a0 "reciprocal" "J" (.long f_reciprocal) := f60.other W18 (Or.inr (slot_ne (Or.inl wl86) (Or.inl wl98) (by decide) (t := .long) (t' := .long) (by decide) (by decide)))
  have f87 : FC Z h18 a0 "exactUpTo" "J" (.long f_exactUpTo) := f61.other W18 (Or.inr (slot_ne (Or.inl wl89) (Or.inl wl98) (by decide) (t := .long) (t' := .long) (by decide) (by decide)))
  have f88 : FC Z h18 a0 "payment" "J" (.long f_payment) := f63.other W18 (Or.inr (slot_ne (Or.inl wl123) (Or.inl wl98) (by decide) (t := .long) (t' := .long) (by decide) (by decide)))
  have f89 : FC Z h18 a0 "paymentScale" "I" (.int f_paymentScale) := f64.other W18 (Or.inr (slot_ne (Or.inl wl125) (Or.inl wl98) (by decide) (t := .int) (t' := .long) (by decide) (by decide)))
  have f90 : FC Z h18 a0 "principal" "J" (.long f_principal) := f65.other W18 (Or.inr (slot_ne (Or.inl wl127) (Or.inl wl98) (by decide) (t := .long) (t' := .long) (by decide) (by decide)))
  have f91 : FC Z h18 a0 "principalScale" "I" (.int f_principalScale) := f66.other W18 (Or.inr (slot_ne (Or.inl wl129) (Or.inl wl98) (by decide) (t := .int) (t' := .long) (by decide) (by decide)))
  have f92 : FC Z h18 a0 "madePaid" "J" (.long f_madePaid) := f67.other W18 (Or.inr (slot_ne (Or.inl wl131) (Or.inl wl98) (by decide) (t := .long) (t' := .long) (by decide) (by decide)))
  have f93 : FC Z h18 a0 "madeScale" "I" (.int f_madeScale) := f68.other W18 (Or.inr (slot_ne (Or.inl wl133) (Or.inl wl98) (by decide) (t := .int) (t' := .long) (by decide) (by decide)))
  have f94 : FC Z h18 a0 "raised" "J" (.long f_raised) := f69.other W18 (Or.inr (slot_ne (Or.inl wl135) (Or.inl wl98) (by decide) (t := .long) (t' := .long) (by decide) (by decide)))
  have f95 : FC Z h18 a0 "raisedScale" "I" (.int f_raisedScale) := f70.other W18 (Or.inr (slot_ne (Or.inl wl137) (Or.inl wl98) (by decide) (t := .int) (t' := .long) (by decide) (by decide)))
  have f96 : FC Z h18 a0 "settled" "Z" (.int f_settled) := f71.other W18 (Or.inr (slot_ne (Or.inl wl139) (Or.inl wl98) (by decide) (t := .boolean) (t' := .long) (by decide) (by decide)))
  have f97 : FC Z h18 a0 "tallied" "J" (.long f_tallied) := f72.other W18 (Or.inr (slot_ne (Or.inl wl161) (Or.inl wl98) (by decide) (t := .long) (t' := .long) (by decide) (by decide)))
  have f98 : FC Z h18 a0 "talliedScale" "I" (.int f_talliedScale) := f73.other W18 (Or.inr (slot_ne (Or.inl wl163) (Or.inl wl98) (by decide) (t := .int) (t' := .long) (by decide) (by decide)))
  have f99 : FC Z h18 a0 "indexation" "J" (.long f_indexation) := f74.other W18 (Or.inr (slot_ne (Or.inl wl165) (Or.inl wl98) (by decide) (t := .long) (t' := .long) (by decide) (by decide)))
  have f100 : FC Z h18 a0 "indexationScale" "I" (.int f_indexationScale) := f75.other W18 (Or.inr (slot_ne (Or.inl wl167) (Or.inl wl98) (by decide) (t := .int) (t' := .long) (by decide) (by decide)))
  have f101 : FC Z h18 a0 "opening" "J" (.long f_closing) := f76.other W18 (Or.inr (slot_ne (Or.inl wl96) (Or.inl wl98) (by decide) (t := .long) (t' := .long) (by decide) (by decide)))
  have f102 : FC Z h18 a0 "openingScale" "I" (.int f_closingScale) := f77.other W18 (Or.inr (slot_ne (Or.inl wl121) (Or.inl wl98) (by decide) (t := .int) (t' := .long) (by decide) (by decide)))
  have f103 : FC Z h18 a0 "owedBefore" "J" (.long f_interest) := f78.other W18 (Or.inr (slot_ne (Or.inl wl100) (Or.inl wl98) (by decide) (t := .long) (t' := .long) (by decide) (by decide)))
  have Zp18 : n0 ≤ h18.size := Nat.le_trans Zp17 (Keep.of_wr W18).1
  have K18 : Keep h0 h18 [a0] := K17.wr W18 (Or.inl (List.mem_of_getElem? (i := 0) rfl))
  have N18 := Fr.snoc X18 N17 r1
  have f104 : FC Z h18 a0 "interest" "J" (.long r7_r) := f62.same W18
  have go43 : Go p e below A0 (T18.setTop (mkF m 214 #[.val (.ref a0), .val (.long q1), .second, .val (.int (2 : Int32)), .val (.int (1 : Int32)), .val (.int (0 : Int32)), .val (.long v3), .second, .val (.long f_closing), .second, .val (.long r7_r), .second, .val (.long f_interest), .second, .val (.int (1 : Int32)), .val (.int (0 : Int32)), .val (.int v5), .val (.int v8), .unset, .val (.long v3), .second, .val (.int v5)] [(.long q1), (.ref a0)])) := by
    intro t k
    refine go42 t ?_
    refine st18 _ ?_
    show Steps p.tables e below (T18.setTop (mkF m 212 #[.val (.ref a0), .val (.long q1), .second, .val (.int (2 : Int32)), .val (.int (1 : Int32)), .val (.int (0 : Int32)), .val (.long v3), .second, .val (.long f_closing), .second, .val (.long r7_r), .second, .val (.long f_interest), .second, .val (.int (1 : Int32)), .val (.int (0 : Int32)), .val (.int v5), .val (.int v8), .unset, .val (.long v3), .second, .val (.int v5)] [])) _
    refine o_aloadN X18 hx hby d12_212 213 rfl rfl rfl ?_
    refine o_lloadN X18 hx hby d12_213 214 rfl rfl ?_
    exact k
  obtain ⟨T19, h19, X19, e19, W19, st19⟩ := putF X18 hx hZ hown (host := "") (Or.inl (hw _ (List.mem_of_getElem? (i := 122) rfl))) Via.refl e18 f88 f79 (Or.inl (hw _ (List.mem_of_getElem? (i := 123) rfl))) (hw _ (List.mem_of_getElem? (i := 40) rfl)) (ty := .long) (by decide) rfl rfl (g := (mkF m 214 #[.val (.ref a0), .val (.long q1), .second, .val (.int (2 : Int32)), .val (.int (1 : Int32)), .val (.int (0 : Int32)), .val (.long v3), .second, .val (.long f_closing), .second, .val (.long r7_r), .second, .val (.long f_interest), .second, .val (.int (1 : Int32)), .val (.int (0 : Int32)), .val (.int v5), .val (.int v8), .unset, .val (.long v3), .second, .val (.int v5)] [(.long q1), (.ref a0)])) rfl rfl (hb hby d12_214)
  have f105 : Exa Z h19 a0 "com/example/amortine/amortine/CentAmounts" := f79.wr W19
  have f106 : FC Z h19 a0 "balloon" "J" (.long f_balloon) := f80.other W19 (Or.inr (slot_ne (Or.inr wl49) (Or.inl wl123) (by decide) (t := .long) (t' := .long) (by decide) (by decide)))
  have f107 : FC Z h19 a0 "balloonScale" "I" (.int f_balloonScale) := f81.other W19 (Or.inr (slot_ne (Or.inr wl51) (Or.inl wl123) (by decide) (t := .int) (t' := .long) (by decide) (by decide)))
  have f108 : FC Z h19 a0 "closing" "J" (.long f_closing) := f82.other W19 (Or.inr (slot_ne (Or.inl wl53) (Or.inl wl123) (by decide) (t := .long) (t' := .long) (by decide) (by decide)))
  have f109 : FC Z h19 a0 "closingScale" "I" (.int f_closingScale) := f83.other W19 (Or.inr (slot_ne (Or.inl wl55) (Or.inl wl123) (by decide) (t := .int) (t' := .long) (by decide) (by decide)))
  have f110 : FC Z h19 a0 "perPeriodNumerator" "J" (.long f_perPeriodNumerator) := f84.other W19 (Or.inr (slot_ne (Or.inl wl76) (Or.inl wl123) (by decide) (t := .long) (t' := .long) (by decide) (by decide)))
  have f111 : FC Z h19 a0 "perPeriodDenominator" "J" (.long f_perPeriodDenominator) := f85.other W19 (Or.inr (slot_ne (Or.inl wl78) (Or.inl wl123) (by decide) (t := .long) (t' := .long) (by decide) (by decide)))
  have f112 : FC Z h19 a0 "reciprocal" "J" (.long f_reciprocal) := f86.other W19 (Or.inr (slot_ne (Or.inl wl86) (Or.inl wl123) (by decide) (t := .long) (t' := .long) (by decide) (by decide)))
  have f113 : FC Z h19 a0 "exactUpTo" "J" (.long f_exactUpTo) := f87.other W19 (Or.inr (slot_ne (Or.inl wl89) (Or.inl wl123) (by decide) (t := .long) (t' := .long) (by decide) (by decide)))
  have f114 : FC Z h19 a0 "paymentScale" "I" (.int f_paymentScale) := f89.other W19 (Or.inr (slot_ne (Or.inl wl125) (Or.inl wl123) (by decide) (t := .int) (t' := .long) (by decide) (by decide)))
  have f115 : FC Z h19 a0 "principal" "J" (.long f_principal) := f90.other W19 (Or.inr (slot_ne (Or.inl wl127) (Or.inl wl123) (by decide) (t := .long) (t' := .long) (by decide) (by decide)))
  have f116 : FC Z h19 a0 "principalScale" "I" (.int f_principalScale) := f91.other W19 (Or.inr (slot_ne (Or.inl wl129) (Or.inl wl123) (by decide) (t := .int) (t' := .long) (by decide) (by decide)))
  have f117 : FC Z h19 a0 "madePaid" "J" (.long f_madePaid) := f92.other W19 (Or.inr (slot_ne (Or.inl wl131) (Or.inl wl123) (by decide) (t := .long) (t' := .long) (by decide) (by decide)))
  have f118 : FC Z h19 a0 "madeScale" "I" (.int f_madeScale) := f93.other W19 (Or.inr (slot_ne (Or.inl wl133) (Or.inl wl123) (by decide) (t := .int) (t' := .long) (by decide) (by decide)))
  have f119 : FC Z h19 a0 "raised" "J" (.long f_raised) := f94.other W19 (Or.inr (slot_ne (Or.inl wl135) (Or.inl wl123) (by decide) (t := .long) (t' := .long) (by decide) (by decide)))
  have f120 : FC Z h19 a0 "raisedScale" "I" (.int f_raisedScale) := f95.other W19 (Or.inr (slot_ne (Or.inl wl137) (Or.inl wl123) (by decide) (t := .int) (t' := .long) (by decide) (by decide)))
  have f121 : FC Z h19 a0 "settled" "Z" (.int f_settled) := f96.other W19 (Or.inr (slot_ne (Or.inl wl139) (Or.inl wl123) (by decide) (t := .boolean) (t' := .long) (by decide) (by decide)))
  have f122 : FC Z h19 a0 "tallied" "J" (.long f_tallied) := f97.other W19 (Or.inr (slot_ne (Or.inl wl161) (Or.inl wl123) (by decide) (t := .long) (t' := .long) (by decide) (by decide)))
  have f123 : FC Z h19 a0 "talliedScale" "I" (.int f_talliedScale) := f98.other W19 (Or.inr (slot_ne (Or.inl wl163) (Or.inl wl123) (by decide) (t := .int) (t' := .long) (by decide) (by decide)))
  have f124 : FC Z h19 a0 "indexation" "J" (.long f_indexation) := f99.other W19 (Or.inr (slot_ne (Or.inl wl165) (Or.inl wl123) (by decide) (t := .long) (t' := .long) (by decide) (by decide)))
  have f125 : FC Z h19 a0 "indexationScale" "I" (.int f_indexationScale) := f100.other W19 (Or.inr (slot_ne (Or.inl wl167) (Or.inl wl123) (by decide) (t := .int) (t' := .long) (by decide) (by decide)))
  have f126 : FC Z h19 a0 "opening" "J" (.long f_closing) := f101.other W19 (Or.inr (slot_ne (Or.inl wl96) (Or.inl wl123) (by decide) (t := .long) (t' := .long) (by decide) (by decide)))
  have f127 : FC Z h19 a0 "openingScale" "I" (.int f_closingScale) := f102.other W19 (Or.inr (slot_ne (Or.inl wl121) (Or.inl wl123) (by decide) (t := .int) (t' := .long) (by decide) (by decide)))
  have f128 : FC Z h19 a0 "owedBefore" "J" (.long f_interest) := f103.other W19 (Or.inr (slot_ne (Or.inl wl100) (Or.inl wl123) (by decide) (t := .long) (t' := .long) (by decide) (by decide)))
  have f129 : FC Z h19 a0 "interest" "J" (.long r7_r) := f104.other W19 (Or.inr (slot_ne (Or.inl wl98) (Or.inl wl123) (by decide) (t := .long) (t' := .long) (by decide) (by decide)))
  have Zp19 : n0 ≤ h19.size := Nat.le_trans Zp18 (Keep.of_wr W19).1
  have K19 : Keep h0 h19 [a0] := K18.wr W19 (Or.inl (List.mem_of_getElem? (i := 0) rfl))
  have N19 := Fr.snoc X19 N18 r1
  have f130 : FC Z h19 a0 "payment" "J" (.long q1) := f88.same W19
  have go44 : Go p e below A0 (T19.setTop (mkF m 219 #[.val (.ref a0), .val (.long q1), .second, .val (.int (2 : Int32)), .val (.int (1 : Int32)), .val (.int (0 : Int32)), .val (.long v3), .second, .val (.long f_closing), .second, .val (.long r7_r), .second, .val (.long f_interest), .second, .val (.int (1 : Int32)), .val (.int (0 : Int32)), .val (.int v5), .val (.int v8), .unset, .val (.long v3), .second, .val (.int v5)] [(.int (2 : Int32)), (.ref a0)])) := by
    intro t k
    refine go43 t ?_
    refine st19 _ ?_
    show Steps p.tables e below (T19.setTop (mkF m 217 #[.val (.ref a0), .val (.long q1), .second, .val (.int (2 : Int32)), .val (.int (1 : Int32)), .val (.int (0 : Int32)), .val (.long v3), .second, .val (.long f_closing), .second, .val (.long r7_r), .second, .val (.long f_interest), .second, .val (.int (1 : Int32)), .val (.int (0 : Int32)), .val (.int v5), .val (.int v8), .unset, .val (.long v3), .second, .val (.int v5)] [])) _
    refine o_aloadN X19 hx hby d12_217 218 rfl rfl rfl ?_
    refine o_iloadN X19 hx hby d12_218 219 rfl rfl ?_
    exact k
  obtain ⟨T20, h20, X20, e20, W20, st20⟩ := putF X19 hx hZ hown (host := "") (Or.inl (hw _ (List.mem_of_getElem? (i := 124) rfl))) Via.refl e19 f114 f105 (Or.inl (hw _ (List.mem_of_getElem? (i := 125) rfl))) (hw _ (List.mem_of_getElem? (i := 40) rfl)) (ty := .int) (by decide) rfl rfl (g := (mkF m 219 #[.val (.ref a0), .val (.long q1), .second, .val (.int (2 : Int32)), .val (.int (1 : Int32)), .val (.int (0 : Int32)), .val (.long v3), .second, .val (.long f_closing), .second, .val (.long r7_r), .second, .val (.long f_interest), .second, .val (.int (1 : Int32)), .val (.int (0 : Int32)), .val (.int v5), .val (.int v8), .unset, .val (.long v3), .second, .val (.int v5)] [(.int (2 : Int32)), (.ref a0)])) rfl rfl (hb hby d12_219)
  have f131 : Exa Z h20 a0 "com/example/amortine/amortine/CentAmounts" := f105.wr W20
  have f132 : FC Z h20 a0 "balloon" "J" (.long f_balloon) := f106.other W20 (Or.inr (slot_ne (Or.inr wl49) (Or.inl wl125) (by decide) (t := .long) (t' := .int) (by decide) (by decide)))
  have f133 : FC Z h20 a0 "balloonScale" "I" (.int f_balloonScale) := f107.other W20 (Or.inr (slot_ne (Or.inr wl51) (Or.inl wl125) (by decide) (t := .int) (t' := .int) (by decide) (by decide)))
  have f134 : FC Z h20 a0 "closing" "J" (.long f_closing) := f108.other W20 (Or.inr (slot_ne (Or.inl wl53) (Or.inl wl125) (by decide) (t := .long) (t' := .int) (by decide) (by decide)))
  have f135 : FC Z h20 a0 "closingScale" "I" (.int f_closingScale) := f109.other W20 (Or.inr (slot_ne (Or.inl wl55) (Or.inl wl125) (by decide) (t := .int) (t' := .int) (by decide) (by decide)))
  have f136 : FC Z h20 a0 "perPeriodNumerator" "J" (.long f_perPeriodNumerator) := f110.other W20 (Or.inr (slot_ne (Or.inl wl76) (Or.inl wl125) (by decide) (t := .long) (t' := .int) (by decide) (by decide)))
  have f137 : FC Z h20 a0 "perPeriodDenominator" "J" (.long f_perPeriodDenominator) := f111.other W20 (Or.inr (slot_ne (Or.inl wl78) (Or.inl wl125) (by decide) (t := .long) (t' := .int) (by decide) (by decide)))
  have f138 : FC Z h20 a0 "reciprocal" "J" (.long f_reciprocal) := f112.other W20 (Or.inr (slot_ne (Or.inl wl86) (Or.inl wl125) (by decide) (t := .long) (t' := .int) (by decide) (by decide)))
  have f139 : FC Z h20 a0 "exactUpTo" "J" (.long f_exactUpTo) := f113.other W20 (Or.inr (slot_ne (Or.inl wl89) (Or.inl wl125) (by decide) (t := .long) (t' := .int) (by decide) (by decide)))
  have f140 : FC Z h20 a0 "principal" "J" (.long f_principal) := f115.other W20 (Or.inr (slot_ne (Or.inl wl127) (Or.inl wl125) (by decide) (t := .long) (t' := .int) (by decide) (by decide)))
  have f141 : FC Z h20 a0 "principalScale" "I" (.int f_principalScale) := f116.other W20 (Or.inr (slot_ne (Or.inl wl129) (Or.inl wl125) (by decide) (t := .int) (t' := .int) (by decide) (by decide)))
  have f142 : FC Z h20 a0 "madePaid" "J" (.long f_madePaid) := f117.other W20 (Or.inr (slot_ne (Or.inl wl131) (Or.inl wl125) (by decide) (t := .long) (t' := .int) (by decide) (by decide)))
  have f143 : FC Z h20 a0 "madeScale" "I" (.int f_madeScale) := f118.other W20 (Or.inr (slot_ne (Or.inl wl133) (Or.inl wl125) (by decide) (t := .int) (t' := .int) (by decide) (by decide)))
  have f144 : FC Z h20 a0 "raised" "J" (.long f_raised) := f119.other W20 (Or.inr (slot_ne (Or.inl wl135) (Or.inl wl125) (by decide) (t := .long) (t' := .int) (by decide) (by decide)))
  have f145 : FC Z h20 a0 "raisedScale" "I" (.int f_raisedScale) := f120.other W20 (Or.inr (slot_ne (Or.inl wl137) (Or.inl wl125) (by decide) (t := .int) (t' := .int) (by decide) (by decide)))
  have f146 : FC Z h20 a0 "settled" "Z" (.int f_settled) := f121.other W20 (Or.inr (slot_ne (Or.inl wl139) (Or.inl wl125) (by decide) (t := .boolean) (t' := .int) (by decide) (by decide)))
  have f147 : FC Z h20 a0 "tallied" "J" (.long f_tallied) := f122.other W20 (Or.inr (slot_ne (Or.inl wl161) (Or.inl wl125) (by decide) (t := .long) (t' := .int) (by decide) (by decide)))
  have f148 : FC Z h20 a0 "talliedScale" "I" (.int f_talliedScale) := f123.other W20 (Or.inr (slot_ne (Or.inl wl163) (Or.inl wl125) (by decide) (t := .int) (t' := .int) (by decide) (by decide)))
  have f149 : FC Z h20 a0 "indexation" "J" (.long f_indexation) := f124.other W20 (Or.inr (slot_ne (Or.inl wl165) (Or.inl wl125) (by decide) (t := .long) (t' := .int) (by decide) (by decide)))
  have f150 : FC Z h20 a0 "indexationScale" "I" (.int f_indexationScale) := f125.other W20 (Or.inr (slot_ne (Or.inl wl167) (Or.inl wl125) (by decide) (t := .int) (t' := .int) (by decide) (by decide)))
  have f151 : FC Z h20 a0 "opening" "J" (.long f_closing) := f126.other W20 (Or.inr (slot_ne (Or.inl wl96) (Or.inl wl125) (by decide) (t := .long) (t' := .int) (by decide) (by decide)))
  have f152 : FC Z h20 a0 "openingScale" "I" (.int f_closingScale) := f127.other W20 (Or.inr (slot_ne (Or.inl wl121) (Or.inl wl125) (by decide) (t := .int) (t' := .int) (by decide) (by decide)))
  have f153 : FC Z h20 a0 "owedBefore" "J" (.long f_interest) := f128.other W20 (Or.inr (slot_ne (Or.inl wl100) (Or.inl wl125) (by decide) (t := .long) (t' := .int) (by decide) (by decide)))
  have f154 : FC Z h20 a0 "interest" "J" (.long r7_r) := f129.other W20 (Or.inr (slot_ne (Or.inl wl98) (Or.inl wl125) (by decide) (t := .long) (t' := .int) (by decide) (by decide)))
  have f155 : FC Z h20 a0 "payment" "J" (.long q1) := f130.other W20 (Or.inr (slot_ne (Or.inl wl123) (Or.inl wl125) (by decide) (t := .long) (t' := .int) (by decide) (by decide)))
  have Zp20 : n0 ≤ h20.size := Nat.le_trans Zp19 (Keep.of_wr W20).1
  have K20 : Keep h0 h20 [a0] := K19.wr W20 (Or.inl (List.mem_of_getElem? (i := 0) rfl))
  have N20 := Fr.snoc X20 N19 r1
  have f156 : FC Z h20 a0 "paymentScale" "I" (.int (2 : Int32)) := f114.same W20
  have go45 : Go p e below A0 (T20.setTop (mkF m 227 #[.val (.ref a0), .val (.long q1), .second, .val (.int (2 : Int32)), .val (.int (1 : Int32)), .val (.int (0 : Int32)), .val (.long v3), .second, .val (.long f_closing), .second, .val (.long r7_r), .second, .val (.long f_interest), .second, .val (.int (1 : Int32)), .val (.int (0 : Int32)), .val (.int v5), .val (.int v8), .unset, .val (.long v3), .second, .val (.int v5)] [(.long (q1 - r7_r)), (.ref a0)])) := by
    intro t k
    refine go44 t ?_
    refine st20 _ ?_
    show Steps p.tables e below (T20.setTop (mkF m 222 #[.val (.ref a0), .val (.long q1), .second, .val (.int (2 : Int32)), .val (.int (1 : Int32)), .val (.int (0 : Int32)), .val (.long v3), .second, .val (.long f_closing), .second, .val (.long r7_r), .second, .val (.long f_interest), .second, .val (.int (1 : Int32)), .val (.int (0 : Int32)), .val (.int v5), .val (.int v8), .unset, .val (.long v3), .second, .val (.int v5)] [])) _
    refine o_aloadN X20 hx hby d12_222 223 rfl rfl rfl ?_
    refine o_lloadN X20 hx hby d12_223 224 rfl rfl ?_
    refine o_lload X20 hx hby d12_224 226 rfl rfl ?_
    refine o_lsub X20 hx hby d12_226 227 rfl ?_
    exact k
  obtain ⟨v9, hv9, go46⟩ : ∃ v9 : Int64, v9 = (q1 - r7_r) ∧ Go p e below A0 (T20.setTop (mkF m 227 #[.val (.ref a0), .val (.long q1), .second, .val (.int (2 : Int32)), .val (.int (1 : Int32)), .val (.int (0 : Int32)), .val (.long v3), .second, .val (.long f_closing), .second, .val (.long r7_r), .second, .val (.long f_interest), .second, .val (.int (1 : Int32)), .val (.int (0 : Int32)), .val (.int v5), .val (.int v8), .unset, .val (.long v3), .second, .val (.int v5)] [(.long v9), (.ref a0)])) := ⟨_, rfl, go45⟩
  obtain ⟨T21, h21, X21, e21, W21, st21⟩ := putF X20 hx hZ hown (host := "") (Or.inl (hw _ (List.mem_of_getElem? (i := 126) rfl))) Via.refl e20 f140 f131 (Or.inl (hw _ (List.mem_of_getElem? (i := 127) rfl))) (hw _ (List.mem_of_getElem? (i := 40) rfl)) (ty := .long) (by decide) rfl rfl (g := (mkF m 227 #[.val (.ref a0), .val (.long q1), .second, .val (.int (2 : Int32)), .val (.int (1 : Int32)), .val (.int (0 : Int32)), .val (.long v3), .second, .val (.long f_closing), .second, .val (.long r7_r), .second, .val (.long f_interest), .second, .val (.int (1 : Int32)), .val (.int (0 : Int32)), .val (.int v5), .val (.int v8), .unset, .val (.long v3), .second, .val (.int v5)] [(.long v9), (.ref a0)])) rfl rfl (hb hby d12_227)
  have f157 : Exa Z h21 a0 "com/example/amortine/amortine/CentAmounts" := f131.wr W21
  have f158 : FC Z h21 a0 "balloon" "J" (.long f_balloon) := f132.other W21 (Or.inr (slot_ne (Or.inr wl49) (Or.inl wl127) (by decide) (t := .long) (t' := .long) (by decide) (by decide)))
  have f159 : FC Z h21 a0 "balloonScale" "I" (.int f_balloonScale) := f133.other W21 (Or.inr (slot_ne (Or.inr wl51) (Or.inl wl127) (by decide) (t := .int) (t' := .long) (by decide) (by decide)))
  have f160 : FC Z h21 a0 "closing" "J" (.long f_closing) := f134.other W21 (Or.inr (slot_ne (Or.inl wl53) (Or.inl wl127) (by decide) (t := .long) (t' := .long) (by decide) (by decide)))
  have f161 : FC Z h21 a0 "closingScale" "I" (.int f_closingScale) := f135.other W21 (Or.inr (slot_ne (Or.inl wl55) (Or.inl wl127) (by decide) (t := .int) (t' := .long) (by decide) (by decide)))
  have f162 : FC Z h21 a0 "perPeriodNumerator" "J" (.long f_perPeriodNumerator) := f136.other W21 (Or.inr (slot_ne (Or.inl wl76) (Or.inl wl127) (by decide) (t := .long) (t' := .long) (by decide) (by decide)))
  have f163 : FC Z h21 a0 "perPeriodDenominator" "J" (.long f_perPeriodDenominator) := f137.other W21 (Or.inr (slot_ne (Or.inl wl78) (Or.inl wl127) (by decide) (t := .long) (t' := .long) (by decide) (by decide)))
  have f164 : FC Z h21 a0 "reciprocal" "J" (.long f_reciprocal) := f138.other W21 (Or.inr (slot_ne (Or.inl wl86) (Or.inl wl127) (by decide) (t := .long) (t' := .long) (by decide) (by decide)))
  have f165 : FC Z h21 a0 "exactUpTo" "J" (.long f_exactUpTo) := f139.other W21 (Or.inr (slot_ne (Or.inl wl89) (Or.inl wl127) (by decide) (t := .long) (t' := .long) (by decide) (by decide)))
  have f166 : FC Z h21 a0 "principalScale" "I" (.int f_principalScale) := f141.other W21 (Or.inr (slot_ne (Or.inl wl129) (Or.inl wl127) (by decide) (t := .int) (t' := .long) (by decide) (by decide)))
  have f167 : FC Z h21 a0 "madePaid" "J" (.long f_madePaid) := f142.other W21 (Or.inr (slot_ne (Or.inl wl131) (Or.inl wl127) (by decide) (t := .long) (t' := .long) (by decide) (by decide)))
  have f168 : FC Z h21 a0 "madeScale" "I" (.int f_madeScale) := f143.other W21 (Or.inr (slot_ne (Or.inl wl133) (Or.inl wl127) (by decide) (t := .int) (t' := .long) (by decide) (by decide)))
  have f169 : FC Z h21 a0 "raised" "J" (.long f_raised) := f144.other W21 (Or.inr (slot_ne (Or.inl wl135) (Or.inl wl127) (by decide) (t := .long) (t' := .long) (by decide) (by decide)))
  have f170 : FC Z h21 a0 "raisedScale" "I" (.int f_raisedScale) := f145.other W21 (Or.inr (slot_ne (Or.inl wl137) (Or.inl wl127) (by decide) (t := .int) (t' := .long) (by decide) (by decide)))
  have f171 : FC Z h21 a0 "settled" "Z" (.int f_settled) := f146.other W21 (Or.inr (slot_ne (Or.inl wl139) (Or.inl wl127) (by decide) (t := .boolean) (t' := .long) (by decide) (by decide)))
  have f172 : FC Z h21 a0 "tallied" "J" (.long f_tallied) := f147.other W21 (Or.inr (slot_ne (Or.inl wl161) (Or.inl wl127) (by decide) (t := .long) (t' := .long) (by decide) (by decide)))
  have f173 : FC Z h21 a0 "talliedScale" "I" (.int f_talliedScale) := f148.other W21 (Or.inr (slot_ne (Or.inl wl163) (Or.inl wl127) (by decide) (t := .int) (t' := .long) (by decide) (by decide)))
  have f174 : FC Z h21 a0 "indexation" "J" (.long f_indexation) := f149.other W21 (Or.inr (slot_ne (Or.inl wl165) (Or.inl wl127) (by decide) (t := .long) (t' := .long) (by decide) (by decide)))
  have f175 : FC Z h21 a0 "indexationScale" "I" (.int f_indexationScale) := f150.other W21 (Or.inr (slot_ne (Or.inl wl167) (Or.inl wl127) (by decide) (t := .int) (t' := .long) (by decide) (by decide)))
  have f176 : FC Z h21 a0 "opening" "J" (.long f_closing) := f151.other W21 (Or.inr (slot_ne (Or.inl wl96) (Or.inl wl127) (by decide) (t := .long) (t' := .long) (by decide) (by decide)))
  have f177 : FC Z h21 a0 "openingScale" "I" (.int f_closingScale) := f152.other W21 (Or.inr (slot_ne (Or.inl wl121) (Or.inl wl127) (by decide) (t := .int) (t' := .long) (by decide) (by decide)))
  have f178 : FC Z h21 a0 "owedBefore" "J" (.long f_interest) := f153.other W21 (Or.inr (slot_ne (Or.inl wl100) (Or.inl wl127) (by decide) (t := .long) (t' := .long) (by decide) (by decide)))
  have f179 : FC Z h21 a0 "interest" "J" (.long r7_r) := f154.other W21 (Or.inr (slot_ne (Or.inl wl98) (Or.inl wl127) (by decide) (t := .long) (t' := .long) (by decide) (by decide)))
  have f180 : FC Z h21 a0 "payment" "J" (.long q1) := f155.other W21 (Or.inr (slot_ne (Or.inl wl123) (Or.inl wl127) (by decide) (t := .long) (t' := .long) (by decide) (by decide)))
  have f181 : FC Z h21 a0 "paymentScale" "I" (.int (2 : Int32)) := f156.other W21 (Or.inr (slot_ne (Or.inl wl125) (Or.inl wl127) (by decide) (t := .int) (t' := .long) (by decide) (by decide)))
  have Zp21 : n0 ≤ h21.size := Nat.le_trans Zp20 (Keep.of_wr W21).1
  have K21 : Keep h0 h21 [a0] := K20.wr W21 (Or.inl (List.mem_of_getElem? (i := 0) rfl))
  have N21 := Fr.snoc X21 N20 r1
  have f182 : FC Z h21 a0 "principal" "J" (.long v9) := f140.same W21
  have go47 : Go p e below A0 (T21.setTop (mkF m 233 #[.val (.ref a0), .val (.long q1), .second, .val (.int (2 : Int32)), .val (.int (1 : Int32)), .val (.int (0 : Int32)), .val (.long v3), .second, .val (.long f_closing), .second, .val (.long r7_r), .second, .val (.long f_interest), .second, .val (.int (1 : Int32)), .val (.int (0 : Int32)), .val (.int v5), .val (.int v8), .unset, .val (.long v3), .second, .val (.int v5)] [(.int (2 : Int32)), (.int (2 : Int32)), (.ref a0)])) := by
    intro t k
    refine go46 t ?_
    refine st21 _ ?_
    show Steps p.tables e below (T21.setTop (mkF m 230 #[.val (.ref a0), .val (.long q1), .second, .val (.int (2 : Int32)), .val (.int (1 : Int32)), .val (.int (0 : Int32)), .val (.long v3), .second, .val (.long f_closing), .second, .val (.long r7_r), .second, .val (.long f_interest), .second, .val (.int (1 : Int32)), .val (.int (0 : Int32)), .val (.int v5), .val (.int v8), .unset, .val (.long v3), .second, .val (.int v5)] [])) _
    refine o_aloadN X21 hx hby d12_230 231 rfl rfl rfl ?_
    refine o_iloadN X21 hx hby d12_231 232 rfl rfl ?_
    refine o_iconst X21 hx hby d12_232 233 rfl (v := (2 : Int32)) rfl ?_
    exact k
  obtain ⟨_, _, ⟨T22, L22, k22, n22⟩, -, X22, ⟨Lc22, hQ22, l22, y22, z22⟩, st22⟩ := Jvm.LawKit.callS X21 hx (y := (⟨"java/lang/Math", "max", "(II)I"⟩ : MethodName)) hown (mvT hZ (hw _ (List.mem_of_getElem? (i := 117) rfl))) (mvT hZ (hw _ (List.mem_of_getElem? (i := 118) rfl))) (mvT hZ (hw _ (List.mem_of_getElem? (i := 110) rfl))) (mvT hZ (hw _ (List.mem_of_getElem? (i := 119) rfl))) (by decide) (backOf (W := 1) (rm17 l Z aw hw [] (2 : Int32) (2 : Int32) h21 n0 Zp21) hZ (hw _ (List.mem_of_getElem? (i := 119) rfl)) (hw _ (List.mem_of_getElem? (i := 110) rfl)) (by decide) (by decide)) (g := (mkF m 233 #[.val (.ref a0), .val (.long q1), .second, .val (.int (2 : Int32)), .val (.int (1 : Int32)), .val (.int (0 : Int32)), .val (.long v3), .second, .val (.long f_closing), .second, .val (.long r7_r), .second, .val (.long f_interest), .second, .val (.int (1 : Int32)), .val (.int (0 : Int32)), .val (.int v5), .val (.int v8), .unset, .val (.long v3), .second, .val (.int v5)] [(.int (2 : Int32)), (.int (2 : Int32)), (.ref a0)])) rfl (by rw [hml]; rfl) (argsL := [(.int (2 : Int32)), (.int (2 : Int32))]) (rest := [(.ref a0)]) (lenOf pd_14 rfl) rfl (by show 2 * 0 + _ ≤ _; exact Nat.le_of_eq rfl) (hb hby d12_233) (fun _ _ => ⟨rfl, e21, (by decide : 0 + 0 ≤ _), (by decide : 0 + 0 ≤ _)⟩)
  dsimp only [Pt.U, Pt.locs, Pt.cells, Pt.slots] at X22 l22 y22 z22 st22 hQ22
  obtain rfl : k22 = 0 := y22
  obtain rfl : n22 = 0 := z22
  obtain ⟨rfl, N22q, e22⟩ := hQ22
  have N22 : Fr n0 L22 := by rw [l22]; exact Fr.app N21 N22q
  have go48 : Go p e below A0 (T22.setTop (mkF m 236 #[.val (.ref a0), .val (.long q1), .second, .val (.int (2 : Int32)), .val (.int (1 : Int32)), .val (.int (0 : Int32)), .val (.long v3), .second, .val (.long f_closing), .second, .val (.long r7_r), .second, .val (.long f_interest), .second, .val (.int (1 : Int32)), .val (.int (0 : Int32)), .val (.int v5), .val (.int v8), .unset, .val (.long v3), .second, .val (.int v5)] [(.int (Fmax (2 : Int32) (2 : Int32))), (.ref a0)])) := by
    intro t k
    refine go47 t ?_
    refine st22 _ ?_
    show Steps p.tables e below (T22.setTop (mkF m 236 #[.val (.ref a0), .val (.long q1), .second, .val (.int (2 : Int32)), .val (.int (1 : Int32)), .val (.int (0 : Int32)), .val (.long v3), .second, .val (.long f_closing), .second, .val (.long r7_r), .second, .val (.long f_interest), .second, .val (.int (1 : Int32)), .val (.int (0 : Int32)), .val (.int v5), .val (.int v8), .unset, .val (.long v3), .second, .val (.int v5)] [(.int (Fmax (2 : Int32) (2 : Int32))), (.ref a0)])) _
    exact k
  obtain ⟨v10, hv10, go49⟩ : ∃ v10 : Int32, v10 = (Fmax (2 : Int32) (2 : Int32)) ∧ Go p e below A0 (T22.setTop (mkF m 236 #[.val (.ref a0), .val (.long q1), .second, .val (.int (2 : Int32)), .val (.int (1 : Int32)), .val (.int (0 : Int32)), .val (.long v3), .second, .val (.long f_closing), .second, .val (.long r7_r), .second, .val (.long f_interest), .second, .val (.int (1 : Int32)), .val (.int (0 : Int32)), .val (.int v5), .val (.int v8), .unset, .val (.long v3), .second, .val (.int v5)] [(.int v10), (.ref a0)])) := ⟨_, rfl, go48⟩
  obtain ⟨T23, h23, X23, e23, W23, st23⟩ := putF X22 hx hZ hown (host := "") (Or.inl (hw _ (List.mem_of_getElem? (i := 128) rfl))) Via.refl e22 f166 f157 (Or.inl (hw _ (List.mem_of_getElem? (i := 129) rfl))) (hw _ (List.mem_of_getElem? (i := 40) rfl)) (ty := .int) (by decide) rfl rfl (g := (mkF m 236 #[.val (.ref a0), .val (.long q1), .second, .val (.int (2 : Int32)), .val (.int (1 : Int32)), .val (.int (0 : Int32)), .val (.long v3), .second, .val (.long f_closing), .second, .val (.long r7_r), .second, .val (.long f_interest), .second, .val (.int (1 : Int32)), .val (.int (0 : Int32)), .val (.int v5), .val (.int v8), .unset, .val (.long v3), .second, .val (.int v5)] [(.int v10), (.ref a0)])) rfl rfl (hb hby d12_236)
  have f183 : Exa Z h23 a0 "com/example/amortine/amortine/CentAmounts" := f157.wr W23
  have f184 : FC Z h23 a0 "balloon" "J" (.long f_balloon) := f158.other W23 (Or.inr (slot_ne (Or.inr wl49) (Or.inl wl129) (by decide) (t := .long) (t' := .int) (by decide) (by decide)))
  have f185 : FC Z h23 a0 "balloonScale" "I" (.int f_balloonScale) := f159.other W23 (Or.inr (slot_ne (Or.inr wl51) (Or.inl wl129) (by decide) (t := .int) (t' := .int) (by decide) (by decide)))
  have f186 : FC Z h23 a0 "closing" "J" (.long f_closing) := f160.other W23 (Or.inr (slot_ne (Or.inl wl53) (Or.inl wl129) (by decide) (t := .long) (t' := .int) (by decide) (by decide)))
  have f187 : FC Z h23 a0 "closingScale" "I" (.int f_closingScale) := f161.other W23 (Or.inr (slot_ne (Or.inl wl55) (Or.inl wl129) (by decide) (t := .int) (t' := .int) (by decide) (by decide)))
  have f188 : FC Z h23 a0 "perPeriodNumerator" "J" (.long f_perPeriodNumerator) := f162.other W23 (Or.inr (slot_ne (Or.inl wl76) (Or.inl wl129) (by decide) (t := .long) (t' := .int) (by decide) (by decide)))
  have f189 : FC Z h23 a0 "perPeriodDenominator" "J" (.long f_perPeriodDenominator) := f163.other W23 (Or.inr (slot_ne (Or.inl wl78) (Or.inl wl129) (by decide) (t := .long) (t' := .int) (by decide) (by decide)))
  have f190 : FC Z h23 a0 "reciprocal" "J" (.long f_reciprocal) := f164.other W23 (Or.inr (slot_ne (Or.inl wl86) (Or.inl wl129) (by decide) (t := .long) (t' := .int) (by decide) (by decide)))
  have f191 : FC Z h23 a0 "exactUpTo" "J" (.long f_exactUpTo) := f165.other W23 (Or.inr (slot_ne (Or.inl wl89) (Or.inl wl129) (by decide) (t := .long) (t' := .int) (by decide) (by decide)))
  have f192 : FC Z h23 a0 "madePaid" "J" (.long f_madePaid) := f167.other W23 (Or.inr (slot_ne (Or.inl wl131) (Or.inl wl129) (by decide) (t := .long) (t' := .int) (by decide) (by decide)))
  have f193 : FC Z h23 a0 "madeScale" "I" (.int f_madeScale) := f168.other W23 (Or.inr (slot_ne (Or.inl wl133) (Or.inl wl129) (by decide) (t := .int) (t' := .int) (by decide) (by decide)))
  have f194 : FC Z h23 a0 "raised" "J" (.long f_raised) := f169.other W23 (Or.inr (slot_ne (Or.inl wl135) (Or.inl wl129) (by decide) (t := .long) (t' := .int) (by decide) (by decide)))
  have f195 : FC Z h23 a0 "raisedScale" "I" (.int f_raisedScale) := f170.other W23 (Or.inr (slot_ne (Or.inl wl137) (Or.inl wl129) (by decide) (t := .int) (t' := .int) (by decide) (by decide)))
  have f196 : FC Z h23 a0 "settled" "Z" (.int f_settled) := f171.other W23 (Or.inr (slot_ne (Or.inl wl139) (Or.inl wl129) (by decide) (t := .boolean) (t' := .int) (by decide) (by decide)))
  have f197 : FC Z h23 a0 "tallied" "J" (.long f_tallied) := f172.other W23 (Or.inr (slot_ne (Or.inl wl161) (Or.inl wl129) (by decide) (t := .long) (t' := .int) (by decide) (by decide)))
  have f198 : FC Z h23 a0 "talliedScale" "I" (.int f_talliedScale) := f173.other W23 (Or.inr (slot_ne (Or.inl wl163) (Or.inl wl129) (by decide) (t := .int) (t' := .int) (by decide) (by decide)))
  have f199 : FC Z h23 a0 "indexation" "J" (.long f_indexation) := f174.other W23 (Or.inr (slot_ne (Or.inl wl165) (Or.inl wl129) (by decide) (t := .long) (t' := .int) (by decide) (by decide)))
  have f200 : FC Z h23 a0 "indexationScale" "I" (.int f_indexationScale) := f175.other W23 (Or.inr (slot_ne (Or.inl wl167) (Or.inl wl129) (by decide) (t := .int) (t' := .int) (by decide) (by decide)))
  have f201 : FC Z h23 a0 "opening" "J" (.long f_closing) := f176.other W23 (Or.inr (slot_ne (Or.inl wl96) (Or.inl wl129) (by decide) (t := .long) (t' := .int) (by decide) (by decide)))
  have f202 : FC Z h23 a0 "openingScale" "I" (.int f_closingScale) := f177.other W23 (Or.inr (slot_ne (Or.inl wl121) (Or.inl wl129) (by decide) (t := .int) (t' := .int) (by decide) (by decide)))
  have f203 : FC Z h23 a0 "owedBefore" "J" (.long f_interest) := f178.other W23 (Or.inr (slot_ne (Or.inl wl100) (Or.inl wl129) (by decide) (t := .long) (t' := .int) (by decide) (by decide)))
  have f204 : FC Z h23 a0 "interest" "J" (.long r7_r) := f179.other W23 (Or.inr (slot_ne (Or.inl wl98) (Or.inl wl129) (by decide) (t := .long) (t' := .int) (by decide) (by decide)))
  have f205 : FC Z h23 a0 "payment" "J" (.long q1) := f180.other W23 (Or.inr (slot_ne (Or.inl wl123) (Or.inl wl129) (by decide) (t := .long) (t' := .int) (by decide) (by decide)))
  have f206 : FC Z h23 a0 "paymentScale" "I" (.int (2 : Int32)) := f181.other W23 (Or.inr (slot_ne (Or.inl wl125) (Or.inl wl129) (by decide) (t := .int) (t' := .int) (by decide) (by decide)))
  have f207 : FC Z h23 a0 "principal" "J" (.long v9) := f182.other W23 (Or.inr (slot_ne (Or.inl wl127) (Or.inl wl129) (by decide) (t := .long) (t' := .int) (by decide) (by decide)))
  have Zp23 : n0 ≤ h23.size := Nat.le_trans Zp21 (Keep.of_wr W23).1
  have K23 : Keep h0 h23 [a0] := K21.wr W23 (Or.inl (List.mem_of_getElem? (i := 0) rfl))
  have N23 := Fr.snoc X23 N22 r1
  have f208 : FC Z h23 a0 "principalScale" "I" (.int v10) := f166.same W23
  have go50 : Go p e below A0 (T23.setTop (mkF m 242 #[.val (.ref a0), .val (.long q1), .second, .val (.int (2 : Int32)), .val (.int (1 : Int32)), .val (.int (0 : Int32)), .val (.long v3), .second, .val (.long f_closing), .second, .val (.long r7_r), .second, .val (.long f_interest), .second, .val (.int (1 : Int32)), .val (.int (0 : Int32)), .val (.int v5), .val (.int v8), .unset, .val (.long v3), .second, .val (.int v5)] [(.long v3), (.ref a0)])) := by
    intro t k
    refine go49 t ?_
    refine st23 _ ?_
    show Steps p.tables e below (T23.setTop (mkF m 239 #[.val (.ref a0), .val (.long q1), .second, .val (.int (2 : Int32)), .val (.int (1 : Int32)), .val (.int (0 : Int32)), .val (.long v3), .second, .val (.long f_closing), .second, .val (.long r7_r), .second, .val (.long f_interest), .second, .val (.int (1 : Int32)), .val (.int (0 : Int32)), .val (.int v5), .val (.int v8), .unset, .val (.long v3), .second, .val (.int v5)] [])) _
    refine o_aloadN X23 hx hby d12_239 240 rfl rfl rfl ?_
    refine o_lload X23 hx hby d12_240 242 rfl rfl ?_
    exact k
  obtain ⟨T24, h24, X24, e24, W24, st24⟩ := putF X23 hx hZ hown (host := "") (Or.inl (hw _ (List.mem_of_getElem? (i := 52) rfl))) Via.refl e23 f186 f183 (Or.inl (hw _ (List.mem_of_getElem? (i := 53) rfl))) (hw _ (List.mem_of_getElem? (i := 40) rfl)) (ty := .long) (by decide) rfl rfl (g := (mkF m 242 #[.val (.ref a0), .val (.long q1), .second, .val (.int (2 : Int32)), .val (.int (1 : Int32)), .val (.int (0 : Int32)), .val (.long v3), .second, .val (.long f_closing), .second, .val (.long r7_r), .second, .val (.long f_interest), .second, .val (.int (1 : Int32)), .val (.int (0 : Int32)), .val (.int v5), .val (.int v8), .unset, .val (.long v3), .second, .val (.int v5)] [(.long v3), (.ref a0)])) rfl rfl (hb hby d12_242)
  have f209 : Exa Z h24 a0 "com/example/amortine/amortine/CentAmounts" := f183.wr W24
  have f210 : FC Z h24 a0 "balloon" "J" (.long f_balloon) := f184.other W24 (Or.inr (slot_ne (Or.inr wl49) (Or.inl wl53) (by decide) (t := .long) (t' := .long) (by decide) (by decide)))
  have f211 : FC Z h24 a0 "balloonScale" "I" (.int f_balloonScale) := f185.other W24 (Or.inr (slot_ne (Or.inr wl51) (Or.inl wl53) (by decide) (t := .int) (t' := .long) (by decide) (by decide)))
  have f212 : FC Z h24 a0 "closingScale" "I" (.int f_closingScale) := f187.other W24 (Or.inr (slot_ne (Or.inl wl55) (Or.inl wl53) (by decide) (t := .int) (t' := .long) (by decide) (by decide)))
  have f213 : FC Z h24 a0 "perPeriodNumerator" "J" (.long f_perPeriodNumerator) := f188.other W24 (Or.inr (slot_ne (Or.inl wl76) (Or.inl wl53) (by decide) (t := .long) (t' := .long) (by decide) (by decide)))
  have f214 : FC Z h24 a0 "perPeriodDenominator" "J" (.long f_perPeriodDenominator) := f189.other W24 (Or.inr (slot_ne (Or.inl wl78) (Or.inl wl53) (by decide) (t := .long) (t' := .long) (by decide) (by decide)))
  have f215 : FC Z h24 a0 "reciprocal" "J" (.long f_reciprocal) := f190.other W24 (Or.inr (slot_ne (Or.inl wl86) (Or.inl wl53) (by decide) (t := .long) (t' := .long) (by decide) (by decide)))
  have f216 : FC Z h24 a0 "exactUpTo" "J" (.long f_exactUpTo) := f191.other W24 (Or.inr (slot_ne (Or.inl wl89) (Or.inl wl53) (by decide) (t := .long) (t' := .long) (by decide) (by decide)))
  have f217 : FC Z h24 a0 "madePaid" "J" (.long f_madePaid) := f192.other W24 (Or.inr (slot_ne (Or.inl wl131) (Or.inl wl53) (by decide) (t := .long) (t' := .long) (by decide) (by decide)))
  have f218 : FC Z h24 a0 "madeScale" "I" (.int f_madeScale) := f193.other W24 (Or.inr (slot_ne (Or.inl wl133) (Or.inl wl53) (by decide) (t := .int) (t' := .long) (by decide) (by decide)))
  have f219 : FC Z h24 a0 "raised" "J" (.long f_raised) := f194.other W24 (Or.inr (slot_ne (Or.inl wl135) (Or.inl wl53) (by decide) (t := .long) (t' := .long) (by decide) (by decide)))
  have f220 : FC Z h24 a0 "raisedScale" "I" (.int f_raisedScale) := f195.other W24 (Or.inr (slot_ne (Or.inl wl137) (Or.inl wl53) (by decide) (t := .int) (t' := .long) (by decide) (by decide)))
  have f221 : FC Z h24 a0 "settled" "Z" (.int f_settled) := f196.other W24 (Or.inr (slot_ne (Or.inl wl139) (Or.inl wl53) (by decide) (t := .boolean) (t' := .long) (by decide) (by decide)))
  have f222 : FC Z h24 a0 "tallied" "J" (.long f_tallied) := f197.other W24 (Or.inr (slot_ne (Or.inl wl161) (Or.inl wl53) (by decide) (t := .long) (t' := .long) (by decide) (by decide)))
  have f223 : FC Z h24 a0 "talliedScale" "I" (.int f_talliedScale) := f198.other W24 (Or.inr (slot_ne (Or.inl wl163) (Or.inl wl53) (by decide) (t := .int) (t' := .long) (by decide) (by decide)))
  have f224 : FC Z h24 a0 "indexation" "J" (.long f_indexation) := f199.other W24 (Or.inr (slot_ne (Or.inl wl165) (Or.inl wl53) (by decide) (t := .long) (t' := .long) (by decide) (by decide)))
  have f225 : FC Z h24 a0 "indexationScale" "I" (.int f_indexationScale) := f200.other W24 (Or.inr (slot_ne (Or.inl wl167) (Or.inl wl53) (by decide) (t := .int) (t' := .long) (by decide) (by decide)))
  have f226 : FC Z h24 a0 "opening" "J" (.long f_closing) := f201.other W24 (Or.inr (slot_ne (Or.inl wl96) (Or.inl wl53) (by decide) (t := .long) (t' := .long) (by decide) (by decide)))
  have f227 : FC Z h24 a0 "openingScale" "I" (.int f_closingScale) := f202.other W24 (Or.inr (slot_ne (Or.inl wl121) (Or.inl wl53) (by decide) (t := .int) (t' := .long) (by decide) (by decide)))
  have f228 : FC Z h24 a0 "owedBefore" "J" (.long f_interest) := f203.other W24 (Or.inr (slot_ne (Or.inl wl100) (Or.inl wl53) (by decide) (t := .long) (t' := .long) (by decide) (by decide)))
  have f229 : FC Z h24 a0 "interest" "J" (.long r7_r) := f204.other W24 (Or.inr (slot_ne (Or.inl wl98) (Or.inl wl53) (by decide) (t := .long) (t' := .long) (by decide) (by decide)))
  have f230 : FC Z h24 a0 "payment" "J" (.long q1) := f205.other W24 (Or.inr (slot_ne (Or.inl wl123) (Or.inl wl53) (by decide) (t := .long) (t' := .long) (by decide) (by decide)))
  have f231 : FC Z h24 a0 "paymentScale" "I" (.int (2 : Int32)) := f206.other W24 (Or.inr (slot_ne (Or.inl wl125) (Or.inl wl53) (by decide) (t := .int) (t' := .long) (by decide) (by decide)))
  have f232 : FC Z h24 a0 "principal" "J" (.long v9) := f207.other W24 (Or.inr (slot_ne (Or.inl wl127) (Or.inl wl53) (by decide) (t := .long) (t' := .long) (by decide) (by decide)))
  have f233 : FC Z h24 a0 "principalScale" "I" (.int v10) := f208.other W24 (Or.inr (slot_ne (Or.inl wl129) (Or.inl wl53) (by decide) (t := .int) (t' := .long) (by decide) (by decide)))
  have Zp24 : n0 ≤ h24.size := Nat.le_trans Zp23 (Keep.of_wr W24).1
  have K24 : Keep h0 h24 [a0] := K23.wr W24 (Or.inl (List.mem_of_getElem? (i := 0) rfl))
  have N24 := Fr.snoc X24 N23 r1
  have f234 : FC Z h24 a0 "closing" "J" (.long v3) := f186.same W24
  have go51 : Go p e below A0 (T24.setTop (mkF m 248 #[.val (.ref a0), .val (.long q1), .second, .val (.int (2 : Int32)), .val (.int (1 : Int32)), .val (.int (0 : Int32)), .val (.long v3), .second, .val (.long f_closing), .second, .val (.long r7_r), .second, .val (.long f_interest), .second, .val (.int (1 : Int32)), .val (.int (0 : Int32)), .val (.int v5), .val (.int v8), .unset, .val (.long v3), .second, .val (.int v5)] [(.int v8), (.ref a0)])) := by
    intro t k
    refine go50 t ?_
    refine st24 _ ?_
    show Steps p.tables e below (T24.setTop (mkF m 245 #[.val (.ref a0), .val (.long q1), .second, .val (.int (2 : Int32)), .val (.int (1 : Int32)), .val (.int (0 : Int32)), .val (.long v3), .second, .val (.long f_closing), .second, .val (.long r7_r), .second, .val (.long f_interest), .second, .val (.int (1 : Int32)), .val (.int (0 : Int32)), .val (.int v5), .val (.int v8), .unset, .val (.long v3), .second, .val (.int v5)] [])) _
    refine o_aloadN X24 hx hby d12_245 246 rfl rfl rfl ?_
    refine o_iload X24 hx hby d12_246 248 rfl rfl ?_
    exact k
  obtain ⟨T25, h25, X25, e25, W25, st25⟩ := putF X24 hx hZ hown (host := "") (Or.inl (hw _ (List.mem_of_getElem? (i := 54) rfl))) Via.refl e24 f212 f209 (Or.inl (hw _ (List.mem_of_getElem? (i := 55) rfl))) (hw _ (List.mem_of_getElem? (i := 40) rfl)) (ty := .int) (by decide) rfl rfl (g := (mkF m 248 #[.val (.ref a0), .val (.long q1), .second, .val (.int (2 : Int32)), .val (.int (1 : Int32)), .val (.int (0 : Int32)), .val (.long v3), .second, .val (.long f_closing), .second, .val (.long r7_r), .second, .val (.long f_interest), .second, .val (.int (1 : Int32)), .val (.int (0 : Int32)), .val (.int v5), .val (.int v8), .unset, .val (.long v3), .second, .val (.int v5)] [(.int v8), (.ref a0)])) rfl rfl (hb hby d12_248)
  have f235 : Exa Z h25 a0 "com/example/amortine/amortine/CentAmounts" := f209.wr W25
  have f236 : FC Z h25 a0 "balloon" "J" (.long f_balloon) := f210.other W25 (Or.inr (slot_ne (Or.inr wl49) (Or.inl wl55) (by decide) (t := .long) (t' := .int) (by decide) (by decide)))
  have f237 : FC Z h25 a0 "balloonScale" "I" (.int f_balloonScale) := f211.other W25 (Or.inr (slot_ne (Or.inr wl51) (Or.inl wl55) (by decide) (t := .int) (t' := .int) (by decide) (by decide)))
  have f238 : FC Z h25 a0 "perPeriodNumerator" "J" (.long f_perPeriodNumerator) := f213.other W25 (Or.inr (slot_ne (Or.inl wl76) (Or.inl wl55) (by decide) (t := .long) (t' := .int) (by decide) (by decide)))
  have f239 : FC Z h25 a0 "perPeriodDenominator" "J" (.long f_perPeriodDenominator) := f214.other W25 (Or.inr (slot_ne (Or.inl wl78) (Or.inl wl55) (by decide) (t := .long) (t' := .int) (by decide) (by decide)))
  have f240 : FC Z h25 a0 "reciprocal" "J" (.long f_reciprocal) := f215.other W25 (Or.inr (slot_ne (Or.inl wl86) (Or.inl wl55) (by decide) (t := .long) (t' := .int) (by decide) (by decide)))
  have f241 : FC Z h25 a0 "exactUpTo" "J" (.long f_exactUpTo) := f216.other W25 (Or.inr (slot_ne (Or.inl wl89) (Or.inl wl55) (by decide) (t := .long) (t' := .int) (by decide) (by decide)))
  have f242 : FC Z h25 a0 "madePaid" "J" (.long f_madePaid) := f217.other W25 (Or.inr (slot_ne (Or.inl wl131) (Or.inl wl55) (by decide) (t := .long) (t' := .int) (by decide) (by decide)))
  have f243 : FC Z h25 a0 "madeScale" "I" (.int f_madeScale) := f218.other W25 (Or.inr (slot_ne (Or.inl wl133) (Or.inl wl55) (by decide) (t := .int) (t' := .int) (by decide) (by decide)))
  have f244 : FC Z h25 a0 "raised" "J" (.long f_raised) := f219.other W25 (Or.inr (slot_ne (Or.inl wl135) (Or.inl wl55) (by decide) (t := .long) (t' := .int) (by decide) (by decide)))
  have f245 : FC Z h25 a0 "raisedScale" "I" (.int f_raisedScale) := f220.other W25 (Or.inr (slot_ne (Or.inl wl137) (Or.inl wl55) (by decide) (t := .int) (t' := .int) (by decide) (by decide)))
  have f246 : FC Z h25 a0 "settled" "Z" (.int f_settled) := f221.other W25 (Or.inr (slot_ne (Or.inl wl139) (Or.inl wl55) (by decide) (t := .boolean) (t' := .int) (by decide) (by decide)))
  have f247 : FC Z h25 a0 "tallied" "J" (.long f_tallied) := f222.other W25 (Or.inr (slot_ne (Or.inl wl161) (Or.inl wl55) (by decide) (t := .long) (t' := .int) (by decide) (by decide)))
  have f248 : FC Z h25 a0 "talliedScale" "I" (.int f_talliedScale) := f223.other W25 (Or.inr (slot_ne (Or.inl wl163) (Or.inl wl55) (by decide) (t := .int) (t' := .int) (by decide) (by decide)))
  have f249 : FC Z h25 a0 "indexation" "J" (.long f_indexation) := f224.other W25 (Or.inr (slot_ne (Or.inl wl165) (Or.inl wl55) (by decide) (t := .long) (t' := .int) (by decide) (by decide)))
  have f250 : FC Z h25 a0 "indexationScale" "I" (.int f_indexationScale) := f225.other W25 (Or.inr (slot_ne (Or.inl wl167) (Or.inl wl55) (by decide) (t := .int) (t' := .int) (by decide) (by decide)))
  have f251 : FC Z h25 a0 "opening" "J" (.long f_closing) := f226.other W25 (Or.inr (slot_ne (Or.inl wl96) (Or.inl wl55) (by decide) (t := .long) (t' := .int) (by decide) (by decide)))
  have f252 : FC Z h25 a0 "openingScale" "I" (.int f_closingScale) := f227.other W25 (Or.inr (slot_ne (Or.inl wl121) (Or.inl wl55) (by decide) (t := .int) (t' := .int) (by decide) (by decide)))
  have f253 : FC Z h25 a0 "owedBefore" "J" (.long f_interest) := f228.other W25 (Or.inr (slot_ne (Or.inl wl100) (Or.inl wl55) (by decide) (t := .long) (t' := .int) (by decide) (by decide)))
  have f254 : FC Z h25 a0 "interest" "J" (.long r7_r) := f229.other W25 (Or.inr (slot_ne (Or.inl wl98) (Or.inl wl55) (by decide) (t := .long) (t' := .int) (by decide) (by decide)))
  have f255 : FC Z h25 a0 "payment" "J" (.long q1) := f230.other W25 (Or.inr (slot_ne (Or.inl wl123) (Or.inl wl55) (by decide) (t := .long) (t' := .int) (by decide) (by decide)))
  have f256 : FC Z h25 a0 "paymentScale" "I" (.int (2 : Int32)) := f231.other W25 (Or.inr (slot_ne (Or.inl wl125) (Or.inl wl55) (by decide) (t := .int) (t' := .int) (by decide) (by decide)))
  have f257 : FC Z h25 a0 "principal" "J" (.long v9) := f232.other W25 (Or.inr (slot_ne (Or.inl wl127) (Or.inl wl55) (by decide) (t := .long) (t' := .int) (by decide) (by decide)))
  have f258 : FC Z h25 a0 "principalScale" "I" (.int v10) := f233.other W25 (Or.inr (slot_ne (Or.inl wl129) (Or.inl wl55) (by decide) (t := .int) (t' := .int) (by decide) (by decide)))
  have f259 : FC Z h25 a0 "closing" "J" (.long v3) := f234.other W25 (Or.inr (slot_ne (Or.inl wl53) (Or.inl wl55) (by decide) (t := .long) (t' := .int) (by decide) (by decide)))
  have Zp25 : n0 ≤ h25.size := Nat.le_trans Zp24 (Keep.of_wr W25).1
  have K25 : Keep h0 h25 [a0] := K24.wr W25 (Or.inl (List.mem_of_getElem? (i := 0) rfl))
  have N25 := Fr.snoc X25 N24 r1
  have f260 : FC Z h25 a0 "closingScale" "I" (.int v8) := f212.same W25
  have go52 : Go p e below A0 (T25.setTop (mkF m 257 #[.val (.ref a0), .val (.long q1), .second, .val (.int (2 : Int32)), .val (.int (1 : Int32)), .val (.int (0 : Int32)), .val (.long v3), .second, .val (.long f_closing), .second, .val (.long r7_r), .second, .val (.long f_interest), .second, .val (.int (1 : Int32)), .val (.int (0 : Int32)), .val (.int v5), .val (.int v8), .unset, .val (.long v3), .second, .val (.int v5)] [(.long (q1 * ((1 : Int32).toInt64))), (.ref a0)])) := by
    intro t k
    refine go51 t ?_
    refine st25 _ ?_
    show Steps p.tables e below (T25.setTop (mkF m 251 #[.val (.ref a0), .val (.long q1), .second, .val (.int (2 : Int32)), .val (.int (1 : Int32)), .val (.int (0 : Int32)), .val (.long v3), .second, .val (.long f_closing), .second, .val (.long r7_r), .second, .val (.long f_interest), .second, .val (.int (1 : Int32)), .val (.int (0 : Int32)), .val (.int v5), .val (.int v8), .unset, .val (.long v3), .second, .val (.int v5)] [])) _
    refine o_aloadN X25 hx hby d12_251 252 rfl rfl rfl ?_
    refine o_lloadN X25 hx hby d12_252 253 rfl rfl ?_
    refine o_iload X25 hx hby d12_253 255 rfl rfl ?_
    refine o_i2l X25 hx hby d12_255 256 rfl ?_
    refine o_lmul X25 hx hby d12_256 257 rfl ?_
    exact k
  obtain ⟨v11, hv11, go53⟩ : ∃ v11 : Int64, v11 = (q1 * ((1 : Int32).toInt64)) ∧ Go p e below A0 (T25.setTop (mkF m 257 #[.val (.ref a0), .val (.long q1), .second, .val (.int (2 : Int32)), .val (.int (1 : Int32)), .val (.int (0 : Int32)), .val (.long v3), .second, .val (.long f_closing), .second, .val (.long r7_r), .second, .val (.long f_interest), .second, .val (.int (1 : Int32)), .val (.int (0 : Int32)), .val (.int v5), .val (.int v8), .unset, .val (.long v3), .second, .val (.int v5)] [(.long v11), (.ref a0)])) := ⟨_, rfl, go52⟩
  obtain ⟨T26, h26, X26, e26, W26, st26⟩ := putF X25 hx hZ hown (host := "") (Or.inl (hw _ (List.mem_of_getElem? (i := 130) rfl))) Via.refl e25 f242 f235 (Or.inl (hw _ (List.mem_of_getElem? (i := 131) rfl))) (hw _ (List.mem_of_getElem? (i := 40) rfl)) (ty := .long) (by decide) rfl rfl (g := (mkF m 257 #[.val (.ref a0), .val (.long q1), .second, .val (.int (2 : Int32)), .val (.int (1 : Int32)), .val (.int (0 : Int32)), .val (.long v3), .second, .val (.long f_closing), .second, .val (.long r7_r), .second, .val (.long f_interest), .second, .val (.int (1 : Int32)), .val (.int (0 : Int32)), .val (.int v5), .val (.int v8), .unset, .val (.long v3), .second, .val (.int v5)] [(.long v11), (.ref a0)])) rfl rfl (hb hby d12_257)
  have f261 : Exa Z h26 a0 "com/example/amortine/amortine/CentAmounts" := f235.wr W26
  have f262 : FC Z h26 a0 "balloon" "J" (.long f_balloon) := f236.other W26 (Or.inr (slot_ne (Or.inr wl49) (Or.inl wl131) (by decide) (t := .long) (t' := .long) (by decide) (by decide)))
  have f263 : FC Z h26 a0 "balloonScale" "I" (.int f_balloonScale) := f237.other W26 (Or.inr (slot_ne (Or.inr wl51) (Or.inl wl131) (by decide) (t := .int) (t' := .long) (by decide) (by decide)))
  have f264 : FC Z h26 a0 "perPeriodNumerator" "J" (.long f_perPeriodNumerator) := f238.other W26 (Or.inr (slot_ne (Or.inl wl76) (Or.inl wl131) (by decide) (t := .long) (t' := .long) (by decide) (by decide)))
  have f265 : FC Z h26 a0 "perPeriodDenominator" "J" (.long f_perPeriodDenominator) := f239.other W26 (Or.inr (slot_ne (Or.inl wl78) (Or.inl wl131) (by decide) (t := .long) (t' := .long) (by decide) (by decide)))
  have f266 : FC Z h26 a0 "reciprocal" "J" (.long f_reciprocal) := f240.other W26 (Or.inr (slot_ne (Or.inl wl86) (Or.inl wl131) (by decide) (t := .long) (t' := .long) (by decide) (by decide)))
  have f267 : FC Z h26 a0 "exactUpTo" "J" (.long f_exactUpTo) := f241.other W26 (Or.inr (slot_ne (Or.inl wl89) (Or.inl wl131) (by decide) (t := .long) (t' := .long) (by decide) (by decide)))
  have f268 : FC Z h26 a0 "madeScale" "I" (.int f_madeScale) := f243.other W26 (Or.inr (slot_ne (Or.inl wl133) (Or.inl wl131) (by decide) (t := .int) (t' := .long) (by decide) (by decide)))
  have f269 : FC Z h26 a0 "raised" "J" (.long f_raised) := f244.other W26 (Or.inr (slot_ne (Or.inl wl135) (Or.inl wl131) (by decide) (t := .long) (t' := .long) (by decide) (by decide)))
  have f270 : FC Z h26 a0 "raisedScale" "I" (.int f_raisedScale) := f245.other W26 (Or.inr (slot_ne (Or.inl wl137) (Or.inl wl131) (by decide) (t := .int) (t' := .long) (by decide) (by decide)))
  have f271 : FC Z h26 a0 "settled" "Z" (.int f_settled) := f246.other W26 (Or.inr (slot_ne (Or.inl wl139) (Or.inl wl131) (by decide) (t := .boolean) (t' := .long) (by decide) (by decide)))
  have f272 : FC Z h26 a0 "tallied" "J" (.long f_tallied) := f247.other W26 (Or.inr (slot_ne (Or.inl wl161) (Or.inl wl131) (by decide) (t := .long) (t' := .long) (by decide) (by decide)))
  have f273 : FC Z h26 a0 "talliedScale" "I" (.int f_talliedScale) := f248.other W26 (Or.inr (slot_ne (Or.inl wl163) (Or.inl wl131) (by decide) (t := .int) (t' := .long) (by decide) (by decide)))
  have f274 : FC Z h26 a0 "indexation" "J" (.long f_indexation) := f249.other W26 (Or.inr (slot_ne (Or.inl wl165) (Or.inl wl131) (by decide) (t := .long) (t' := .long) (by decide) (by decide)))
  have f275 : FC Z h26 a0 "indexationScale" "I" (.int f_indexationScale) := f250.other W26 (Or.inr (slot_ne (Or.inl wl167) (Or.inl wl131) (by decide) (t := .int) (t' := .long) (by decide) (by decide)))
  have f276 : FC Z h26 a0 "opening" "J" (.long f_closing) := f251.other W26 (Or.inr (slot_ne (Or.inl wl96) (Or.inl wl131) (by decide) (t := .long) (t' := .long) (by decide) (by decide)))
  have f277 : FC Z h26 a0 "openingScale" "I" (.int f_closingScale) := f252.other W26 (Or.inr (slot_ne (Or.inl wl121) (Or.inl wl131) (by decide) (t := .int) (t' := .long) (by decide) (by decide)))
  have f278 : FC Z h26 a0 "owedBefore" "J" (.long f_interest) := f253.other W26 (Or.inr (slot_ne (Or.inl wl100) (Or.inl wl131) (by decide) (t := .long) (t' := .long) (by decide) (by decide)))
  have f279 : FC Z h26 a0 "interest" "J" (.long r7_r) := f254.other W26 (Or.inr (slot_ne (Or.inl wl98) (Or.inl wl131) (by decide) (t := .long) (t' := .long) (by decide) (by decide)))
  have f280 : FC Z h26 a0 "payment" "J" (.long q1) := f255.other W26 (Or.inr (slot_ne (Or.inl wl123) (Or.inl wl131) (by decide) (t := .long) (t' := .long) (by decide) (by decide)))
  have f281 : FC Z h26 a0 "paymentScale" "I" (.int (2 : Int32)) := f256.other W26 (Or.inr (slot_ne (Or.inl wl125) (Or.inl wl131) (by decide) (t := .int) (t' := .long) (by decide) (by decide)))
  have f282 : FC Z h26 a0 "principal" "J" (.long v9) := f257.other W26 (Or.inr (slot_ne (Or.inl wl127) (Or.inl wl131) (by decide) (t := .long) (t' := .long) (by decide) (by decide)))
  have f283 : FC Z h26 a0 "principalScale" "I" (.int v10) := f258.other W26 (Or.inr (slot_ne (Or.inl wl129) (Or.inl wl131) (by decide) (t := .int) (t' := .long) (by decide) (by decide)))
  have f284 : FC Z h26 a0 "closing" "J" (.long v3) := f259.other W26 (Or.inr (slot_ne (Or.inl wl53) (Or.inl wl131) (by decide) (t := .long) (t' := .long) (by decide) (by decide)))
  have f285 : FC Z h26 a0 "closingScale" "I" (.int v8) := f260.other W26 (Or.inr (slot_ne (Or.inl wl55) (Or.inl wl131) (by decide) (t := .int) (t' := .long) (by decide) (by decide)))
  have Zp26 : n0 ≤ h26.size := Nat.le_trans Zp25 (Keep.of_wr W26).1
  have K26 : Keep h0 h26 [a0] := K25.wr W26 (Or.inl (List.mem_of_getElem? (i := 0) rfl))
  have N26 := Fr.snoc X26 N25 r1
  have f286 : FC Z h26 a0 "madePaid" "J" (.long v11) := f242.same W26
  have go54 : Go p e below A0 (T26.setTop (mkF m 262 #[.val (.ref a0), .val (.long q1), .second, .val (.int (2 : Int32)), .val (.int (1 : Int32)), .val (.int (0 : Int32)), .val (.long v3), .second, .val (.long f_closing), .second, .val (.long r7_r), .second, .val (.long f_interest), .second, .val (.int (1 : Int32)), .val (.int (0 : Int32)), .val (.int v5), .val (.int v8), .unset, .val (.long v3), .second, .val (.int v5)] [(.int (2 : Int32)), (.ref a0)])) := by
    intro t k
    refine go53 t ?_
    refine st26 _ ?_
    show Steps p.tables e below (T26.setTop (mkF m 260 #[.val (.ref a0), .val (.long q1), .second, .val (.int (2 : Int32)), .val (.int (1 : Int32)), .val (.int (0 : Int32)), .val (.long v3), .second, .val (.long f_closing), .second, .val (.long r7_r), .second, .val (.long f_interest), .second, .val (.int (1 : Int32)), .val (.int (0 : Int32)), .val (.int v5), .val (.int v8), .unset, .val (.long v3), .second, .val (.int v5)] [])) _
    refine o_aloadN X26 hx hby d12_260 261 rfl rfl rfl ?_
    refine o_iloadN X26 hx hby d12_261 262 rfl rfl ?_
    exact k
  obtain ⟨T27, h27, X27, e27, W27, st27⟩ := putF X26 hx hZ hown (host := "") (Or.inl (hw _ (List.mem_of_getElem? (i := 132) rfl))) Via.refl e26 f268 f261 (Or.inl (hw _ (List.mem_of_getElem? (i := 133) rfl))) (hw _ (List.mem_of_getElem? (i := 40) rfl)) (ty := .int) (by decide) rfl rfl (g := (mkF m 262 #[.val (.ref a0), .val (.long q1), .second, .val (.int (2 : Int32)), .val (.int (1 : Int32)), .val (.int (0 : Int32)), .val (.long v3), .second, .val (.long f_closing), .second, .val (.long r7_r), .second, .val (.long f_interest), .second, .val (.int (1 : Int32)), .val (.int (0 : Int32)), .val (.int v5), .val (.int v8), .unset, .val (.long v3), .second, .val (.int v5)] [(.int (2 : Int32)), (.ref a0)])) rfl rfl (hb hby d12_262)
  have f287 : Exa Z h27 a0 "com/example/amortine/amortine/CentAmounts" := f261.wr W27
  have f288 : FC Z h27 a0 "balloon" "J" (.long f_balloon) := f262.other W27 (Or.inr (slot_ne (Or.inr wl49) (Or.inl wl133) (by decide) (t := .long) (t' := .int) (by decide) (by decide)))
  have f289 : FC Z h27 a0 "balloonScale" "I" (.int f_balloonScale) := f263.other W27 (Or.inr (slot_ne (Or.inr wl51) (Or.inl wl133) (by decide) (t := .int) (t' := .int) (by decide) (by decide)))
  have f290 : FC Z h27 a0 "perPeriodNumerator" "J" (.long f_perPeriodNumerator) := f264.other W27 (Or.inr (slot_ne (Or.inl wl76) (Or.inl wl133) (by decide) (t := .long) (t' := .int) (by decide) (by decide)))
  have f291 : FC Z h27 a0 "perPeriodDenominator" "J" (.long f_perPeriodDenominator) := f265.other W27 (Or.inr (slot_ne (Or.inl wl78) (Or.inl wl133) (by decide) (t := .long) (t' := .int) (by decide) (by decide)))
  have f292 : FC Z h27 a0 "reciprocal" "J" (.long f_reciprocal) := f266.other W27 (Or.inr (slot_ne (Or.inl wl86) (Or.inl wl133) (by decide) (t := .long) (t' := .int) (by decide) (by decide)))
  have f293 : FC Z h27 a0 "exactUpTo" "J" (.long f_exactUpTo) := f267.other W27 (Or.inr (slot_ne (Or.inl wl89) (Or.inl wl133) (by decide) (t := .long) (t' := .int) (by decide) (by decide)))
  have f294 : FC Z h27 a0 "raised" "J" (.long f_raised) := f269.other W27 (Or.inr (slot_ne (Or.inl wl135) (Or.inl wl133) (by decide) (t := .long) (t' := .int) (by decide) (by decide)))
  have f295 : FC Z h27 a0 "raisedScale" "I" (.int f_raisedScale) := f270.other W27 (Or.inr (slot_ne (Or.inl wl137) (Or.inl wl133) (by decide) (t := .int) (t' := .int) (by decide) (by decide)))
  have f296 : FC Z h27 a0 "settled" "Z" (.int f_settled) := f271.other W27 (Or.inr (slot_ne (Or.inl wl139) (Or.inl wl133) (by decide) (t := .boolean) (t' := .int) (by decide) (by decide)))
  have f297 : FC Z h27 a0 "tallied" "J" (.long f_tallied) := f272.other W27 (Or.inr (slot_ne (Or.inl wl161) (Or.inl wl133) (by decide) (t := .long) (t' := .int) (by decide) (by decide)))
  have f298 : FC Z h27 a0 "talliedScale" "I" (.int f_talliedScale) := f273.other W27 (Or.inr (slot_ne (Or.inl wl163) (Or.inl wl133) (by decide) (t := .int) (t' := .int) (by decide) (by decide)))
  have f299 : FC Z h27 a0 "indexation" "J" (.long f_indexation) := f274.other W27 (Or.inr (slot_ne (Or.inl wl165) (Or.inl wl133) (by decide) (t := .long) (t' := .int) (by decide) (by decide)))
  have f300 : FC Z h27 a0 "indexationScale" "I" (.int f_indexationScale) := f275.other W27 (Or.inr (slot_ne (Or.inl wl167) (Or.inl wl133) (by decide) (t := .int) (t' := .int) (by decide) (by decide)))
  have f301 : FC Z h27 a0 "opening" "J" (.long f_closing) := f276.other W27 (Or.inr (slot_ne (Or.inl wl96) (Or.inl wl133) (by decide) (t := .long) (t' := .int) (by decide) (by decide)))
  have f302 : FC Z h27 a0 "openingScale" "I" (.int f_closingScale) := f277.other W27 (Or.inr (slot_ne (Or.inl wl121) (Or.inl wl133) (by decide) (t := .int) (t' := .int) (by decide) (by decide)))
  have f303 : FC Z h27 a0 "owedBefore" "J" (.long f_interest) := f278.other W27 (Or.inr (slot_ne (Or.inl wl100) (Or.inl wl133) (by decide) (t := .long) (t' := .int) (by decide) (by decide)))
  have f304 : FC Z h27 a0 "interest" "J" (.long r7_r) := f279.other W27 (Or.inr (slot_ne (Or.inl wl98) (Or.inl wl133) (by decide) (t := .long) (t' := .int) (by decide) (by decide)))
  have f305 : FC Z h27 a0 "payment" "J" (.long q1) := f280.other W27 (Or.inr (slot_ne (Or.inl wl123) (Or.inl wl133) (by decide) (t := .long) (t' := .int) (by decide) (by decide)))
  have f306 : FC Z h27 a0 "paymentScale" "I" (.int (2 : Int32)) := f281.other W27 (Or.inr (slot_ne (Or.inl wl125) (Or.inl wl133) (by decide) (t := .int) (t' := .int) (by decide) (by decide)))
  have f307 : FC Z h27 a0 "principal" "J" (.long v9) := f282.other W27 (Or.inr (slot_ne (Or.inl wl127) (Or.inl wl133) (by decide) (t := .long) (t' := .int) (by decide) (by decide)))
  have f308 : FC Z h27 a0 "principalScale" "I" (.int v10) := f283.other W27 (Or.inr (slot_ne (Or.inl wl129) (Or.inl wl133) (by decide) (t := .int) (t' := .int) (by decide) (by decide)))
  have f309 : FC Z h27 a0 "closing" "J" (.long v3) := f284.other W27 (Or.inr (slot_ne (Or.inl wl53) (Or.inl wl133) (by decide) (t := .long) (t' := .int) (by decide) (by decide)))
  have f310 : FC Z h27 a0 "closingScale" "I" (.int v8) := f285.other W27 (Or.inr (slot_ne (Or.inl wl55) (Or.inl wl133) (by decide) (t := .int) (t' := .int) (by decide) (by decide)))
  have f311 : FC Z h27 a0 "madePaid" "J" (.long v11) := f286.other W27 (Or.inr (slot_ne (Or.inl wl131) (Or.inl wl133) (by decide) (t := .long) (t' := .int) (by decide) (by decide)))
  have Zp27 : n0 ≤ h27.size := Nat.le_trans Zp26 (Keep.of_wr W27).1
  have K27 : Keep h0 h27 [a0] := K26.wr W27 (Or.inl (List.mem_of_getElem? (i := 0) rfl))
  have N27 := Fr.snoc X27 N26 r1
  have f312 : FC Z h27 a0 "madeScale" "I" (.int (2 : Int32)) := f268.same W27
  have go55 : Go p e below A0 (T27.setTop (mkF m 267 #[.val (.ref a0), .val (.long q1), .second, .val (.int (2 : Int32)), .val (.int (1 : Int32)), .val (.int (0 : Int32)), .val (.long v3), .second, .val (.long f_closing), .second, .val (.long r7_r), .second, .val (.long f_interest), .second, .val (.int (1 : Int32)), .val (.int (0 : Int32)), .val (.int v5), .val (.int v8), .unset, .val (.long v3), .second, .val (.int v5)] [(.long (0 : Int64)), (.ref a0)])) := by
    intro t k
    refine go54 t ?_
    refine st27 _ ?_
    show Steps p.tables e below (T27.setTop (mkF m 265 #[.val (.ref a0), .val (.long q1), .second, .val (.int (2 : Int32)), .val (.int (1 : Int32)), .val (.int (0 : Int32)), .val (.long v3), .second, .val (.long f_closing), .second, .val (.long r7_r), .second, .val (.long f_interest), .second, .val (.int (1 : Int32)), .val (.int (0 : Int32)), .val (.int v5), .val (.int v8), .unset, .val (.long v3), .second, .val (.int v5)] [])) _
    refine o_aloadN X27 hx hby d12_265 266 rfl rfl rfl ?_
    refine o_lconst X27 hx hby d12_266 267 rfl (v := (0 : Int64)) rfl ?_
    exact k
  obtain ⟨T28, h28, X28, e28, W28, st28⟩ := putF X27 hx hZ hown (host := "") (Or.inl (hw _ (List.mem_of_getElem? (i := 134) rfl))) Via.refl e27 f294 f287 (Or.inl (hw _ (List.mem_of_getElem? (i := 135) rfl))) (hw _ (List.mem_of_getElem? (i := 40) rfl)) (ty := .long) (by decide) rfl rfl (g := (mkF m 267 #[.val (.ref a0), .val (.long q1), .second, .val (.int (2 : Int32)), .val (.int (1 : Int32)), .val (.int (0 : Int32)), .val (.long v3), .second, .val (.long f_closing), .second, .val (.long r7_r), .second, .val (.long f_interest), .second, .val (.int (1 : Int32)), .val (.int (0 : Int32)), .val (.int v5), .val (.int v8), .unset, .val (.long v3), .second, .val (.int v5)] [(.long (0 : Int64)), (.ref a0)])) rfl rfl (hb hby d12_267)
  have f313 : Exa Z h28 a0 "com/example/amortine/amortine/CentAmounts" := f287.wr W28
  have f314 : FC Z h28 a0 "balloon" "J" (.long f_balloon) := f288.other W28 (Or.inr (slot_ne (Or.inr wl49) (Or.inl wl135) (by decide) (t := .long) (t' := .long) (by decide) (by decide)))
  have f315 : FC Z h28 a0 "balloonScale" "I" (.int f_balloonScale) := f289.other W28 (Or.inr (slot_ne (Or.inr wl51) (Or.inl wl135) (by decide) (t := .int) (t' := .long) (by decide) (by decide)))
  have f316 : FC Z h28 a0 "perPeriodNumerator" "J" (.long f_perPeriodNumerator) := f290.other W28 (Or.inr (slot_ne (Or.inl wl76) (Or.inl wl135) (by decide) (t := .long) (t' := .long) (by decide) (by decide)))
  have f317 : FC Z h28 a0 "perPeriodDenominator" "J" (.long f_perPeriodDenominator) := f291.other W28 (Or.inr (slot_ne (Or.inl wl78) (Or.inl wl135) (by decide) (t := .long) (t' := .long) (by decide) (by decide)))
  have f318 : FC Z h28 a0 "reciprocal" "J" (.long f_reciprocal) := f292.other W28 (Or.inr (slot_ne (Or.inl wl86) (Or.inl wl135) (by decide) (t := .long) (t' := .long) (by decide) (by decide)))
  have f319 : FC Z h28 a0 "exactUpTo" "J" (.long f_exactUpTo) := f293.other W28 (Or.inr (slot_ne (Or.inl wl89) (Or.inl wl135) (by decide) (t := .long) (t' := .long) (by decide) (by decide)))
  have f320 : FC Z h28 a0 "raisedScale" "I" (.int f_raisedScale) := f295.other W28 (Or.inr (slot_ne (Or.inl wl137) (Or.inl wl135) (by decide) (t := .int) (t' := .long) (by decide) (by decide)))
  have f321 : FC Z h28 a0 "settled" "Z" (.int f_settled) := f296.other W28 (Or.inr (slot_ne (Or.inl wl139) (Or.inl wl135) (by decide) (t := .boolean) (t' := .long) (by decide) (by decide)))
  have f322 : FC Z h28 a0 "tallied" "J" (.long f_tallied) := f297.other W28 (Or.inr (slot_ne (Or.inl wl161) (Or.inl wl135) (by decide) (t := .long) (t' := .long) (by decide) (by decide)))
  have f323 : FC Z h28 a0 "talliedScale" "I" (.int f_talliedScale) := f298.other W28 (Or.inr (slot_ne (Or.inl wl163) (Or.inl wl135) (by decide) (t := .int) (t' := .long) (by decide) (by decide)))
  have f324 : FC Z h28 a0 "indexation" "J" (.long f_indexation) := f299.other W28 (Or.inr (slot_ne (Or.inl wl165) (Or.inl wl135) (by decide) (t := .long) (t' := .long) (by decide) (by decide)))
  have f325 : FC Z h28 a0 "indexationScale" "I" (.int f_indexationScale) := f300.other W28 (Or.inr (slot_ne (Or.inl wl167) (Or.inl wl135) (by decide) (t := .int) (t' := .long) (by decide) (by decide)))
  have f326 : FC Z h28 a0 "opening" "J" (.long f_closing) := f301.other W28 (Or.inr (slot_ne (Or.inl wl96) (Or.inl wl135) (by decide) (t := .long) (t' := .long) (by decide) (by decide)))
  have f327 : FC Z h28 a0 "openingScale" "I" (.int f_closingScale) := f302.other W28 (Or.inr (slot_ne (Or.inl wl121) (Or.inl wl135) (by decide) (t := .int) (t' := .long) (by decide) (by decide)))
  have f328 : FC Z h28 a0 "owedBefore" "J" (.long f_interest) := f303.other W28 (Or.inr (slot_ne (Or.inl wl100) (Or.inl wl135) (by decide) (t := .long) (t' := .long) (by decide) (by decide)))
  have f329 : FC Z h28 a0 "interest" "J" (.long r7_r) := f304.other W28 (Or.inr (slot_ne (Or.inl wl98) (Or.inl wl135) (by decide) (t := .long) (t' := .long) (by decide) (by decide)))
  have f330 : FC Z h28 a0 "payment" "J" (.long q1) := f305.other W28 (Or.inr (slot_ne (Or.inl wl123) (Or.inl wl135) (by decide) (t := .long) (t' := .long) (by decide) (by decide)))
  have f331 : FC Z h28 a0 "paymentScale" "I" (.int (2 : Int32)) := f306.other W28 (Or.inr (slot_ne (Or.inl wl125) (Or.inl wl135) (by decide) (t := .int) (t' := .long) (by decide) (by decide)))
  have f332 : FC Z h28 a0 "principal" "J" (.long v9) := f307.other W28 (Or.inr (slot_ne (Or.inl wl127) (Or.inl wl135) (by decide) (t := .long) (t' := .long) (by decide) (by decide)))
  have f333 : FC Z h28 a0 "principalScale" "I" (.int v10) := f308.other W28 (Or.inr (slot_ne (Or.inl wl129) (Or.inl wl135) (by decide) (t := .int) (t' := .long) (by decide) (by decide)))
  have f334 : FC Z h28 a0 "closing" "J" (.long v3) := f309.other W28 (Or.inr (slot_ne (Or.inl wl53) (Or.inl wl135) (by decide) (t := .long) (t' := .long) (by decide) (by decide)))
  have f335 : FC Z h28 a0 "closingScale" "I" (.int v8) := f310.other W28 (Or.inr (slot_ne (Or.inl wl55) (Or.inl wl135) (by decide) (t := .int) (t' := .long) (by decide) (by decide)))
  have f336 : FC Z h28 a0 "madePaid" "J" (.long v11) := f311.other W28 (Or.inr (slot_ne (Or.inl wl131) (Or.inl wl135) (by decide) (t := .long) (t' := .long) (by decide) (by decide)))
  have f337 : FC Z h28 a0 "madeScale" "I" (.int (2 : Int32)) := f312.other W28 (Or.inr (slot_ne (Or.inl wl133) (Or.inl wl135) (by decide) (t := .int) (t' := .long) (by decide) (by decide)))
  have Zp28 : n0 ≤ h28.size := Nat.le_trans Zp27 (Keep.of_wr W28).1
  have K28 : Keep h0 h28 [a0] := K27.wr W28 (Or.inl (List.mem_of_getElem? (i := 0) rfl))
  have N28 := Fr.snoc X28 N27 r1
  have f338 : FC Z h28 a0 "raised" "J" (.long (0 : Int64)) := f294.same W28
  have go56 : Go p e below A0 (T28.setTop (mkF m 272 #[.val (.ref a0), .val (.long q1), .second, .val (.int (2 : Int32)), .val (.int (1 : Int32)), .val (.int (0 : Int32)), .val (.long v3), .second, .val (.long f_closing), .second, .val (.long r7_r), .second, .val (.long f_interest), .second, .val (.int (1 : Int32)), .val (.int (0 : Int32)), .val (.int v5), .val (.int v8), .unset, .val (.long v3), .second, .val (.int v5)] [(.int (0 : Int32)), (.ref a0)])) := by
    intro t k
    refine go55 t ?_
    refine st28 _ ?_
    show Steps p.tables e below (T28.setTop (mkF m 270 #[.val (.ref a0), .val (.long q1), .second, .val (.int (2 : Int32)), .val (.int (1 : Int32)), .val (.int (0 : Int32)), .val (.long v3), .second, .val (.long f_closing), .second, .val (.long r7_r), .second, .val (.long f_interest), .second, .val (.int (1 : Int32)), .val (.int (0 : Int32)), .val (.int v5), .val (.int v8), .unset, .val (.long v3), .second, .val (.int v5)] [])) _
    refine o_aloadN X28 hx hby d12_270 271 rfl rfl rfl ?_
    refine o_iconst X28 hx hby d12_271 272 rfl (v := (0 : Int32)) rfl ?_
    exact k
  obtain ⟨T29, h29, X29, e29, W29, st29⟩ := putF X28 hx hZ hown (host := "") (Or.inl (hw _ (List.mem_of_getElem? (i := 136) rfl))) Via.refl e28 f320 f313 (Or.inl (hw _ (List.mem_of_getElem? (i := 137) rfl))) (hw _ (List.mem_of_getElem? (i := 40) rfl)) (ty := .int) (by decide) rfl rfl (g := (mkF m 272 #[.val (.ref a0), .val (.long q1), .second, .val (.int (2 : Int32)), .val (.int (1 : Int32)), .val (.int (0 : Int32)), .val (.long v3), .second, .val (.long f_closing), .second, .val (.long r7_r), .second, .val (.long f_interest), .second, .val (.int (1 : Int32)), .val (.int (0 : Int32)), .val (.int v5), .val (.int v8), .unset, .val (.long v3), .second, .val (.int v5)] [(.int (0 : Int32)), (.ref a0)])) rfl rfl (hb hby d12_272)
  have f339 : Exa Z h29 a0 "com/example/amortine/amortine/CentAmounts" := f313.wr W29
  have f340 : FC Z h29 a0 "balloon" "J" (.long f_balloon) := f314.other W29 (Or.inr (slot_ne (Or.inr wl49) (Or.inl wl137) (by decide) (t := .long) (t' := .int) (by decide) (by decide)))
  have f341 : FC Z h29 a0 "balloonScale" "I" (.int f_balloonScale) := f315.other W29 (Or.inr (slot_ne (Or.inr wl51) (Or.inl wl137) (by decide) (t := .int) (t' := .int) (by decide) (by decide)))
  have f342 : FC Z h29 a0 "perPeriodNumerator" "J" (.long f_perPeriodNumerator) := f316.other W29 (Or.inr (slot_ne (Or.inl wl76) (Or.inl wl137) (by decide) (t := .long) (t' := .int) (by decide) (by decide)))
  have f343 : FC Z h29 a0 "perPeriodDenominator" "J" (.long f_perPeriodDenominator) := f317.other W29 (Or.inr (slot_ne (Or.inl wl78) (Or.inl wl137) (by decide) (t := .long) (t' := .int) (by decide) (by decide)))
  have f344 : FC Z h29 a0 "reciprocal" "J" (.long f_reciprocal) := f318.other W29 (Or.inr (slot_ne (Or.inl wl86) (Or.inl wl137) (by decide) (t := .long) (t' := .int) (by decide) (by decide)))
  have f345 : FC Z h29 a0 "exactUpTo" "J" (.long f_exactUpTo) := f319.other W29 (Or.inr (slot_ne (Or.inl wl89) (Or.inl wl137) (by decide) (t := .long) (t' := .int) (by decide) (by decide)))
  have f346 : FC Z h29 a0 "settled" "Z" (.int f_settled) := f321.other W29 (Or.inr (slot_ne (Or.inl wl139) (Or.inl wl137) (by decide) (t := .boolean) (t' := .int) (by decide) (by decide)))
  have f347 : FC Z h29 a0 "tallied" "J" (.long f_tallied) := f322.other W29 (Or.inr (slot_ne (Or.inl wl161) (Or.inl wl137) (by decide) (t := .long) (t' := .int) (by decide) (by decide)))
  have f348 : FC Z h29 a0 "talliedScale" "I" (.int f_talliedScale) := f323.other W29 (Or.inr (slot_ne (Or.inl wl163) (Or.inl wl137) (by decide) (t := .int) (t' := .int) (by decide) (by decide)))
  have f349 : FC Z h29 a0 "indexation" "J" (.long f_indexation) := f324.other W29 (Or.inr (slot_ne (Or.inl wl165) (Or.inl wl137) (by decide) (t := .long) (t' := .int) (by decide) (by decide)))
  have f350 : FC Z h29 a0 "indexationScale" "I" (.int f_indexationScale) := f325.other W29 (Or.inr (slot_ne (Or.inl wl167) (Or.inl wl137) (by decide) (t := .int) (t' := .int) (by decide) (by decide)))
  have f351 : FC Z h29 a0 "opening" "J" (.long f_closing) := f326.other W29 (Or.inr (slot_ne (Or.inl wl96) (Or.inl wl137) (by decide) (t := .long) (t' := .int) (by decide) (by decide)))
  have f352 : FC Z h29 a0 "openingScale" "I" (.int f_closingScale) := f327.other W29 (Or.inr (slot_ne (Or.inl wl121) (Or.inl wl137) (by decide) (t := .int) (t' := .int) (by decide) (by decide)))
  have f353 : FC Z h29 a0 "owedBefore" "J" (.long f_interest) := f328.other W29 (Or.inr (slot_ne (Or.inl wl100) (Or.inl wl137) (by decide) (t := .long) (t' := .int) (by decide) (by decide)))
  have f354 : FC Z h29 a0 "interest" "J" (.long r7_r) := f329.other W29 (Or.inr (slot_ne (Or.inl wl98) (Or.inl wl137) (by decide) (t := .long) (t' := .int) (by decide) (by decide)))
  have f355 : FC Z h29 a0 "payment" "J" (.long q1) := f330.other W29 (Or.inr (slot_ne (Or.inl wl123) (Or.inl wl137) (by decide) (t := .long) (t' := .int) (by decide) (by decide)))
  have f356 : FC Z h29 a0 "paymentScale" "I" (.int (2 : Int32)) := f331.other W29 (Or.inr (slot_ne (Or.inl wl125) (Or.inl wl137) (by decide) (t := .int) (t' := .int) (by decide) (by decide)))
  have f357 : FC Z h29 a0 "principal" "J" (.long v9) := f332.other W29 (Or.inr (slot_ne (Or.inl wl127) (Or.inl wl137) (by decide) (t := .long) (t' := .int) (by decide) (by decide)))
  have f358 : FC Z h29 a0 "principalScale" "I" (.int v10) := f333.other W29 (Or.inr (slot_ne (Or.inl wl129) (Or.inl wl137) (by decide) (t := .int) (t' := .int) (by decide) (by decide)))
  have f359 : FC Z h29 a0 "closing" "J" (.long v3) := f334.other W29 (Or.inr (slot_ne (Or.inl wl53) (Or.inl wl137) (by decide) (t := .long) (t' := .int) (by decide) (by decide)))
  have f360 : FC Z h29 a0 "closingScale" "I" (.int v8) := f335.other W29 (Or.inr (slot_ne (Or.inl wl55) (Or.inl wl137) (by decide) (t := .int) (t' := .int) (by decide) (by decide)))
  have f361 : FC Z h29 a0 "madePaid" "J" (.long v11) := f336.other W29 (Or.inr (slot_ne (Or.inl wl131) (Or.inl wl137) (by decide) (t := .long) (t' := .int) (by decide) (by decide)))
  have f362 : FC Z h29 a0 "madeScale" "I" (.int (2 : Int32)) := f337.other W29 (Or.inr (slot_ne (Or.inl wl133) (Or.inl wl137) (by decide) (t := .int) (t' := .int) (by decide) (by decide)))
  have f363 : FC Z h29 a0 "raised" "J" (.long (0 : Int64)) := f338.other W29 (Or.inr (slot_ne (Or.inl wl135) (Or.inl wl137) (by decide) (t := .long) (t' := .int) (by decide) (by decide)))
  have Zp29 : n0 ≤ h29.size := Nat.le_trans Zp28 (Keep.of_wr W29).1
  have K29 : Keep h0 h29 [a0] := K28.wr W29 (Or.inl (List.mem_of_getElem? (i := 0) rfl))
  have N29 := Fr.snoc X29 N28 r1
  have f364 : FC Z h29 a0 "raisedScale" "I" (.int (0 : Int32)) := f320.same W29
  have go57 : Go p e below A0 (T29.setTop (mkF m 277 #[.val (.ref a0), .val (.long q1), .second, .val (.int (2 : Int32)), .val (.int (1 : Int32)), .val (.int (0 : Int32)), .val (.long v3), .second, .val (.long f_closing), .second, .val (.long r7_r), .second, .val (.long f_interest), .second, .val (.int (1 : Int32)), .val (.int (0 : Int32)), .val (.int v5), .val (.int v8), .unset, .val (.long v3), .second, .val (.int v5)] [(.int (0 : Int32)), (.ref a0)])) := by
    intro t k
    refine go56 t ?_
    refine st29 _ ?_
    show Steps p.tables e below (T29.setTop (mkF m 275 #[.val (.ref a0), .val (.long q1), .second, .val (.int (2 : Int32)), .val (.int (1 : Int32)), .val (.int (0 : Int32)), .val (.long v3), .second, .val (.long f_closing), .second, .val (.long r7_r), .second, .val (.long f_interest), .second, .val (.int (1 : Int32)), .val (.int (0 : Int32)), .val (.int v5), .val (.int v8), .unset, .val (.long v3), .second, .val (.int v5)] [])) _
    refine o_aloadN X29 hx hby d12_275 276 rfl rfl rfl ?_
    refine o_iconst X29 hx hby d12_276 277 rfl (v := (0 : Int32)) rfl ?_
    exact k
  obtain ⟨T30, h30, X30, e30, W30, st30⟩ := putF X29 hx hZ hown (host := "") (Or.inl (hw _ (List.mem_of_getElem? (i := 138) rfl))) Via.refl e29 f346 f339 (Or.inl (hw _ (List.mem_of_getElem? (i := 139) rfl))) (hw _ (List.mem_of_getElem? (i := 40) rfl)) (ty := .boolean) (by decide) (by decide) (by decide) (g := (mkF m 277 #[.val (.ref a0), .val (.long q1), .second, .val (.int (2 : Int32)), .val (.int (1 : Int32)), .val (.int (0 : Int32)), .val (.long v3), .second, .val (.long f_closing), .second, .val (.long r7_r), .second, .val (.long f_interest), .second, .val (.int (1 : Int32)), .val (.int (0 : Int32)), .val (.int v5), .val (.int v8), .unset, .val (.long v3), .second, .val (.int v5)] [(.int (0 : Int32)), (.ref a0)])) rfl rfl (hb hby d12_277)
  have f365 : Exa Z h30 a0 "com/example/amortine/amortine/CentAmounts" := f339.wr W30
  have f366 : FC Z h30 a0 "balloon" "J" (.long f_balloon) := f340.other W30 (Or.inr (slot_ne (Or.inr wl49) (Or.inl wl139) (by decide) (t := .long) (t' := .boolean) (by decide) (by decide)))
  have f367 : FC Z h30 a0 "balloonScale" "I" (.int f_balloonScale) := f341.other W30 (Or.inr (slot_ne (Or.inr wl51) (Or.inl wl139) (by decide) (t := .int) (t' := .boolean) (by decide) (by decide)))
  have f368 : FC Z h30 a0 "perPeriodNumerator" "J" (.long f_perPeriodNumerator) := f342.other W30 (Or.inr (slot_ne (Or.inl wl76) (Or.inl wl139) (by decide) (t := .long) (t' := .boolean) (by decide) (by decide)))
  have f369 : FC Z h30 a0 "perPeriodDenominator" "J" (.long f_perPeriodDenominator) := f343.other W30 (Or.inr (slot_ne (Or.inl wl78) (Or.inl wl139) (by decide) (t := .long) (t' := .boolean) (by decide) (by decide)))
  have f370 : FC Z h30 a0 "reciprocal" "J" (.long f_reciprocal) := f344.other W30 (Or.inr (slot_ne (Or.inl wl86) (Or.inl wl139) (by decide) (t := .long) (t' := .boolean) (by decide) (by decide)))
  have f371 : FC Z h30 a0 "exactUpTo" "J" (.long f_exactUpTo) := f345.other W30 (Or.inr (slot_ne (Or.inl wl89) (Or.inl wl139) (by decide) (t := .long) (t' := .boolean) (by decide) (by decide)))
  have f372 : FC Z h30 a0 "tallied" "J" (.long f_tallied) := f347.other W30 (Or.inr (slot_ne (Or.inl wl161) (Or.inl wl139) (by decide) (t := .long) (t' := .boolean) (by decide) (by decide)))
  have f373 : FC Z h30 a0 "talliedScale" "I" (.int f_talliedScale) := f348.other W30 (Or.inr (slot_ne (Or.inl wl163) (Or.inl wl139) (by decide) (t := .int) (t' := .boolean) (by decide) (by decide)))
  have f374 : FC Z h30 a0 "indexation" "J" (.long f_indexation) := f349.other W30 (Or.inr (slot_ne (Or.inl wl165) (Or.inl wl139) (by decide) (t := .long) (t' := .boolean) (by decide) (by decide)))
  have f375 : FC Z h30 a0 "indexationScale" "I" (.int f_indexationScale) := f350.other W30 (Or.inr (slot_ne (Or.inl wl167) (Or.inl wl139) (by decide) (t := .int) (t' := .boolean) (by decide) (by decide)))
  have f376 : FC Z h30 a0 "opening" "J" (.long f_closing) := f351.other W30 (Or.inr (slot_ne (Or.inl wl96) (Or.inl wl139) (by decide) (t := .long) (t' := .boolean) (by decide) (by decide)))
  have f377 : FC Z h30 a0 "openingScale" "I" (.int f_closingScale) := f352.other W30 (Or.inr (slot_ne (Or.inl wl121) (Or.inl wl139) (by decide) (t := .int) (t' := .boolean) (by decide) (by decide)))
  have f378 : FC Z h30 a0 "owedBefore" "J" (.long f_interest) := f353.other W30 (Or.inr (slot_ne (Or.inl wl100) (Or.inl wl139) (by decide) (t := .long) (t' := .boolean) (by decide) (by decide)))
  have f379 : FC Z h30 a0 "interest" "J" (.long r7_r) := f354.other W30 (Or.inr (slot_ne (Or.inl wl98) (Or.inl wl139) (by decide) (t := .long) (t' := .boolean) (by decide) (by decide)))
  have f380 : FC Z h30 a0 "payment" "J" (.long q1) := f355.other W30 (Or.inr (slot_ne (Or.inl wl123) (Or.inl wl139) (by decide) (t := .long) (t' := .boolean) (by decide) (by decide)))
  have f381 : FC Z h30 a0 "paymentScale" "I" (.int (2 : Int32)) := f356.other W30 (Or.inr (slot_ne (Or.inl wl125) (Or.inl wl139) (by decide) (t := .int) (t' := .boolean) (by decide) (by decide)))
  have f382 : FC Z h30 a0 "principal" "J" (.long v9) := f357.other W30 (Or.inr (slot_ne (Or.inl wl127) (Or.inl wl139) (by decide) (t := .long) (t' := .boolean) (by decide) (by decide)))
  have f383 : FC Z h30 a0 "principalScale" "I" (.int v10) := f358.other W30 (Or.inr (slot_ne (Or.inl wl129) (Or.inl wl139) (by decide) (t := .int) (t' := .boolean) (by decide) (by decide)))
  have f384 : FC Z h30 a0 "closing" "J" (.long v3) := f359.other W30 (Or.inr (slot_ne (Or.inl wl53) (Or.inl wl139) (by decide) (t := .long) (t' := .boolean) (by decide) (by decide)))
  have f385 : FC Z h30 a0 "closingScale" "I" (.int v8) := f360.other W30 (Or.inr (slot_ne (Or.inl wl55) (Or.inl wl139) (by decide) (t := .int) (t' := .boolean) (by decide) (by decide)))
  have f386 : FC Z h30 a0 "madePaid" "J" (.long v11) := f361.other W30 (Or.inr (slot_ne (Or.inl wl131) (Or.inl wl139) (by decide) (t := .long) (t' := .boolean) (by decide) (by decide)))
  have f387 : FC Z h30 a0 "madeScale" "I" (.int (2 : Int32)) := f362.other W30 (Or.inr (slot_ne (Or.inl wl133) (Or.inl wl139) (by decide) (t := .int) (t' := .boolean) (by decide) (by decide)))
  have f388 : FC Z h30 a0 "raised" "J" (.long (0 : Int64)) := f363.other W30 (Or.inr (slot_ne (Or.inl wl135) (Or.inl wl139) (by decide) (t := .long) (t' := .boolean) (by decide) (by decide)))
  have f389 : FC Z h30 a0 "raisedScale" "I" (.int (0 : Int32)) := f364.other W30 (Or.inr (slot_ne (Or.inl wl137) (Or.inl wl139) (by decide) (t := .int) (t' := .boolean) (by decide) (by decide)))
  have Zp30 : n0 ≤ h30.size := Nat.le_trans Zp29 (Keep.of_wr W30).1
  have K30 : Keep h0 h30 [a0] := K29.wr W30 (Or.inl (List.mem_of_getElem? (i := 0) rfl))
  have N30 := Fr.snoc X30 N29 r1
  have f390 : FC Z h30 a0 "settled" "Z" (.int (0 : Int32)) := f346.same W30
  have go58 : Go p e below A0 (T30.setTop (mkF m 332 #[.val (.ref a0), .val (.long q1), .second, .val (.int (2 : Int32)), .val (.int (1 : Int32)), .val (.int (0 : Int32)), .val (.long v3), .second, .val (.long f_closing), .second, .val (.long r7_r), .second, .val (.long f_interest), .second, .val (.int (1 : Int32)), .val (.int (0 : Int32)), .val (.int v5), .val (.int v8), .unset, .val (.long v3), .second, .val (.int v5)] [(.int (1 : Int32))])) := by
    intro t k
    refine go57 t ?_
    refine st30 _ ?_
    show Steps p.tables e below (T30.setTop (mkF m 280 #[.val (.ref a0), .val (.long q1), .second, .val (.int (2 : Int32)), .val (.int (1 : Int32)), .val (.int (0 : Int32)), .val (.long v3), .second, .val (.long f_closing), .second, .val (.long r7_r), .second, .val (.long f_interest), .second, .val (.int (1 : Int32)), .val (.int (0 : Int32)), .val (.int v5), .val (.int v8), .unset, .val (.long v3), .second, .val (.int v5)] [])) _
    refine o_iload X30 hx hby d12_280 282 rfl rfl ?_
    refine o_ifY X30 hx hby d12_282 330 rfl (teq (show (0 : Int32) = (0 : Int32) by decide)).1 ?_
    refine o_iload X30 hx hby d12_330 332 rfl rfl ?_
    exact k
  have hF : (1 : Int32) = (1 : Int32) := by subst hv1; subst hv2; subst hv3; subst hv4; subst hv5; subst hv6; subst hv7; subst hv8; subst hv9; subst hv10; subst hv11; first | rfl | simp only [*]
  subst hv1
  subst hv2
  subst hv3
  subst hv4
  subst hv5
  subst hv6
  subst hv7
  subst hv8
  subst hv9
  subst hv10
  subst hv11
  rw [hA0] at go58
  obtain ⟨fs, hr, hrun, hended, hW, hsame⟩ := X30.leave (v := some (.int (1 : Int32))) (fun h => by rw [Bd.returns] at h; cases h)
  refine ⟨_, _, go58 _ (o_retI X30 hx Bd.returns (hb hby d12_332) hr), hrun, hended, _, _, rfl, ?_, ⟨_, rfl⟩, hW, hsame.mono (by decide) (by decide)⟩
  show Q12 Z a0 q1 f_balloon f_balloonScale f_closing f_closingScale f_perPeriodNumerator f_perPeriodDenominator f_reciprocal f_exactUpTo f_opening f_interest f_owedBefore f_openingScale f_payment f_paymentScale f_principal f_principalScale f_madePaid f_madeScale f_raised f_raisedScale f_settled f_tallied f_talliedScale f_indexation f_indexationScale h0 n0 _ T30.heap _
  rw [e30]
  exact ⟨r7_r, by rw [← hF], N30, K30, f366, f367, f384, f385, f376, f379, f378, f377, f380, f381, f382, f383, f386, f387, f388, f389, f390, f372, f373, f374, f375, qf7_0, trivial⟩
theorem d19_0 : decode prog_12_method_24_code 0 = .ok (.aload_n 0, 1) := by decide +kernel
theorem d19_1 : decode prog_12_method_24_code 1 = .ok (.aload_n 0, 1) := by decide +kernel
theorem d19_2 : decode prog_12_method_24_code 2 = .ok (.getfield 57, 3) := by decide +kernel
theorem d19_5 : decode prog_12_method_24_code 5 = .ok (.aload_n 0, 1) := by decide +kernel
theorem d19_6 : decode prog_12_method_24_code 6 = .ok (.getfield 157, 3) := by decide +kernel
theorem d19_9 : decode prog_12_method_24_code 9 = .ok (.iload_n 1, 1) := by decide +kernel
theorem d19_10 : decode prog_12_method_24_code 10 = .ok (.i2l, 1) := by decide +kernel
theorem d19_11 : decode prog_12_method_24_code 11 = .ok (.lconst 1, 1) := by decide +kernel
theorem d19_12 : decode prog_12_method_24_code 12 = .ok (.lsub, 1) := by decide +kernel
theorem d19_13 : decode prog_12_method_24_code 13 = .ok (.lmul, 1) := by decide +kernel
theorem d19_14 : decode prog_12_method_24_code 14 = .ok (.lsub, 1) := by decide +kernel
theorem d19_15 : decode prog_12_method_24_code 15 = .ok (.putfield 95, 3) := by decide +kernel
theorem d19_18 : decode prog_12_method_24_code 18 = .ok (.aload_n 0, 1) := by decide +kernel
theorem d19_19 : decode prog_12_method_24_code 19 = .ok (.aload_n 0, 1) := by decide +kernel
theorem d19_20 : decode prog_12_method_24_code 20 = .ok (.getfield 60, 3) := by decide +kernel
theorem d19_23 : decode prog_12_method_24_code 23 = .ok (.putfield 98, 3) := by decide +kernel
theorem d19_26 : decode prog_12_method_24_code 26 = .ok (.aload_n 0, 1) := by decide +kernel
theorem d19_27 : decode prog_12_method_24_code 27 = .ok (.aload_n 0, 1) := by decide +kernel
theorem d19_28 : decode prog_12_method_24_code 28 = .ok (.getfield 101, 3) := by decide +kernel
theorem d19_31 : decode prog_12_method_24_code 31 = .ok (.putfield 104, 3) := by decide +kernel
theorem d19_34 : decode prog_12_method_24_code 34 = .ok (.aload_n 0, 1) := by decide +kernel
theorem d19_35 : decode prog_12_method_24_code 35 = .ok (.aload_n 0, 1) := by decide +kernel
theorem d19_36 : decode prog_12_method_24_code 36 = .ok (.getfield 95, 3) := by decide +kernel
theorem d19_39 : decode prog_12_method_24_code 39 = .ok (.aload_n 0, 1) := by decide +kernel
theorem d19_40 : decode prog_12_method_24_code 40 = .ok (.getfield 157, 3) := by decide +kernel
theorem d19_43 : decode prog_12_method_24_code 43 = .ok (.lsub, 1) := by decide +kernel
theorem d19_44 : decode prog_12_method_24_code 44 = .ok (.putfield 57, 3) := by decide +kernel
theorem d19_47 : decode prog_12_method_24_code 47 = .ok (.aload_n 0, 1) := by decide +kernel
theorem d19_48 : decode prog_12_method_24_code 48 = .ok (.dup, 1) := by decide +kernel
theorem d19_49 : decode prog_12_method_24_code 49 = .ok (.getfield 163, 3) := by decide +kernel
theorem d19_52 : decode prog_12_method_24_code 52 = .ok (.aload_n 0, 1) := by decide +kernel
theorem d19_53 : decode prog_12_method_24_code 53 = .ok (.getfield 151, 3) := by decide +kernel
theorem d19_56 : decode prog_12_method_24_code 56 = .ok (.iload_n 1, 1) := by decide +kernel
theorem d19_57 : decode prog_12_method_24_code 57 = .ok (.i2l, 1) := by decide +kernel
theorem d19_58 : decode prog_12_method_24_code 58 = .ok (.lmul, 1) := by decide +kernel
theorem d19_59 : decode prog_12_method_24_code 59 = .ok (.ladd, 1) := by decide +kernel
theorem d19_60 : decode prog_12_method_24_code 60 = .ok (.putfield 163, 3) := by decide +kernel
theorem d19_63 : decode prog_12_method_24_code 63 = .ok (.return_, 1) := by decide +kernel
theorem ef_19 (m : MethodId) (x0 : Addr) (x1 : Int32) : entryFrame m #[(.ref x0), (.int x1)] 2 = mkF m 0 #[.val (.ref x0), .val (.int x1)] [] := by first | (simp [entryFrame, mkF, argsToLocals, Value.category]; done) | rfl
def Q19 (Z : State) (a0 : Addr) (p1 : Int32) (f_balloon : Int64) (f_balloonScale : Int32) (f_closing : Int64) (f_closingScale : Int32) (f_opening : Int64) (f_interest : Int64) (f_owedBefore : Int64) (f_openingScale : Int32) (f_payment : Int64) (f_paymentScale : Int32) (f_principal : Int64) (f_principalScale : Int32) (f_madePaid : Int64) (f_madeScale : Int32) (f_raised : Int64) (f_raisedScale : Int32) (f_settled : Int32) (f_tallied : Int64) (f_talliedScale : Int32) (f_indexation : Int64) (f_indexationScale : Int32) (h0 : Heap) (n0 : Nat) (v : Option Value) (h : Heap) (L : List Loc) : Prop := v = none ∧ Fr n0 L ∧ Keep h0 h [a0] ∧ FC Z h a0 "balloon" "J" (.long f_balloon) ∧ FC Z h a0 "balloonScale" "I" (.int f_balloonScale) ∧ FC Z h a0 "closing" "J" (.long ((f_closing - (f_principal * ((p1.toInt64) - (1 : Int64)))) - f_principal)) ∧ FC Z h a0 "closingScale" "I" (.int f_closingScale) ∧ FC Z h a0 "opening" "J" (.long (f_closing - (f_principal * ((p1.toInt64) - (1 : Int64))))) ∧ FC Z h a0 "interest" "J" (.long f_interest) ∧ FC Z h a0 "owedBefore" "J" (.long f_interest) ∧ FC Z h a0 "openingScale" "I" (.int f_closingScale) ∧ FC Z h a0 "payment" "J" (.long f_payment) ∧ FC Z h a0 "paymentScale" "I" (.int f_paymentScale) ∧ FC Z h a0 "principal" "J" (.long f_principal) ∧ FC Z h a0 "principalScale" "I" (.int f_principalScale) ∧ FC Z h a0 "madePaid" "J" (.long (f_madePaid + (f_payment * (p1.toInt64)))) ∧ FC Z h a0 "madeScale" "I" (.int f_madeScale) ∧ FC Z h a0 "raised" "J" (.long f_raised) ∧ FC Z h a0 "raisedScale" "I" (.int f_raisedScale) ∧ FC Z h a0 "settled" "Z" (.int f_settled) ∧ FC Z h a0 "tallied" "J" (.long f_tallied) ∧ FC Z h a0 "talliedScale" "I" (.int f_talliedScale) ∧ FC Z h a0 "indexation" "J" (.long f_indexation) ∧ FC Z h a0 "indexationScale" "I" (.int f_indexationScale) ∧ True
set_option maxRecDepth 65536 in
set_option maxHeartbeats 40000000 in
theorem rm19 (l : Launch) (Z : State) (aw : Array Value) (hw : ∀ d ∈ tables_1, d.before aw Z = true) (ws : List Jvm.Cond) (a0 : Addr) (p1 : Int32) (f_balloon : Int64) (f_balloonScale : Int32) (f_closing : Int64) (f_closingScale : Int32) (f_opening : Int64) (f_interest : Int64) (f_owedBefore : Int64) (f_openingScale : Int32) (f_payment : Int64) (f_paymentScale : Int32) (f_principal : Int64) (f_principalScale : Int32) (f_madePaid : Int64) (f_madeScale : Int32) (f_raised : Int64) (f_raisedScale : Int32) (f_settled : Int32) (f_tallied : Int64) (f_talliedScale : Int32) (f_indexation : Int64) (f_indexationScale : Int32) (h0 : Heap) (n0 : Nat) (Z0 : n0 ≤ h0.size) (r0 : Exa Z h0 a0 "com/example/amortine/amortine/CentAmounts") (r1 : n0 ≤ a0) (r2 : FC Z h0 a0 "balloon" "J" (.long f_balloon)) (r3 : FC Z h0 a0 "balloonScale" "I" (.int f_balloonScale)) (r4 : FC Z h0 a0 "closing" "J" (.long f_closing)) (r5 : FC Z h0 a0 "closingScale" "I" (.int f_closingScale)) (r6 : FC Z h0 a0 "opening" "J" (.long f_opening)) (r7 : FC Z h0 a0 "interest" "J" (.long f_interest)) (r8 : FC Z h0 a0 "owedBefore" "J" (.long f_owedBefore)) (r9 : FC Z h0 a0 "openingScale" "I" (.int f_openingScale)) (r10 : FC Z h0 a0 "payment" "J" (.long f_payment)) (r11 : FC Z h0 a0 "paymentScale" "I" (.int f_paymentScale)) (r12 : FC Z h0 a0 "principal" "J" (.long f_principal)) (r13 : FC Z h0 a0 "principalScale" "I" (.int f_principalScale)) (r14 : FC Z h0 a0 "madePaid" "J" (.long f_madePaid)) (r15 : FC Z h0 a0 "madeScale" "I" (.int f_madeScale)) (r16 : FC Z h0 a0 "raised" "J" (.long f_raised)) (r17 : FC Z h0 a0 "raisedScale" "I" (.int f_raisedScale)) (r18 : FC Z h0 a0 "settled" "Z" (.int f_settled)) (r19 : FC Z h0 a0 "tallied" "J" (.long f_tallied)) (r20 : FC Z h0 a0 "talliedScale" "I" (.int f_talliedScale)) (r21 : FC Z h0 a0 "indexation" "J" (.long f_indexation)) (r22 : FC Z h0 a0 "indexationScale" "I" (.int f_indexationScale)) :
    MetFree l (⟨"com/example/amortine/amortine/CentAmounts", "repeat", "(I)V"⟩ : MethodName) (head1 (Jvm.Cond.code (⟨"com/example/amortine/amortine/CentAmounts", "repeat", "(I)V"⟩ : MethodName) prog_12_method_24_code 2 none :: ws) ({ frames := 0, cells := 0, slots := 0, locals := 0 } : Room)) (fun a U => a = #[(.ref a0), (.int p1)] ∧ Z.Warmed39 U.vm ∧ U.heap = h0) (fun _ _ _ _ _ => True) (fun _ U o U' => ∃ v L, o = .returned v ∧ Q19 Z a0 p1 f_balloon f_balloonScale f_closing f_closingScale f_opening f_interest f_owedBefore f_openingScale f_payment f_paymentScale f_principal f_principalScale f_madePaid f_madeScale f_raised f_raisedScale f_settled f_tallied f_talliedScale f_indexation f_indexationScale h0 n0 v U'.heap L ∧ FrameEnd U o U' L ({ frames := 0, cells := 0, slots := 0, locals := 0 } : Room).cells ({ frames := 0, cells := 0, slots := 0, locals := 0 } : Room).slots) := by
  refine MetFree.of_bodySF (plainFor_of_name pn_7) hisR ?_
  intro p e s m args below meth c s₁ Bd hml0 hP hK
  obtain ⟨rfl, hZ, hh⟩ := hP
  have hx := Bd.exec
  have hby := Bd.bytes
  have hml : c.maxLocals = 2 := hml0
  have hown : s.vm.findClass "com/example/amortine/amortine/CentAmounts" = some m.cls := findClass_of_methodNamed Bd.named
  have hnm := (name_of_methodNamed Bd.named Bd.method).1
  have X0 : Stand p l e ({ frames := 0, cells := 0, slots := 0, locals := 0 } : Room) s m #[(.ref a0), (.int p1)] below meth c s₁ [] 0 0 := Stand.of_body Bd
  have e0 : s₁.heap = h0 := by rw [← hh, Bd.state]; rfl
  have N0 := Fr.nil n0
  obtain ⟨A0, hA0⟩ : ∃ A0, A0 = s₁.setTop (entryFrame m #[(.ref a0), (.int p1)] 2) := ⟨_, rfl⟩
  have go0 : Go p e below A0 (s₁.setTop (mkF m 0 #[.val (.ref a0), .val (.int p1)] [])) := fun t k => by rw [hA0]; exact castTop (ef_19 m a0 p1) k
  have wl49 : (Jvm.Cond.laysFinal "com/example/amortine/amortine/CentAmounts" "com/example/amortine/amortine/CentAmounts" "balloon" "J").before aw Z = true := (hw _ (List.mem_of_getElem? (i := 49) rfl))
  have wl51 : (Jvm.Cond.laysFinal "com/example/amortine/amortine/CentAmounts" "com/example/amortine/amortine/CentAmounts" "balloonScale" "I").before aw Z = true := (hw _ (List.mem_of_getElem? (i := 51) rfl))
  have wl53 : (Jvm.Cond.lays "com/example/amortine/amortine/CentAmounts" "com/example/amortine/amortine/CentAmounts" "closing" "J").before aw Z = true := (hw _ (List.mem_of_getElem? (i := 53) rfl))
  have wl55 : (Jvm.Cond.lays "com/example/amortine/amortine/CentAmounts" "com/example/amortine/amortine/CentAmounts" "closingScale" "I").before aw Z = true := (hw _ (List.mem_of_getElem? (i := 55) rfl))
  have wl96 : (Jvm.Cond.lays "com/example/amortine/amortine/CentAmounts" "com/example/amortine/amortine/CentAmounts" "opening" "J").before aw Z = true := (hw _ (List.mem_of_getElem? (i := 96) rfl))
  have wl98 : (Jvm.Cond.lays "com/example/amortine/amortine/CentAmounts" "com/example/amortine/amortine/CentAmounts" "interest" "J").before aw Z = true := (hw _ (List.mem_of_getElem? (i := 98) rfl))
  have wl100 : (Jvm.Cond.lays "com/example/amortine/amortine/CentAmounts" "com/example/amortine/amortine/CentAmounts" "owedBefore" "J").before aw Z = true := (hw _ (List.mem_of_getElem? (i := 100) rfl))
  have wl121 : (Jvm.Cond.lays "com/example/amortine/amortine/CentAmounts" "com/example/amortine/amortine/CentAmounts" "openingScale" "I").before aw Z = true := (hw _ (List.mem_of_getElem? (i := 121) rfl))
  have wl123 : (Jvm.Cond.lays "com/example/amortine/amortine/CentAmounts" "com/example/amortine/amortine/CentAmounts" "payment" "J").before aw Z = true := (hw _ (List.mem_of_getElem? (i := 123) rfl))
  have wl125 : (Jvm.Cond.lays "com/example/amortine/amortine/CentAmounts" "com/example/amortine/amortine/CentAmounts" "paymentScale" "I").before aw Z = true := (hw _ (List.mem_of_getElem? (i := 125) rfl))
  have wl127 : (Jvm.Cond.lays "com/example/amortine/amortine/CentAmounts" "com/example/amortine/amortine/CentAmounts" "principal" "J").before aw Z = true := (hw _ (List.mem_of_getElem? (i := 127) rfl))
  have wl129 : (Jvm.Cond.lays "com/example/amortine/amortine/CentAmounts" "com/example/amortine/amortine/CentAmounts" "principalScale" "I").before aw Z = true := (hw _ (List.mem_of_getElem? (i := 129) rfl))
  have wl131 : (Jvm.Cond.lays "com/example/amortine/amortine/CentAmounts" "com/example/amortine/amortine/CentAmounts" "madePaid" "J").before aw Z = true := (hw _ (List.mem_of_getElem? (i := 131) rfl))
  have wl133 : (Jvm.Cond.lays "com/example/amortine/amortine/CentAmounts" "com/example/amortine/amortine/CentAmounts" "madeScale" "I").before aw Z = true := (hw _ (List.mem_of_getElem? (i := 133) rfl))
  have wl135 : (Jvm.Cond.lays "com/example/amortine/amortine/CentAmounts" "com/example/amortine/amortine/CentAmounts" "raised" "J").before aw Z = true := (hw _ (List.mem_of_getElem? (i := 135) rfl))
  have wl137 : (Jvm.Cond.lays "com/example/amortine/amortine/CentAmounts" "com/example/amortine/amortine/CentAmounts" "raisedScale" "I").before aw Z = true := (hw _ (List.mem_of_getElem? (i := 137) rfl))
  have wl139 : (Jvm.Cond.lays "com/example/amortine/amortine/CentAmounts" "com/example/amortine/amortine/CentAmounts" "settled" "Z").before aw Z = true := (hw _ (List.mem_of_getElem? (i := 139) rfl))
  have wl161 : (Jvm.Cond.lays "com/example/amortine/amortine/CentAmounts" "com/example/amortine/amortine/CentAmounts" "tallied" "J").before aw Z = true := (hw _ (List.mem_of_getElem? (i := 161) rfl))
  have wl163 : (Jvm.Cond.lays "com/example/amortine/amortine/CentAmounts" "com/example/amortine/amortine/CentAmounts" "talliedScale" "I").before aw Z = true := (hw _ (List.mem_of_getElem? (i := 163) rfl))
  have wl165 : (Jvm.Cond.lays "com/example/amortine/amortine/CentAmounts" "com/example/amortine/amortine/CentAmounts" "indexation" "J").before aw Z = true := (hw _ (List.mem_of_getElem? (i := 165) rfl))
  have wl167 : (Jvm.Cond.lays "com/example/amortine/amortine/CentAmounts" "com/example/amortine/amortine/CentAmounts" "indexationScale" "I").before aw Z = true := (hw _ (List.mem_of_getElem? (i := 167) rfl))
  obtain ⟨T1, X1, e1, st1⟩ := getF X0 hx hZ hown (host := "") (Or.inl (hw _ (List.mem_of_getElem? (i := 52) rfl))) Via.refl e0 r4 (g := (mkF m 2 #[.val (.ref a0), .val (.int p1)] [(.ref a0), (.ref a0)])) rfl rfl (hb hby d19_2)
  obtain ⟨T2, X2, e2, st2⟩ := getF X1 hx hZ hown (host := "") (Or.inl (hw _ (List.mem_of_getElem? (i := 126) rfl))) Via.refl e1 r12 (g := (mkF m 6 #[.val (.ref a0), .val (.int p1)] [(.ref a0), (.long f_closing), (.ref a0)])) rfl rfl (hb hby d19_6)
  have go1 : Go p e below A0 (T2.setTop (mkF m 15 #[.val (.ref a0), .val (.int p1)] [(.long (f_closing - (f_principal * ((p1.toInt64) - (1 : Int64))))), (.ref a0)])) := by
    intro t k
    refine go0 t ?_
    refine o_aloadN X0 hx hby d19_0 1 rfl rfl rfl ?_
    refine o_aloadN X0 hx hby d19_1 2 rfl rfl rfl ?_
    refine st1 _ ?_
    show Steps p.tables e below (T1.setTop (mkF m 5 #[.val (.ref a0), .val (.int p1)] [(.long f_closing), (.ref a0)])) _
    refine o_aloadN X1 hx hby d19_5 6 rfl rfl rfl ?_
    refine st2 _ ?_
    show Steps p.tables e below (T2.setTop (mkF m 9 #[.val (.ref a0), .val (.int p1)] [(.long f_principal), (.long f_closing), (.ref a0)])) _
    refine o_iloadN X2 hx hby d19_9 10 rfl rfl ?_
    refine o_i2l X2 hx hby d19_10 11 rfl ?_
    refine o_lconst X2 hx hby d19_11 12 rfl (v := (1 : Int64)) rfl ?_
    refine o_lsub X2 hx hby d19_12 13 rfl ?_
    refine o_lmul X2 hx hby d19_13 14 rfl ?_
    refine o_lsub X2 hx hby d19_14 15 rfl ?_
    exact k
  obtain ⟨v1, hv1, go2⟩ : ∃ v1 : Int64, v1 = (f_closing - (f_principal * ((p1.toInt64) - (1 : Int64)))) ∧ Go p e below A0 (T2.setTop (mkF m 15 #[.val (.ref a0), .val (.int p1)] [(.long v1), (.ref a0)])) := ⟨_, rfl, go1⟩
  obtain ⟨T3, h3, X3, e3, W3, st3⟩ := putF X2 hx hZ hown (host := "") (Or.inl (hw _ (List.mem_of_getElem? (i := 95) rfl))) Via.refl e2 r6 r0 (Or.inl (hw _ (List.mem_of_getElem? (i := 96) rfl))) (hw _ (List.mem_of_getElem? (i := 40) rfl)) (ty := .long) (by decide) rfl rfl (g := (mkF m 15 #[.val (.ref a0), .val (.int p1)] [(.long v1), (.ref a0)])) rfl rfl (hb hby d19_15)
  have f1 : Exa Z h3 a0 "com/example/amortine/amortine/CentAmounts" := r0.wr W3
  have f2 : FC Z h3 a0 "balloon" "J" (.long f_balloon) := r2.other W3 (Or.inr (slot_ne (Or.inr wl49) (Or.inl wl96) (by decide) (t := .long) (t' := .long) (by decide) (by decide)))
  have f3 : FC Z h3 a0 "balloonScale" "I" (.int f_balloonScale) := r3.other W3 (Or.inr (slot_ne (Or.inr wl51) (Or.inl wl96) (by decide) (t := .int) (t' := .long) (by decide) (by decide)))
  have f4 : FC Z h3 a0 "closing" "J" (.long f_closing) := r4.other W3 (Or.inr (slot_ne (Or.inl wl53) (Or.inl wl96) (by decide) (t := .long) (t' := .long) (by decide) (by decide)))
  have f5 : FC Z h3 a0 "closingScale" "I" (.int f_closingScale) := r5.other W3 (Or.inr (slot_ne (Or.inl wl55) (Or.inl wl96) (by decide) (t := .int) (t' := .long) (by decide) (by decide)))
  have f6 : FC Z h3 a0 "interest" "J" (.long f_interest) := r7.other W3 (Or.inr (slot_ne (Or.inl wl98) (Or.inl wl96) (by decide) (t := .long) (t' := .long) (by decide) (by decide)))
  have f7 : FC Z h3 a0 "owedBefore" "J" (.long f_owedBefore) := r8.other W3 (Or.inr (slot_ne (Or.inl wl100) (Or.inl wl96) (by decide) (t := .long) (t' := .long) (by decide) (by decide)))
  have f8 : FC Z h3 a0 "openingScale" "I" (.int f_openingScale) := r9.other W3 (Or.inr (slot_ne (Or.inl wl121) (Or.inl wl96) (by decide) (t := .int) (t' := .long) (by decide) (by decide)))
  have f9 : FC Z h3 a0 "payment" "J" (.long f_payment) := r10.other W3 (Or.inr (slot_ne (Or.inl wl123) (Or.inl wl96) (by decide) (t := .long) (t' := .long) (by decide) (by decide)))
  have f10 : FC Z h3 a0 "paymentScale" "I" (.int f_paymentScale) := r11.other W3 (Or.inr (slot_ne (Or.inl wl125) (Or.inl wl96) (by decide) (t := .int) (t' := .long) (by decide) (by decide)))
  have f11 : FC Z h3 a0 "principal" "J" (.long f_principal) := r12.other W3 (Or.inr (slot_ne (Or.inl wl127) (Or.inl wl96) (by decide) (t := .long) (t' := .long) (by decide) (by decide)))
  have f12 : FC Z h3 a0 "principalScale" "I" (.int f_principalScale) := r13.other W3 (Or.inr (slot_ne (Or.inl wl129) (Or.inl wl96) (by decide) (t := .int) (t' := .long) (by decide) (by decide)))
  have f13 : FC Z h3 a0 "madePaid" "J" (.long f_madePaid) := r14.other W3 (Or.inr (slot_ne (Or.inl wl131) (Or.inl wl96) (by decide) (t := .long) (t' := .long) (by decide) (by decide)))
  have f14 : FC Z h3 a0 "madeScale" "I" (.int f_madeScale) := r15.other W3 (Or.inr (slot_ne (Or.inl wl133) (Or.inl wl96) (by decide) (t := .int) (t' := .long) (by decide) (by decide)))
  have f15 : FC Z h3 a0 "raised" "J" (.long f_raised) := r16.other W3 (Or.inr (slot_ne (Or.inl wl135) (Or.inl wl96) (by decide) (t := .long) (t' := .long) (by decide) (by decide)))
  have f16 : FC Z h3 a0 "raisedScale" "I" (.int f_raisedScale) := r17.other W3 (Or.inr (slot_ne (Or.inl wl137) (Or.inl wl96) (by decide) (t := .int) (t' := .long) (by decide) (by decide)))
  have f17 : FC Z h3 a0 "settled" "Z" (.int f_settled) := r18.other W3 (Or.inr (slot_ne (Or.inl wl139) (Or.inl wl96) (by decide) (t := .boolean) (t' := .long) (by decide) (by decide)))
  have f18 : FC Z h3 a0 "tallied" "J" (.long f_tallied) := r19.other W3 (Or.inr (slot_ne (Or.inl wl161) (Or.inl wl96) (by decide) (t := .long) (t' := .long) (by decide) (by decide)))
  have f19 : FC Z h3 a0 "talliedScale" "I" (.int f_talliedScale) := r20.other W3 (Or.inr (slot_ne (Or.inl wl163) (Or.inl wl96) (by decide) (t := .int) (t' := .long) (by decide) (by decide)))
  have f20 : FC Z h3 a0 "indexation" "J" (.long f_indexation) := r21.other W3 (Or.inr (slot_ne (Or.inl wl165) (Or.inl wl96) (by decide) (t := .long) (t' := .long) (by decide) (by decide)))
  have f21 : FC Z h3 a0 "indexationScale" "I" (.int f_indexationScale) := r22.other W3 (Or.inr (slot_ne (Or.inl wl167) (Or.inl wl96) (by decide) (t := .int) (t' := .long) (by decide) (by decide)))
  have Zp3 : n0 ≤ h3.size := Nat.le_trans Z0 (Keep.of_wr W3).1
  have K3 : Keep h0 h3 [a0] := (Keep.refl h0 [a0]).wr W3 (Or.inl (List.mem_of_getElem? (i := 0) rfl))
  have N3 := Fr.snoc X3 N0 r1
  have f22 : FC Z h3 a0 "opening" "J" (.long v1) := r6.same W3
  obtain ⟨T4, X4, e4, st4⟩ := getF X3 hx hZ hown (host := "") (Or.inl (hw _ (List.mem_of_getElem? (i := 54) rfl))) Via.refl e3 f5 (g := (mkF m 20 #[.val (.ref a0), .val (.int p1)] [(.ref a0), (.ref a0)])) rfl rfl (hb hby d19_20)
  have go3 : Go p e below A0 (T4.setTop (mkF m 23 #[.val (.ref a0), .val (.int p1)] [(.int f_closingScale), (.ref a0)])) := by
    intro t k
    refine go2 t ?_
    refine st3 _ ?_
    show Steps p.tables e below (T3.setTop (mkF m 18 #[.val (.ref a0), .val (.int p1)] [])) _
    refine o_aloadN X3 hx hby d19_18 19 rfl rfl rfl ?_
    refine o_aloadN X3 hx hby d19_19 20 rfl rfl rfl ?_
    refine st4 _ ?_
    show Steps p.tables e below (T4.setTop (mkF m 23 #[.val (.ref a0), .val (.int p1)] [(.int f_closingScale), (.ref a0)])) _
    exact k
  obtain ⟨T5, h5, X5, e5, W5, st5⟩ := putF X4 hx hZ hown (host := "") (Or.inl (hw _ (List.mem_of_getElem? (i := 120) rfl))) Via.refl e4 f8 f1 (Or.inl (hw _ (List.mem_of_getElem? (i := 121) rfl))) (hw _ (List.mem_of_getElem? (i := 40) rfl)) (ty := .int) (by decide) rfl rfl (g := (mkF m 23 #[.val (.ref a0), .val (.int p1)] [(.int f_closingScale), (.ref a0)])) rfl rfl (hb hby d19_23)
  have f23 : Exa Z h5 a0 "com/example/amortine/amortine/CentAmounts" := f1.wr W5
  have f24 : FC Z h5 a0 "balloon" "J" (.long f_balloon) := f2.other W5 (Or.inr (slot_ne (Or.inr wl49) (Or.inl wl121) (by decide) (t := .long) (t' := .int) (by decide) (by decide)))
  have f25 : FC Z h5 a0 "balloonScale" "I" (.int f_balloonScale) := f3.other W5 (Or.inr (slot_ne (Or.inr wl51) (Or.inl wl121) (by decide) (t := .int) (t' := .int) (by decide) (by decide)))
  have f26 : FC Z h5 a0 "closing" "J" (.long f_closing) := f4.other W5 (Or.inr (slot_ne (Or.inl wl53) (Or.inl wl121) (by decide) (t := .long) (t' := .int) (by decide) (by decide)))
  have f27 : FC Z h5 a0 "closingScale" "I" (.int f_closingScale) := f5.other W5 (Or.inr (slot_ne (Or.inl wl55) (Or.inl wl121) (by decide) (t := .int) (t' := .int) (by decide) (by decide)))
  have f28 : FC Z h5 a0 "interest" "J" (.long f_interest) := f6.other W5 (Or.inr (slot_ne (Or.inl wl98) (Or.inl wl121) (by decide) (t := .long) (t' := .int) (by decide) (by decide)))
  have f29 : FC Z h5 a0 "owedBefore" "J" (.long f_owedBefore) := f7.other W5 (Or.inr (slot_ne (Or.inl wl100) (Or.inl wl121) (by decide) (t := .long) (t' := .int) (by decide) (by decide)))
  have f30 : FC Z h5 a0 "payment" "J" (.long f_payment) := f9.other W5 (Or.inr (slot_ne (Or.inl wl123) (Or.inl wl121) (by decide) (t := .long) (t' := .int) (by decide) (by decide)))
  have f31 : FC Z h5 a0 "paymentScale" "I" (.int f_paymentScale) := f10.other W5 (Or.inr (slot_ne (Or.inl wl125) (Or.inl wl121) (by decide) (t := .int) (t' := .int) (by decide) (by decide)))
  have f32 : FC Z h5 a0 "principal" "J" (.long f_principal) := f11.other W5 (Or.inr (slot_ne (Or.inl wl127) (Or.inl wl121) (by decide) (t := .long) (t' := .int) (by decide) (by decide)))
  have f33 : FC Z h5 a0 "principalScale" "I" (.int f_principalScale) := f12.other W5 (Or.inr (slot_ne (Or.inl wl129) (Or.inl wl121) (by decide) (t := .int) (t' := .int) (by decide) (by decide)))
  have f34 : FC Z h5 a0 "madePaid" "J" (.long f_madePaid) := f13.other W5 (Or.inr (slot_ne (Or.inl wl131) (Or.inl wl121) (by decide) (t := .long) (t' := .int) (by decide) (by decide)))
  have f35 : FC Z h5 a0 "madeScale" "I" (.int f_madeScale) := f14.other W5 (Or.inr (slot_ne (Or.inl wl133) (Or.inl wl121) (by decide) (t := .int) (t' := .int) (by decide) (by decide)))
  have f36 : FC Z h5 a0 "raised" "J" (.long f_raised) := f15.other W5 (Or.inr (slot_ne (Or.inl wl135) (Or.inl wl121) (by decide) (t := .long) (t' := .int) (by decide) (by decide)))
  have f37 : FC Z h5 a0 "raisedScale" "I" (.int f_raisedScale) := f16.other W5 (Or.inr (slot_ne (Or.inl wl137) (Or.inl wl121) (by decide) (t := .int) (t' := .int) (by decide) (by decide)))
  have f38 : FC Z h5 a0 "settled" "Z" (.int f_settled) := f17.other W5 (Or.inr (slot_ne (Or.inl wl139) (Or.inl wl121) (by decide) (t := .boolean) (t' := .int) (by decide) (by decide)))
  have f39 : FC Z h5 a0 "tallied" "J" (.long f_tallied) := f18.other W5 (Or.inr (slot_ne (Or.inl wl161) (Or.inl wl121) (by decide) (t := .long) (t' := .int) (by decide) (by decide)))
  have f40 : FC Z h5 a0 "talliedScale" "I" (.int f_talliedScale) := f19.other W5 (Or.inr (slot_ne (Or.inl wl163) (Or.inl wl121) (by decide) (t := .int) (t' := .int) (by decide) (by decide)))
  have f41 : FC Z h5 a0 "indexation" "J" (.long f_indexation) := f20.other W5 (Or.inr (slot_ne (Or.inl wl165) (Or.inl wl121) (by decide) (t := .long) (t' := .int) (by decide) (by decide)))
  have f42 : FC Z h5 a0 "indexationScale" "I" (.int f_indexationScale) := f21.other W5 (Or.inr (slot_ne (Or.inl wl167) (Or.inl wl121) (by decide) (t := .int) (t' := .int) (by decide) (by decide)))
  have f43 : FC Z h5 a0 "opening" "J" (.long v1) := f22.other W5 (Or.inr (slot_ne (Or.inl wl96) (Or.inl wl121) (by decide) (t := .long) (t' := .int) (by decide) (by decide)))
  have Zp5 : n0 ≤ h5.size := Nat.le_trans Zp3 (Keep.of_wr W5).1
  have K5 : Keep h0 h5 [a0] := K3.wr W5 (Or.inl (List.mem_of_getElem? (i := 0) rfl))
  have N5 := Fr.snoc X5 N3 r1
  have f44 : FC Z h5 a0 "openingScale" "I" (.int f_closingScale) := f8.same W5
  obtain ⟨T6, X6, e6, st6⟩ := getF X5 hx hZ hown (host := "") (Or.inl (hw _ (List.mem_of_getElem? (i := 97) rfl))) Via.refl e5 f28 (g := (mkF m 28 #[.val (.ref a0), .val (.int p1)] [(.ref a0), (.ref a0)])) rfl rfl (hb hby d19_28)
  have go4 : Go p e below A0 (T6.setTop (mkF m 31 #[.val (.ref a0), .val (.int p1)] [(.long f_interest), (.ref a0)])) := by
    intro t k
    refine go3 t ?_
    refine st5 _ ?_
    show Steps p.tables e below (T5.setTop (mkF m 26 #[.val (.ref a0), .val (.int p1)] [])) _
    refine o_aloadN X5 hx hby d19_26 27 rfl rfl rfl ?_
    refine o_aloadN X5 hx hby d19_27 28 rfl rfl rfl ?_
    refine st6 _ ?_
    show Steps p.tables e below (T6.setTop (mkF m 31 #[.val (.ref a0), .val (.int p1)] [(.long f_interest), (.ref a0)])) _
    exact k
  obtain ⟨T7, h7, X7, e7, W7, st7⟩ := putF X6 hx hZ hown (host := "") (Or.inl (hw _ (List.mem_of_getElem? (i := 99) rfl))) Via.refl e6 f29 f23 (Or.inl (hw _ (List.mem_of_getElem? (i := 100) rfl))) (hw _ (List.mem_of_getElem? (i := 40) rfl)) (ty := .long) (by decide) rfl rfl (g := (mkF m 31 #[.val (.ref a0), .val (.int p1)] [(.long f_interest), (.ref a0)])) rfl rfl (hb hby d19_31)
  have f45 : Exa Z h7 a0 "com/example/amortine/amortine/CentAmounts" := f23.wr W7
  have f46 : FC Z h7 a0 "balloon" "J" (.long f_balloon) := f24.other W7 (Or.inr (slot_ne (Or.inr wl49) (Or.inl wl100) (by decide) (t := .long) (t' := .long) (by decide) (by decide)))
  have f47 : FC Z h7 a0 "balloonScale" "I" (.int f_balloonScale) := f25.other W7 (Or.inr (slot_ne (Or.inr wl51) (Or.inl wl100) (by decide) (t := .int) (t' := .long) (by decide) (by decide)))
  have f48 : FC Z h7 a0 "closing" "J" (.long f_closing) := f26.other W7 (Or.inr (slot_ne (Or.inl wl53) (Or.inl wl100) (by decide) (t := .long) (t' := .long) (by decide) (by decide)))
  have f49 : FC Z h7 a0 "closingScale" "I" (.int f_closingScale) := f27.other W7 (Or.inr (slot_ne (Or.inl wl55) (Or.inl wl100) (by decide) (t := .int) (t' := .long) (by decide) (by decide)))
  have f50 : FC Z h7 a0 "interest" "J" (.long f_interest) := f28.other W7 (Or.inr (slot_ne (Or.inl wl98) (Or.inl wl100) (by decide) (t := .long) (t' := .long) (by decide) (by decide)))
  have f51 : FC Z h7 a0 "payment" "J" (.long f_payment) := f30.other W7 (Or.inr (slot_ne (Or.inl wl123) (Or.inl wl100) (by decide) (t := .long) (t' := .long) (by decide) (by decide)))
  have f52 : FC Z h7 a0 "paymentScale" "I" (.int f_paymentScale) := f31.other W7 (Or.inr (slot_ne (Or.inl wl125) (Or.inl wl100) (by decide) (t := .int) (t' := .long) (by decide) (by decide)))
  have f53 : FC Z h7 a0 "principal" "J" (.long f_principal) := f32.other W7 (Or.inr (slot_ne (Or.inl wl127) (Or.inl wl100) (by decide) (t := .long) (t' := .long) (by decide) (by decide)))
  have f54 : FC Z h7 a0 "principalScale" "I" (.int f_principalScale) := f33.other W7 (Or.inr (slot_ne (Or.inl wl129) (Or.inl wl100) (by decide) (t := .int) (t' := .long) (by decide) (by decide)))
  have f55 : FC Z h7 a0 "madePaid" "J" (.long f_madePaid) := f34.other W7 (Or.inr (slot_ne (Or.inl wl131) (Or.inl wl100) (by decide) (t := .long) (t' := .long) (by decide) (by decide)))
  have f56 : FC Z h7 a0 "madeScale" "I" (.int f_madeScale) := f35.other W7 (Or.inr (slot_ne (Or.inl wl133) (Or.inl wl100) (by decide) (t := .int) (t' := .long) (by decide) (by decide)))
  have f57 : FC Z h7 a0 "raised" "J" (.long f_raised) := f36.other W7 (Or.inr (slot_ne (Or.inl wl135) (Or.inl wl100) (by decide) (t := .long) (t' := .long) (by decide) (by decide)))
  have f58 : FC Z h7 a0 "raisedScale" "I" (.int f_raisedScale) := f37.other W7 (Or.inr (slot_ne (Or.inl wl137) (Or.inl wl100) (by decide) (t := .int) (t' := .long) (by decide) (by decide)))
  have f59 : FC Z h7 a0 "settled" "Z" (.int f_settled) := f38.other W7 (Or.inr (slot_ne (Or.inl wl139) (Or.inl wl100) (by decide) (t := .boolean) (t' := .long) (by decide) (by decide)))
  have f60 : FC Z h7 a0 "tallied" "J" (.long f_tallied) := f39.other W7 (Or.inr (slot_ne (Or.inl wl161) (Or.inl wl100) (by decide) (t := .long) (t' := .long) (by decide) (by decide)))
  have f61 : FC Z h7 a0 "talliedScale" "I" (.int f_talliedScale) := f40.other W7 (Or.inr (slot_ne (Or.inl wl163) (Or.inl wl100) (by decide) (t := .int) (t' := .long) (by decide) (by decide)))
  have f62 : FC Z h7 a0 "indexation" "J" (.long f_indexation) := f41.other W7 (Or.inr (slot_ne (Or.inl wl165) (Or.inl wl100) (by decide) (t := .long) (t' := .long) (by decide) (by decide)))
  have f63 : FC Z h7 a0 "indexationScale" "I" (.int f_indexationScale) := f42.other W7 (Or.inr (slot_ne (Or.inl wl167) (Or.inl wl100) (by decide) (t := .int) (t' := .long) (by decide) (by decide)))
  have f64 : FC Z h7 a0 "opening" "J" (.long v1) := f43.other W7 (Or.inr (slot_ne (Or.inl wl96) (Or.inl wl100) (by decide) (t := .long) (t' := .long) (by decide) (by decide)))
  have f65 : FC Z h7 a0 "openingScale" "I" (.int f_closingScale) := f44.other W7 (Or.inr (slot_ne (Or.inl wl121) (Or.inl wl100) (by decide) (t := .int) (t' := .long) (by decide) (by decide)))
  have Zp7 : n0 ≤ h7.size := Nat.le_trans Zp5 (Keep.of_wr W7).1
  have K7 : Keep h0 h7 [a0] := K5.wr W7 (Or.inl (List.mem_of_getElem? (i := 0) rfl))
  have N7 := Fr.snoc X7 N5 r1
  have f66 : FC Z h7 a0 "owedBefore" "J" (.long f_interest) := f29.same W7
  obtain ⟨T8, X8, e8, st8⟩ := getF X7 hx hZ hown (host := "") (Or.inl (hw _ (List.mem_of_getElem? (i := 95) rfl))) Via.refl e7 f64 (g := (mkF m 36 #[.val (.ref a0), .val (.int p1)] [(.ref a0), (.ref a0)])) rfl rfl (hb hby d19_36)
  obtain ⟨T9, X9, e9, st9⟩ := getF X8 hx hZ hown (host := "") (Or.inl (hw _ (List.mem_of_getElem? (i := 126) rfl))) Via.refl e8 f53 (g := (mkF m 40 #[.val (.ref a0), .val (.int p1)] [(.ref a0), (.long v1), (.ref a0)])) rfl rfl (hb hby d19_40)
  have go5 : Go p e below A0 (T9.setTop (mkF m 44 #[.val (.ref a0), .val (.int p1)] [(.long (v1 - f_principal)), (.ref a0)])) := by
    intro t k
    refine go4 t ?_
    refine st7 _ ?_
    show Steps p.tables e below (T7.setTop (mkF m 34 #[.val (.ref a0), .val (.int p1)] [])) _
    refine o_aloadN X7 hx hby d19_34 35 rfl rfl rfl ?_
    refine o_aloadN X7 hx hby d19_35 36 rfl rfl rfl ?_
    refine st8 _ ?_
    show Steps p.tables e below (T8.setTop (mkF m 39 #[.val (.ref a0), .val (.int p1)] [(.long v1), (.ref a0)])) _
    refine o_aloadN X8 hx hby d19_39 40 rfl rfl rfl ?_
    refine st9 _ ?_
    show Steps p.tables e below (T9.setTop (mkF m 43 #[.val (.ref a0), .val (.int p1)] [(.long f_principal), (.long v1), (.ref a0)])) _
    refine o_lsub X9 hx hby d19_43 44 rfl ?_
    exact k
  obtain ⟨v2, hv2, go6⟩ : ∃ v2 : Int64, v2 = (v1 - f_principal) ∧ Go p e below A0 (T9.setTop (mkF m 44 #[.val (.ref a0), .val (.int p1)] [(.long v2), (.ref a0)])) := ⟨_, rfl, go5⟩
  obtain ⟨T10, h10, X10, e10, W10, st10⟩ := putF X9 hx hZ hown (host := "") (Or.inl (hw _ (List.mem_of_getElem? (i := 52) rfl))) Via.refl e9 f48 f45 (Or.inl (hw _ (List.mem_of_getElem? (i := 53) rfl))) (hw _ (List.mem_of_getElem? (i := 40) rfl)) (ty := .long) (by decide) rfl rfl (g := (mkF m 44 #[.val (.ref a0), .val (.int p1)] [(.long v2), (.ref a0)])) rfl rfl (hb hby d19_44)
  have f67 : Exa Z h10 a0 "com/example/amortine/amortine/CentAmounts" := f45.wr W10
  have f68 : FC Z h10 a0 "balloon" "J" (.long f_balloon) := f46.other W10 (Or.inr (slot_ne (Or.inr wl49) (Or.inl wl53) (by decide) (t := .long) (t' := .long) (by decide) (by decide)))
  have f69 : FC Z h10 a0 "balloonScale" "I" (.int f_balloonScale) := f47.other W10 (Or.inr (slot_ne (Or.inr wl51) (Or.inl wl53) (by decide) (t := .int) (t' := .long) (by decide) (by decide)))
  have f70 : FC Z h10 a0 "closingScale" "I" (.int f_closingScale) := f49.other W10 (Or.inr (slot_ne (Or.inl wl55) (Or.inl wl53) (by decide) (t := .int) (t' := .long) (by decide) (by decide)))
  have f71 : FC Z h10 a0 "interest" "J" (.long f_interest) := f50.other W10 (Or.inr (slot_ne (Or.inl wl98) (Or.inl wl53) (by decide) (t := .long) (t' := .long) (by decide) (by decide)))
  have f72 : FC Z h10 a0 "payment" "J" (.long f_payment) := f51.other W10 (Or.inr (slot_ne (Or.inl wl123) (Or.inl wl53) (by decide) (t := .long) (t' := .long) (by decide) (by decide)))
  have f73 : FC Z h10 a0 "paymentScale" "I" (.int f_paymentScale) := f52.other W10 (Or.inr (slot_ne (Or.inl wl125) (Or.inl wl53) (by decide) (t := .int) (t' := .long) (by decide) (by decide)))
  have f74 : FC Z h10 a0 "principal" "J" (.long f_principal) := f53.other W10 (Or.inr (slot_ne (Or.inl wl127) (Or.inl wl53) (by decide) (t := .long) (t' := .long) (by decide) (by decide)))
  have f75 : FC Z h10 a0 "principalScale" "I" (.int f_principalScale) := f54.other W10 (Or.inr (slot_ne (Or.inl wl129) (Or.inl wl53) (by decide) (t := .int) (t' := .long) (by decide) (by decide)))
  have f76 : FC Z h10 a0 "madePaid" "J" (.long f_madePaid) := f55.other W10 (Or.inr (slot_ne (Or.inl wl131) (Or.inl wl53) (by decide) (t := .long) (t' := .long) (by decide) (by decide)))
  have f77 : FC Z h10 a0 "madeScale" "I" (.int f_madeScale) := f56.other W10 (Or.inr (slot_ne (Or.inl wl133) (Or.inl wl53) (by decide) (t := .int) (t' := .long) (by decide) (by decide)))
  have f78 : FC Z h10 a0 "raised" "J" (.long f_raised) := f57.other W10 (Or.inr (slot_ne (Or.inl wl135) (Or.inl wl53) (by decide) (t := .long) (t' := .long) (by decide) (by decide)))
  have f79 : FC Z h10 a0 "raisedScale" "I" (.int f_raisedScale) := f58.other W10 (Or.inr (slot_ne (Or.inl wl137) (Or.inl wl53) (by decide) (t := .int) (t' := .long) (by decide) (by decide)))
  have f80 : FC Z h10 a0 "settled" "Z" (.int f_settled) := f59.other W10 (Or.inr (slot_ne (Or.inl wl139) (Or.inl wl53) (by decide) (t := .boolean) (t' := .long) (by decide) (by decide)))
  have f81 : FC Z h10 a0 "tallied" "J" (.long f_tallied) := f60.other W10 (Or.inr (slot_ne (Or.inl wl161) (Or.inl wl53) (by decide) (t := .long) (t' := .long) (by decide) (by decide)))
  have f82 : FC Z h10 a0 "talliedScale" "I" (.int f_talliedScale) := f61.other W10 (Or.inr (slot_ne (Or.inl wl163) (Or.inl wl53) (by decide) (t := .int) (t' := .long) (by decide) (by decide)))
  have f83 : FC Z h10 a0 "indexation" "J" (.long f_indexation) := f62.other W10 (Or.inr (slot_ne (Or.inl wl165) (Or.inl wl53) (by decide) (t := .long) (t' := .long) (by decide) (by decide)))
  have f84 : FC Z h10 a0 "indexationScale" "I" (.int f_indexationScale) := f63.other W10 (Or.inr (slot_ne (Or.inl wl167) (Or.inl wl53) (by decide) (t := .int) (t' := .long) (by decide) (by decide)))
  have f85 : FC Z h10 a0 "opening" "J" (.long v1) := f64.other W10 (Or.inr (slot_ne (Or.inl wl96) (Or.inl wl53) (by decide) (t := .long) (t' := .long) (by decide) (by decide)))
  have f86 : FC Z h10 a0 "openingScale" "I" (.int f_closingScale) := f65.other W10 (Or.inr (slot_ne (Or.inl wl121) (Or.inl wl53) (by decide) (t := .int) (t' := .long) (by decide) (by decide)))
  have f87 : FC Z h10 a0 "owedBefore" "J" (.long f_interest) := f66.other W10 (Or.inr (slot_ne (Or.inl wl100) (Or.inl wl53) (by decide) (t := .long) (t' := .long) (by decide) (by decide)))
  have Zp10 : n0 ≤ h10.size := Nat.le_trans Zp7 (Keep.of_wr W10).1
  have K10 : Keep h0 h10 [a0] := K7.wr W10 (Or.inl (List.mem_of_getElem? (i := 0) rfl))
  have N10 := Fr.snoc X10 N7 r1
  have f88 : FC Z h10 a0 "closing" "J" (.long v2) := f48.same W10
  obtain ⟨T11, X11, e11, st11⟩ := getF X10 hx hZ hown (host := "") (Or.inl (hw _ (List.mem_of_getElem? (i := 130) rfl))) Via.refl e10 f76 (g := (mkF m 49 #[.val (.ref a0), .val (.int p1)] [(.ref a0), (.ref a0)])) rfl rfl (hb hby d19_49)
  obtain ⟨T12, X12, e12, st12⟩ := getF X11 hx hZ hown (host := "") (Or.inl (hw _ (List.mem_of_getElem? (i := 122) rfl))) Via.refl e11 f72 (g := (mkF m 53 #[.val (.ref a0), .val (.int p1)] [(.ref a0), (.long f_madePaid), (.ref a0)])) rfl rfl (hb hby d19_53)
  have go7 : Go p e below A0 (T12.setTop (mkF m 60 #[.val (.ref a0), .val (.int p1)] [(.long (f_madePaid + (f_payment * (p1.toInt64)))), (.ref a0)])) := by
    intro t k
    refine go6 t ?_
    refine st10 _ ?_
    show Steps p.tables e below (T10.setTop (mkF m 47 #[.val (.ref a0), .val (.int p1)] [])) _
    refine o_aloadN X10 hx hby d19_47 48 rfl rfl rfl ?_
    refine o_dup X10 hx hby d19_48 49 rfl rfl ?_
    refine st11 _ ?_
    show Steps p.tables e below (T11.setTop (mkF m 52 #[.val (.ref a0), .val (.int p1)] [(.long f_madePaid), (.ref a0)])) _
    refine o_aloadN X11 hx hby d19_52 53 rfl rfl rfl ?_
    refine st12 _ ?_
    show Steps p.tables e below (T12.setTop (mkF m 56 #[.val (.ref a0), .val (.int p1)] [(.long f_payment), (.long f_madePaid), (.ref a0)])) _
    refine o_iloadN X12 hx hby d19_56 57 rfl rfl ?_
    refine o_i2l X12 hx hby d19_57 58 rfl ?_
    refine o_lmul X12 hx hby d19_58 59 rfl ?_
    refine o_ladd X12 hx hby d19_59 60 rfl ?_
    exact k
  obtain ⟨v3, hv3, go8⟩ : ∃ v3 : Int64, v3 = (f_madePaid + (f_payment * (p1.toInt64))) ∧ Go p e below A0 (T12.setTop (mkF m 60 #[.val (.ref a0), .val (.int p1)] [(.long v3), (.ref a0)])) := ⟨_, rfl, go7⟩
  obtain ⟨T13, h13, X13, e13, W13, st13⟩ := putF X12 hx hZ hown (host := "") (Or.inl (hw _ (List.mem_of_getElem? (i := 130) rfl))) Via.refl e12 f76 f67 (Or.inl (hw _ (List.mem_of_getElem? (i := 131) rfl))) (hw _ (List.mem_of_getElem? (i := 40) rfl)) (ty := .long) (by decide) rfl rfl (g := (mkF m 60 #[.val (.ref a0), .val (.int p1)] [(.long v3), (.ref a0)])) rfl rfl (hb hby d19_60)
  have f89 : Exa Z h13 a0 "com/example/amortine/amortine/CentAmounts" := f67.wr W13
  have f90 : FC Z h13 a0 "balloon" "J" (.long f_balloon) := f68.other W13 (Or.inr (slot_ne (Or.inr wl49) (Or.inl wl131) (by decide) (t := .long) (t' := .long) (by decide) (by decide)))
  have f91 : FC Z h13 a0 "balloonScale" "I" (.int f_balloonScale) := f69.other W13 (Or.inr (slot_ne (Or.inr wl51) (Or.inl wl131) (by decide) (t := .int) (t' := .long) (by decide) (by decide)))
  have f92 : FC Z h13 a0 "closingScale" "I" (.int f_closingScale) := f70.other W13 (Or.inr (slot_ne (Or.inl wl55) (Or.inl wl131) (by decide) (t := .int) (t' := .long) (by decide) (by decide)))
  have f93 : FC Z h13 a0 "interest" "J" (.long f_interest) := f71.other W13 (Or.inr (slot_ne (Or.inl wl98) (Or.inl wl131) (by decide) (t := .long) (t' := .long) (by decide) (by decide)))
  have f94 : FC Z h13 a0 "payment" "J" (.long f_payment) := f72.other W13 (Or.inr (slot_ne (Or.inl wl123) (Or.inl wl131) (by decide) (t := .long) (t' := .long) (by decide) (by decide)))
  have f95 : FC Z h13 a0 "paymentScale" "I" (.int f_paymentScale) := f73.other W13 (Or.inr (slot_ne (Or.inl wl125) (Or.inl wl131) (by decide) (t := .int) (t' := .long) (by decide) (by decide)))
  have f96 : FC Z h13 a0 "principal" "J" (.long f_principal) := f74.other W13 (Or.inr (slot_ne (Or.inl wl127) (Or.inl wl131) (by decide) (t := .long) (t' := .long) (by decide) (by decide)))
  have f97 : FC Z h13 a0 "principalScale" "I" (.int f_principalScale) := f75.other W13 (Or.inr (slot_ne (Or.inl wl129) (Or.inl wl131) (by decide) (t := .int) (t' := .long) (by decide) (by decide)))
  have f98 : FC Z h13 a0 "madeScale" "I" (.int f_madeScale) := f77.other W13 (Or.inr (slot_ne (Or.inl wl133) (Or.inl wl131) (by decide) (t := .int) (t' := .long) (by decide) (by decide)))
  have f99 : FC Z h13 a0 "raised" "J" (.long f_raised) := f78.other W13 (Or.inr (slot_ne (Or.inl wl135) (Or.inl wl131) (by decide) (t := .long) (t' := .long) (by decide) (by decide)))
  have f100 : FC Z h13 a0 "raisedScale" "I" (.int f_raisedScale) := f79.other W13 (Or.inr (slot_ne (Or.inl wl137) (Or.inl wl131) (by decide) (t := .int) (t' := .long) (by decide) (by decide)))
  have f101 : FC Z h13 a0 "settled" "Z" (.int f_settled) := f80.other W13 (Or.inr (slot_ne (Or.inl wl139) (Or.inl wl131) (by decide) (t := .boolean) (t' := .long) (by decide) (by decide)))
  have f102 : FC Z h13 a0 "tallied" "J" (.long f_tallied) := f81.other W13 (Or.inr (slot_ne (Or.inl wl161) (Or.inl wl131) (by decide) (t := .long) (t' := .long) (by decide) (by decide)))
  have f103 : FC Z h13 a0 "talliedScale" "I" (.int f_talliedScale) := f82.other W13 (Or.inr (slot_ne (Or.inl wl163) (Or.inl wl131) (by decide) (t := .int) (t' := .long) (by decide) (by decide)))
  have f104 : FC Z h13 a0 "indexation" "J" (.long f_indexation) := f83.other W13 (Or.inr (slot_ne (Or.inl wl165) (Or.inl wl131) (by decide) (t := .long) (t' := .long) (by decide) (by decide)))
  have f105 : FC Z h13 a0 "indexationScale" "I" (.int f_indexationScale) := f84.other W13 (Or.inr (slot_ne (Or.inl wl167) (Or.inl wl131) (by decide) (t := .int) (t' := .long) (by decide) (by decide)))
  have f106 : FC Z h13 a0 "opening" "J" (.long v1) := f85.other W13 (Or.inr (slot_ne (Or.inl wl96) (Or.inl wl131) (by decide) (t := .long) (t' := .long) (by decide) (by decide)))
  have f107 : FC Z h13 a0 "openingScale" "I" (.int f_closingScale) := f86.other W13 (Or.inr (slot_ne (Or.inl wl121) (Or.inl wl131) (by decide) (t := .int) (t' := .long) (by decide) (by decide)))
  have f108 : FC Z h13 a0 "owedBefore" "J" (.long f_interest) := f87.other W13 (Or.inr (slot_ne (Or.inl wl100) (Or.inl wl131) (by decide) (t := .long) (t' := .long) (by decide) (by decide)))
  have f109 : FC Z h13 a0 "closing" "J" (.long v2) := f88.other W13 (Or.inr (slot_ne (Or.inl wl53) (Or.inl wl131) (by decide) (t := .long) (t' := .long) (by decide) (by decide)))
  have Zp13 : n0 ≤ h13.size := Nat.le_trans Zp10 (Keep.of_wr W13).1
  have K13 : Keep h0 h13 [a0] := K10.wr W13 (Or.inl (List.mem_of_getElem? (i := 0) rfl))
  have N13 := Fr.snoc X13 N10 r1
  have f110 : FC Z h13 a0 "madePaid" "J" (.long v3) := f76.same W13
  have go9 : Go p e below A0 (T13.setTop (mkF m 63 #[.val (.ref a0), .val (.int p1)] [])) := by
    intro t k
    refine go8 t ?_
    refine st13 _ ?_
    show Steps p.tables e below (T13.setTop (mkF m 63 #[.val (.ref a0), .val (.int p1)] [])) _
    exact k
  subst hv1
  subst hv2
  subst hv3
  rw [hA0] at go9
  obtain ⟨fs, hr, hrun, hended, hW, hsame⟩ := X13.leave (v := none) (fun _ => rfl)
  refine ⟨_, _, go9 _ (X13.returnOut hx Bd.returns (hb hby d19_63) hr), hrun, hended, _, _, rfl, ?_, ⟨_, rfl⟩, hW, hsame.mono (by decide) (by decide)⟩
  show Q19 Z a0 p1 f_balloon f_balloonScale f_closing f_closingScale f_opening f_interest f_owedBefore f_openingScale f_payment f_paymentScale f_principal f_principalScale f_madePaid f_madeScale f_raised f_raisedScale f_settled f_tallied f_talliedScale f_indexation f_indexationScale h0 n0 _ T13.heap _
  rw [e13]
  exact ⟨rfl, N13, K13, f90, f91, f109, f92, f106, f93, f108, f107, f94, f95, f96, f97, f110, f98, f99, f100, f101, f102, f103, f104, f105, trivial⟩
theorem d20_0 : decode prog_12_method_22_code 0 = .ok (.aload_n 0, 1) := by decide +kernel
theorem d20_1 : decode prog_12_method_22_code 1 = .ok (.getfield 101, 3) := by decide +kernel
theorem d20_4 : decode prog_12_method_22_code 4 = .ok (.aload_n 0, 1) := by decide +kernel
theorem d20_5 : decode prog_12_method_22_code 5 = .ok (.getfield 104, 3) := by decide +kernel
theorem d20_8 : decode prog_12_method_22_code 8 = .ok (.lcmp, 1) := by decide +kernel
theorem d20_9 : decode prog_12_method_22_code 9 = .ok (.ifCond .ne 7, 3) := by decide +kernel
theorem d20_12 : decode prog_12_method_22_code 12 = .ok (.iconst 1, 1) := by decide +kernel
theorem d20_13 : decode prog_12_method_22_code 13 = .ok (.goto 4, 3) := by decide +kernel
theorem d20_16 : decode prog_12_method_22_code 16 = .ok (.iconst 0, 1) := by decide +kernel
theorem d20_17 : decode prog_12_method_22_code 17 = .ok (.ireturn, 1) := by decide +kernel
theorem ef_20 (m : MethodId) (x0 : Addr) : entryFrame m #[(.ref x0)] 1 = mkF m 0 #[.val (.ref x0)] [] := by first | (simp [entryFrame, mkF, argsToLocals, Value.category]; done) | rfl
def Fst (f_interest : Int64) (f_owedBefore : Int64) : Int32 := let v1 : Int32 := (if f_interest = f_owedBefore then (1 : Int32) else (0 : Int32)); v1
def Q20 (Z : State) (a0 : Addr) (f_interest : Int64) (f_owedBefore : Int64) (h0 : Heap) (n0 : Nat) (v : Option Value) (h : Heap) (L : List Loc) : Prop := v = some (.int (Fst f_interest f_owedBefore)) ∧ Fr n0 L ∧ h = h0
set_option maxRecDepth 65536 in
set_option maxHeartbeats 40000000 in
theorem rm20 (l : Launch) (Z : State) (aw : Array Value) (hw : ∀ d ∈ tables_1, d.before aw Z = true) (ws : List Jvm.Cond) (a0 : Addr) (f_interest : Int64) (f_owedBefore : Int64) (h0 : Heap) (n0 : Nat) (Z0 : n0 ≤ h0.size) (r0 : Exa Z h0 a0 "com/example/amortine/amortine/CentAmounts") (r1 : FC Z h0 a0 "interest" "J" (.long f_interest)) (r2 : FC Z h0 a0 "owedBefore" "J" (.long f_owedBefore)) :
    MetFree l (⟨"com/example/amortine/amortine/CentAmounts", "steady", "()Z"⟩ : MethodName) (head1 (Jvm.Cond.code (⟨"com/example/amortine/amortine/CentAmounts", "steady", "()Z"⟩ : MethodName) prog_12_method_22_code 1 (some .boolean) :: ws) ({ frames := 0, cells := 0, slots := 0, locals := 0 } : Room)) (fun a U => a = #[(.ref a0)] ∧ Z.Warmed39 U.vm ∧ U.heap = h0) (fun _ _ _ _ _ => True) (fun _ U o U' => ∃ v L, o = .returned v ∧ Q20 Z a0 f_interest f_owedBefore h0 n0 v U'.heap L ∧ FrameEnd U o U' L ({ frames := 0, cells := 0, slots := 0, locals := 0 } : Room).cells ({ frames := 0, cells := 0, slots := 0, locals := 0 } : Room).slots) := by
  refine MetFree.of_bodySF (plainFor_of_name pn_7) hisR ?_
  intro p e s m args below meth c s₁ Bd hml0 hP hK
  obtain ⟨rfl, hZ, hh⟩ := hP
  have hx := Bd.exec
  have hby := Bd.bytes
  have hml : c.maxLocals = 1 := hml0
  have hown : s.vm.findClass "com/example/amortine/amortine/CentAmounts" = some m.cls := findClass_of_methodNamed Bd.named
  have hnm := (name_of_methodNamed Bd.named Bd.method).1
  have X0 : Stand p l e ({ frames := 0, cells := 0, slots := 0, locals := 0 } : Room) s m #[(.ref a0)] below meth c s₁ [] 0 0 := Stand.of_body Bd
  have e0 : s₁.heap = h0 := by rw [← hh, Bd.state]; rfl
  have N0 := Fr.nil n0
  obtain ⟨A0, hA0⟩ : ∃ A0, A0 = s₁.setTop (entryFrame m #[(.ref a0)] 1) := ⟨_, rfl⟩
  have go0 : Go p e below A0 (s₁.setTop (mkF m 0 #[.val (.ref a0)] [])) := fun t k => by rw [hA0]; exact castTop (ef_20 m a0) k
  obtain ⟨T1, X1, e1, st1⟩ := getF X0 hx hZ hown (host := "") (Or.inl (hw _ (List.mem_of_getElem? (i := 97) rfl))) Via.refl e0 r1 (g := (mkF m 1 #[.val (.ref a0)] [(.ref a0)])) rfl rfl (hb hby d20_1)
  obtain ⟨T2, X2, e2, st2⟩ := getF X1 hx hZ hown (host := "") (Or.inl (hw _ (List.mem_of_getElem? (i := 99) rfl))) Via.refl e1 r2 (g := (mkF m 5 #[.val (.ref a0)] [(.ref a0), (.long f_interest)])) rfl rfl (hb hby d20_5)
  have go1 : Go p e below A0 (T2.setTop (mkF m 9 #[.val (.ref a0)] [(.int (lcmpW f_interest f_owedBefore))])) := by
    intro t k
    refine go0 t ?_
    refine o_aloadN X0 hx hby d20_0 1 rfl rfl rfl ?_
    refine st1 _ ?_
    show Steps p.tables e below (T1.setTop (mkF m 4 #[.val (.ref a0)] [(.long f_interest)])) _
    refine o_aloadN X1 hx hby d20_4 5 rfl rfl rfl ?_
    refine st2 _ ?_
    show Steps p.tables e below (T2.setTop (mkF m 8 #[.val (.ref a0)] [(.long f_owedBefore), (.long f_interest)])) _
    refine o_lcmp X2 hx hby d20_8 9 rfl ?_
    exact k
  obtain ⟨v1, hv1, go4⟩ : ∃ (v1 : Int32), v1 = (if f_interest = f_owedBefore then (1 : Int32) else (0 : Int32)) ∧ Go p e below A0 (T2.setTop (mkF m 17 #[.val (.ref a0)] [(.int v1)])) := by
    by_cases hc9_3 : f_interest = f_owedBefore
    · have go2 : Go p e below A0 (T2.setTop (mkF m 17 #[.val (.ref a0)] [(.int (1 : Int32))])) := by
        intro t k
        refine go1 t ?_
        refine o_ifN X2 hx hby d20_9 12 rfl (teq ((lw_eq f_interest f_owedBefore).mpr hc9_3)).2 ?_
        refine o_iconst X2 hx hby d20_12 13 rfl (v := (1 : Int32)) rfl ?_
        refine o_goto X2 hx hby d20_13 17 rfl ?_
        exact k
      exact ⟨(1 : Int32), (if_pos hc9_3).symm, go2⟩
    · have go3 : Go p e below A0 (T2.setTop (mkF m 17 #[.val (.ref a0)] [(.int (0 : Int32))])) := by
        intro t k
        refine go1 t ?_
        refine o_ifY X2 hx hby d20_9 16 rfl (feq (fun q => hc9_3 ((lw_eq f_interest f_owedBefore).mp q))).2 ?_
        refine o_iconst X2 hx hby d20_16 17 rfl (v := (0 : Int32)) rfl ?_
        exact k
      exact ⟨(0 : Int32), (if_neg hc9_3).symm, go3⟩
  have hF : v1 = (Fst f_interest f_owedBefore) := by simp only [Fst, hv1]
  rw [hA0] at go4
  obtain ⟨fs, hr, hrun, hended, hW, hsame⟩ := X2.leave (v := some (.int v1)) (fun h => by rw [Bd.returns] at h; cases h)
  refine ⟨_, _, go4 _ (o_retZ X2 hx Bd.returns (hb hby d20_17) (by rw [hv1]; (repeat' split) <;> first | exact Or.inl rfl | exact Or.inr rfl) hr), hrun, hended, _, _, rfl, ?_, ⟨_, rfl⟩, hW, hsame.mono (by decide) (by decide)⟩
  show Q20 Z a0 f_interest f_owedBefore h0 n0 _ T2.heap _
  rw [e2]
  exact ⟨by rw [← hF], N0, rfl⟩
theorem d21_0 : decode prog_12_method_25_code 0 = .ok (.aload_n 0, 1) := by decide +kernel
theorem d21_1 : decode prog_12_method_25_code 1 = .ok (.dup, 1) := by decide +kernel
theorem d21_2 : decode prog_12_method_25_code 2 = .ok (.getfield 195, 3) := by decide +kernel
theorem d21_5 : decode prog_12_method_25_code 5 = .ok (.aload_n 0, 1) := by decide +kernel
theorem d21_6 : decode prog_12_method_25_code 6 = .ok (.getfield 163, 3) := by decide +kernel
theorem d21_9 : decode prog_12_method_25_code 9 = .ok (.ladd, 1) := by decide +kernel
theorem d21_10 : decode prog_12_method_25_code 10 = .ok (.putfield 195, 3) := by decide +kernel
theorem d21_13 : decode prog_12_method_25_code 13 = .ok (.aload_n 0, 1) := by decide +kernel
theorem d21_14 : decode prog_12_method_25_code 14 = .ok (.aload_n 0, 1) := by decide +kernel
theorem d21_15 : decode prog_12_method_25_code 15 = .ok (.getfield 216, 3) := by decide +kernel
theorem d21_18 : decode prog_12_method_25_code 18 = .ok (.aload_n 0, 1) := by decide +kernel
theorem d21_19 : decode prog_12_method_25_code 19 = .ok (.getfield 166, 3) := by decide +kernel
theorem d21_22 : decode prog_12_method_25_code 22 = .ok (.invokestatic 129, 3) := by decide +kernel
theorem d21_25 : decode prog_12_method_25_code 25 = .ok (.putfield 216, 3) := by decide +kernel
theorem d21_28 : decode prog_12_method_25_code 28 = .ok (.aload_n 0, 1) := by decide +kernel
theorem d21_29 : decode prog_12_method_25_code 29 = .ok (.dup, 1) := by decide +kernel
theorem d21_30 : decode prog_12_method_25_code 30 = .ok (.getfield 198, 3) := by decide +kernel
theorem d21_33 : decode prog_12_method_25_code 33 = .ok (.aload_n 0, 1) := by decide +kernel
theorem d21_34 : decode prog_12_method_25_code 34 = .ok (.getfield 111, 3) := by decide +kernel
theorem d21_37 : decode prog_12_method_25_code 37 = .ok (.ladd, 1) := by decide +kernel
theorem d21_38 : decode prog_12_method_25_code 38 = .ok (.putfield 198, 3) := by decide +kernel
theorem d21_41 : decode prog_12_method_25_code 41 = .ok (.aload_n 0, 1) := by decide +kernel
theorem d21_42 : decode prog_12_method_25_code 42 = .ok (.aload_n 0, 1) := by decide +kernel
theorem d21_43 : decode prog_12_method_25_code 43 = .ok (.getfield 219, 3) := by decide +kernel
theorem d21_46 : decode prog_12_method_25_code 46 = .ok (.aload_n 0, 1) := by decide +kernel
theorem d21_47 : decode prog_12_method_25_code 47 = .ok (.getfield 114, 3) := by decide +kernel
theorem d21_50 : decode prog_12_method_25_code 50 = .ok (.invokestatic 129, 3) := by decide +kernel
theorem d21_53 : decode prog_12_method_25_code 53 = .ok (.putfield 219, 3) := by decide +kernel
theorem d21_56 : decode prog_12_method_25_code 56 = .ok (.return_, 1) := by decide +kernel
theorem ef_21 (m : MethodId) (x0 : Addr) : entryFrame m #[(.ref x0)] 1 = mkF m 0 #[.val (.ref x0)] [] := by first | (simp [entryFrame, mkF, argsToLocals, Value.category]; done) | rfl
def Q21 (Z : State) (a0 : Addr) (f_balloon : Int64) (f_balloonScale : Int32) (f_closing : Int64) (f_closingScale : Int32) (f_opening : Int64) (f_interest : Int64) (f_owedBefore : Int64) (f_openingScale : Int32) (f_payment : Int64) (f_paymentScale : Int32) (f_principal : Int64) (f_principalScale : Int32) (f_madePaid : Int64) (f_madeScale : Int32) (f_raised : Int64) (f_raisedScale : Int32) (f_settled : Int32) (f_tallied : Int64) (f_talliedScale : Int32) (f_indexation : Int64) (f_indexationScale : Int32) (h0 : Heap) (n0 : Nat) (v : Option Value) (h : Heap) (L : List Loc) : Prop := v = none ∧ Fr n0 L ∧ Keep h0 h [a0] ∧ FC Z h a0 "balloon" "J" (.long f_balloon) ∧ FC Z h a0 "balloonScale" "I" (.int f_balloonScale) ∧ FC Z h a0 "closing" "J" (.long f_closing) ∧ FC Z h a0 "closingScale" "I" (.int f_closingScale) ∧ FC Z h a0 "opening" "J" (.long f_opening) ∧ FC Z h a0 "interest" "J" (.long f_interest) ∧ FC Z h a0 "owedBefore" "J" (.long f_owedBefore) ∧ FC Z h a0 "openingScale" "I" (.int f_openingScale) ∧ FC Z h a0 "payment" "J" (.long f_payment) ∧ FC Z h a0 "paymentScale" "I" (.int f_paymentScale) ∧ FC Z h a0 "principal" "J" (.long f_principal) ∧ FC Z h a0 "principalScale" "I" (.int f_principalScale) ∧ FC Z h a0 "madePaid" "J" (.long f_madePaid) ∧ FC Z h a0 "madeScale" "I" (.int f_madeScale) ∧ FC Z h a0 "raised" "J" (.long f_raised) ∧ FC Z h a0 "raisedScale" "I" (.int f_raisedScale) ∧ FC Z h a0 "settled" "Z" (.int f_settled) ∧ FC Z h a0 "tallied" "J" (.long (f_tallied + f_madePaid)) ∧ FC Z h a0 "talliedScale" "I" (.int (Fmax f_talliedScale f_madeScale)) ∧ FC Z h a0 "indexation" "J" (.long (f_indexation + f_raised)) ∧ FC Z h a0 "indexationScale" "I" (.int (Fmax f_indexationScale f_raisedScale)) ∧ True
set_option maxRecDepth 65536 in
set_option maxHeartbeats 40000000 in
theorem rm21 (l : Launch) (Z : State) (aw : Array Value) (hw : ∀ d ∈ tables_1, d.before aw Z = true) (ws : List Jvm.Cond) (a0 : Addr) (f_balloon : Int64) (f_balloonScale : Int32) (f_closing : Int64) (f_closingScale : Int32) (f_opening : Int64) (f_interest : Int64) (f_owedBefore : Int64) (f_openingScale : Int32) (f_payment : Int64) (f_paymentScale : Int32) (f_principal : Int64) (f_principalScale : Int32) (f_madePaid : Int64) (f_madeScale : Int32) (f_raised : Int64) (f_raisedScale : Int32) (f_settled : Int32) (f_tallied : Int64) (f_talliedScale : Int32) (f_indexation : Int64) (f_indexationScale : Int32) (h0 : Heap) (n0 : Nat) (Z0 : n0 ≤ h0.size) (r0 : Exa Z h0 a0 "com/example/amortine/amortine/CentAmounts") (r1 : n0 ≤ a0) (r2 : FC Z h0 a0 "balloon" "J" (.long f_balloon)) (r3 : FC Z h0 a0 "balloonScale" "I" (.int f_balloonScale)) (r4 : FC Z h0 a0 "closing" "J" (.long f_closing)) (r5 : FC Z h0 a0 "closingScale" "I" (.int f_closingScale)) (r6 : FC Z h0 a0 "opening" "J" (.long f_opening)) (r7 : FC Z h0 a0 "interest" "J" (.long f_interest)) (r8 : FC Z h0 a0 "owedBefore" "J" (.long f_owedBefore)) (r9 : FC Z h0 a0 "openingScale" "I" (.int f_openingScale)) (r10 : FC Z h0 a0 "payment" "J" (.long f_payment)) (r11 : FC Z h0 a0 "paymentScale" "I" (.int f_paymentScale)) (r12 : FC Z h0 a0 "principal" "J" (.long f_principal)) (r13 : FC Z h0 a0 "principalScale" "I" (.int f_principalScale)) (r14 : FC Z h0 a0 "madePaid" "J" (.long f_madePaid)) (r15 : FC Z h0 a0 "madeScale" "I" (.int f_madeScale)) (r16 : FC Z h0 a0 "raised" "J" (.long f_raised)) (r17 : FC Z h0 a0 "raisedScale" "I" (.int f_raisedScale)) (r18 : FC Z h0 a0 "settled" "Z" (.int f_settled)) (r19 : FC Z h0 a0 "tallied" "J" (.long f_tallied)) (r20 : FC Z h0 a0 "talliedScale" "I" (.int f_talliedScale)) (r21 : FC Z h0 a0 "indexation" "J" (.long f_indexation)) (r22 : FC Z h0 a0 "indexationScale" "I" (.int f_indexationScale)) :
    MetFree l (⟨"com/example/amortine/amortine/CentAmounts", "tally", "()V"⟩ : MethodName) (head1 (Jvm.Cond.code (⟨"com/example/amortine/amortine/CentAmounts", "tally", "()V"⟩ : MethodName) prog_12_method_25_code 1 none :: ws) ({ frames := 1, cells := 0, slots := 0, locals := 14 } : Room)) (fun a U => a = #[(.ref a0)] ∧ Z.Warmed39 U.vm ∧ U.heap = h0) (fun _ _ _ _ _ => True) (fun _ U o U' => ∃ v L, o = .returned v ∧ Q21 Z a0 f_balloon f_balloonScale f_closing f_closingScale f_opening f_interest f_owedBefore f_openingScale f_payment f_paymentScale f_principal f_principalScale f_madePaid f_madeScale f_raised f_raisedScale f_settled f_tallied f_talliedScale f_indexation f_indexationScale h0 n0 v U'.heap L ∧ FrameEnd U o U' L ({ frames := 1, cells := 0, slots := 0, locals := 14 } : Room).cells ({ frames := 1, cells := 0, slots := 0, locals := 14 } : Room).slots) := by
  refine MetFree.of_bodySF (plainFor_of_name pn_7) hisR ?_
  intro p e s m args below meth c s₁ Bd hml0 hP hK
  obtain ⟨rfl, hZ, hh⟩ := hP
  have hx := Bd.exec
  have hby := Bd.bytes
  have hml : c.maxLocals = 1 := hml0
  have hown : s.vm.findClass "com/example/amortine/amortine/CentAmounts" = some m.cls := findClass_of_methodNamed Bd.named
  have hnm := (name_of_methodNamed Bd.named Bd.method).1
  have X0 : Stand p l e ({ frames := 1, cells := 0, slots := 0, locals := 14 } : Room) s m #[(.ref a0)] below meth c s₁ [] 0 0 := Stand.of_body Bd
  have e0 : s₁.heap = h0 := by rw [← hh, Bd.state]; rfl
  have N0 := Fr.nil n0
  obtain ⟨A0, hA0⟩ : ∃ A0, A0 = s₁.setTop (entryFrame m #[(.ref a0)] 1) := ⟨_, rfl⟩
  have go0 : Go p e below A0 (s₁.setTop (mkF m 0 #[.val (.ref a0)] [])) := fun t k => by rw [hA0]; exact castTop (ef_21 m a0) k
  have wl49 : (Jvm.Cond.laysFinal "com/example/amortine/amortine/CentAmounts" "com/example/amortine/amortine/CentAmounts" "balloon" "J").before aw Z = true := (hw _ (List.mem_of_getElem? (i := 49) rfl))
  have wl51 : (Jvm.Cond.laysFinal "com/example/amortine/amortine/CentAmounts" "com/example/amortine/amortine/CentAmounts" "balloonScale" "I").before aw Z = true := (hw _ (List.mem_of_getElem? (i := 51) rfl))
  have wl53 : (Jvm.Cond.lays "com/example/amortine/amortine/CentAmounts" "com/example/amortine/amortine/CentAmounts" "closing" "J").before aw Z = true := (hw _ (List.mem_of_getElem? (i := 53) rfl))
  have wl55 : (Jvm.Cond.lays "com/example/amortine/amortine/CentAmounts" "com/example/amortine/amortine/CentAmounts" "closingScale" "I").before aw Z = true := (hw _ (List.mem_of_getElem? (i := 55) rfl))
  have wl96 : (Jvm.Cond.lays "com/example/amortine/amortine/CentAmounts" "com/example/amortine/amortine/CentAmounts" "opening" "J").before aw Z = true := (hw _ (List.mem_of_getElem? (i := 96) rfl))
  have wl98 : (Jvm.Cond.lays "com/example/amortine/amortine/CentAmounts" "com/example/amortine/amortine/CentAmounts" "interest" "J").before aw Z = true := (hw _ (List.mem_of_getElem? (i := 98) rfl))
  have wl100 : (Jvm.Cond.lays "com/example/amortine/amortine/CentAmounts" "com/example/amortine/amortine/CentAmounts" "owedBefore" "J").before aw Z = true := (hw _ (List.mem_of_getElem? (i := 100) rfl))
  have wl121 : (Jvm.Cond.lays "com/example/amortine/amortine/CentAmounts" "com/example/amortine/amortine/CentAmounts" "openingScale" "I").before aw Z = true := (hw _ (List.mem_of_getElem? (i := 121) rfl))
  have wl123 : (Jvm.Cond.lays "com/example/amortine/amortine/CentAmounts" "com/example/amortine/amortine/CentAmounts" "payment" "J").before aw Z = true := (hw _ (List.mem_of_getElem? (i := 123) rfl))
  have wl125 : (Jvm.Cond.lays "com/example/amortine/amortine/CentAmounts" "com/example/amortine/amortine/CentAmounts" "paymentScale" "I").before aw Z = true := (hw _ (List.mem_of_getElem? (i := 125) rfl))
  have wl127 : (Jvm.Cond.lays "com/example/amortine/amortine/CentAmounts" "com/example/amortine/amortine/CentAmounts" "principal" "J").before aw Z = true := (hw _ (List.mem_of_getElem? (i := 127) rfl))
  have wl129 : (Jvm.Cond.lays "com/example/amortine/amortine/CentAmounts" "com/example/amortine/amortine/CentAmounts" "principalScale" "I").before aw Z = true := (hw _ (List.mem_of_getElem? (i := 129) rfl))
  have wl131 : (Jvm.Cond.lays "com/example/amortine/amortine/CentAmounts" "com/example/amortine/amortine/CentAmounts" "madePaid" "J").before aw Z = true := (hw _ (List.mem_of_getElem? (i := 131) rfl))
  have wl133 : (Jvm.Cond.lays "com/example/amortine/amortine/CentAmounts" "com/example/amortine/amortine/CentAmounts" "madeScale" "I").before aw Z = true := (hw _ (List.mem_of_getElem? (i := 133) rfl))
  have wl135 : (Jvm.Cond.lays "com/example/amortine/amortine/CentAmounts" "com/example/amortine/amortine/CentAmounts" "raised" "J").before aw Z = true := (hw _ (List.mem_of_getElem? (i := 135) rfl))
  have wl137 : (Jvm.Cond.lays "com/example/amortine/amortine/CentAmounts" "com/example/amortine/amortine/CentAmounts" "raisedScale" "I").before aw Z = true := (hw _ (List.mem_of_getElem? (i := 137) rfl))
  have wl139 : (Jvm.Cond.lays "com/example/amortine/amortine/CentAmounts" "com/example/amortine/amortine/CentAmounts" "settled" "Z").before aw Z = true := (hw _ (List.mem_of_getElem? (i := 139) rfl))
  have wl161 : (Jvm.Cond.lays "com/example/amortine/amortine/CentAmounts" "com/example/amortine/amortine/CentAmounts" "tallied" "J").before aw Z = true := (hw _ (List.mem_of_getElem? (i := 161) rfl))
  have wl163 : (Jvm.Cond.lays "com/example/amortine/amortine/CentAmounts" "com/example/amortine/amortine/CentAmounts" "talliedScale" "I").before aw Z = true := (hw _ (List.mem_of_getElem? (i := 163) rfl))
  have wl165 : (Jvm.Cond.lays "com/example/amortine/amortine/CentAmounts" "com/example/amortine/amortine/CentAmounts" "indexation" "J").before aw Z = true := (hw _ (List.mem_of_getElem? (i := 165) rfl))
  have wl167 : (Jvm.Cond.lays "com/example/amortine/amortine/CentAmounts" "com/example/amortine/amortine/CentAmounts" "indexationScale" "I").before aw Z = true := (hw _ (List.mem_of_getElem? (i := 167) rfl))
  obtain ⟨T1, X1, e1, st1⟩ := getF X0 hx hZ hown (host := "") (Or.inl (hw _ (List.mem_of_getElem? (i := 160) rfl))) Via.refl e0 r19 (g := (mkF m 2 #[.val (.ref a0)] [(.ref a0), (.ref a0)])) rfl rfl (hb hby d21_2)
  obtain ⟨T2, X2, e2, st2⟩ := getF X1 hx hZ hown (host := "") (Or.inl (hw _ (List.mem_of_getElem? (i := 130) rfl))) Via.refl e1 r14 (g := (mkF m 6 #[.val (.ref a0)] [(.ref a0), (.long f_tallied), (.ref a0)])) rfl rfl (hb hby d21_6)
  have go1 : Go p e below A0 (T2.setTop (mkF m 10 #[.val (.ref a0)] [(.long (f_tallied + f_madePaid)), (.ref a0)])) := by
    intro t k
    refine go0 t ?_
    refine o_aloadN X0 hx hby d21_0 1 rfl rfl rfl ?_
    refine o_dup X0 hx hby d21_1 2 rfl rfl ?_
    refine st1 _ ?_
    show Steps p.tables e below (T1.setTop (mkF m 5 #[.val (.ref a0)] [(.long f_tallied), (.ref a0)])) _
    refine o_aloadN X1 hx hby d21_5 6 rfl rfl rfl ?_
    refine st2 _ ?_
    show Steps p.tables e below (T2.setTop (mkF m 9 #[.val (.ref a0)] [(.long f_madePaid), (.long f_tallied), (.ref a0)])) _
    refine o_ladd X2 hx hby d21_9 10 rfl ?_
    exact k
  obtain ⟨v1, hv1, go2⟩ : ∃ v1 : Int64, v1 = (f_tallied + f_madePaid) ∧ Go p e below A0 (T2.setTop (mkF m 10 #[.val (.ref a0)] [(.long v1), (.ref a0)])) := ⟨_, rfl, go1⟩
  obtain ⟨T3, h3, X3, e3, W3, st3⟩ := putF X2 hx hZ hown (host := "") (Or.inl (hw _ (List.mem_of_getElem? (i := 160) rfl))) Via.refl e2 r19 r0 (Or.inl (hw _ (List.mem_of_getElem? (i := 161) rfl))) (hw _ (List.mem_of_getElem? (i := 40) rfl)) (ty := .long) (by decide) rfl rfl (g := (mkF m 10 #[.val (.ref a0)] [(.long v1), (.ref a0)])) rfl rfl (hb hby d21_10)
  have f1 : Exa Z h3 a0 "com/example/amortine/amortine/CentAmounts" := r0.wr W3
  have f2 : FC Z h3 a0 "balloon" "J" (.long f_balloon) := r2.other W3 (Or.inr (slot_ne (Or.inr wl49) (Or.inl wl161) (by decide) (t := .long) (t' := .long) (by decide) (by decide)))
  have f3 : FC Z h3 a0 "balloonScale" "I" (.int f_balloonScale) := r3.other W3 (Or.inr (slot_ne (Or.inr wl51) (Or.inl wl161) (by decide) (t := .int) (t' := .long) (by decide) (by decide)))
  have f4 : FC Z h3 a0 "closing" "J" (.long f_closing) := r4.other W3 (Or.inr (slot_ne (Or.inl wl53) (Or.inl wl161) (by decide) (t := .long) (t' := .long) (by decide) (by decide)))
  have f5 : FC Z h3 a0 "closingScale" "I" (.int f_closingScale) := r5.other W3 (Or.inr (slot_ne (Or.inl wl55) (Or.inl wl161) (by decide) (t := .int) (t' := .long) (by decide) (by decide)))
  have f6 : FC Z h3 a0 "opening" "J" (.long f_opening) := r6.other W3 (Or.inr (slot_ne (Or.inl wl96) (Or.inl wl161) (by decide) (t := .long) (t' := .long) (by decide) (by decide)))
  have f7 : FC Z h3 a0 "interest" "J" (.long f_interest) := r7.other W3 (Or.inr (slot_ne (Or.inl wl98) (Or.inl wl161) (by decide) (t := .long) (t' := .long) (by decide) (by decide)))
  have f8 : FC Z h3 a0 "owedBefore" "J" (.long f_owedBefore) := r8.other W3 (Or.inr (slot_ne (Or.inl wl100) (Or.inl wl161) (by decide) (t := .long) (t' := .long) (by decide) (by decide)))
  have f9 : FC Z h3 a0 "openingScale" "I" (.int f_openingScale) := r9.other W3 (Or.inr (slot_ne (Or.inl wl121) (Or.inl wl161) (by decide) (t := .int) (t' := .long) (by decide) (by decide)))
  have f10 : FC Z h3 a0 "payment" "J" (.long f_payment) := r10.other W3 (Or.inr (slot_ne (Or.inl wl123) (Or.inl wl161) (by decide) (t := .long) (t' := .long) (by decide) (by decide)))
  have f11 : FC Z h3 a0 "paymentScale" "I" (.int f_paymentScale) := r11.other W3 (Or.inr (slot_ne (Or.inl wl125) (Or.inl wl161) (by decide) (t := .int) (t' := .long) (by decide) (by decide)))
  have f12 : FC Z h3 a0 "principal" "J" (.long f_principal) := r12.other W3 (Or.inr (slot_ne (Or.inl wl127) (Or.inl wl161) (by decide) (t := .long) (t' := .long) (by decide) (by decide)))
  have f13 : FC Z h3 a0 "principalScale" "I" (.int f_principalScale) := r13.other W3 (Or.inr (slot_ne (Or.inl wl129) (Or.inl wl161) (by decide) (t := .int) (t' := .long) (by decide) (by decide)))
  have f14 : FC Z h3 a0 "madePaid" "J" (.long f_madePaid) := r14.other W3 (Or.inr (slot_ne (Or.inl wl131) (Or.inl wl161) (by decide) (t := .long) (t' := .long) (by decide) (by decide)))
  have f15 : FC Z h3 a0 "madeScale" "I" (.int f_madeScale) := r15.other W3 (Or.inr (slot_ne (Or.inl wl133) (Or.inl wl161) (by decide) (t := .int) (t' := .long) (by decide) (by decide)))
  have f16 : FC Z h3 a0 "raised" "J" (.long f_raised) := r16.other W3 (Or.inr (slot_ne (Or.inl wl135) (Or.inl wl161) (by decide) (t := .long) (t' := .long) (by decide) (by decide)))
  have f17 : FC Z h3 a0 "raisedScale" "I" (.int f_raisedScale) := r17.other W3 (Or.inr (slot_ne (Or.inl wl137) (Or.inl wl161) (by decide) (t := .int) (t' := .long) (by decide) (by decide)))
  have f18 : FC Z h3 a0 "settled" "Z" (.int f_settled) := r18.other W3 (Or.inr (slot_ne (Or.inl wl139) (Or.inl wl161) (by decide) (t := .boolean) (t' := .long) (by decide) (by decide)))
  have f19 : FC Z h3 a0 "talliedScale" "I" (.int f_talliedScale) := r20.other W3 (Or.inr (slot_ne (Or.inl wl163) (Or.inl wl161) (by decide) (t := .int) (t' := .long) (by decide) (by decide)))
  have f20 : FC Z h3 a0 "indexation" "J" (.long f_indexation) := r21.other W3 (Or.inr (slot_ne (Or.inl wl165) (Or.inl wl161) (by decide) (t := .long) (t' := .long) (by decide) (by decide)))
  have f21 : FC Z h3 a0 "indexationScale" "I" (.int f_indexationScale) := r22.other W3 (Or.inr (slot_ne (Or.inl wl167) (Or.inl wl161) (by decide) (t := .int) (t' := .long) (by decide) (by decide)))
  have Zp3 : n0 ≤ h3.size := Nat.le_trans Z0 (Keep.of_wr W3).1
  have K3 : Keep h0 h3 [a0] := (Keep.refl h0 [a0]).wr W3 (Or.inl (List.mem_of_getElem? (i := 0) rfl))
  have N3 := Fr.snoc X3 N0 r1
  have f22 : FC Z h3 a0 "tallied" "J" (.long v1) := r19.same W3
  obtain ⟨T4, X4, e4, st4⟩ := getF X3 hx hZ hown (host := "") (Or.inl (hw _ (List.mem_of_getElem? (i := 162) rfl))) Via.refl e3 f19 (g := (mkF m 15 #[.val (.ref a0)] [(.ref a0), (.ref a0)])) rfl rfl (hb hby d21_15)
  obtain ⟨T5, X5, e5, st5⟩ := getF X4 hx hZ hown (host := "") (Or.inl (hw _ (List.mem_of_getElem? (i := 132) rfl))) Via.refl e4 f15 (g := (mkF m 19 #[.val (.ref a0)] [(.ref a0), (.int f_talliedScale), (.ref a0)])) rfl rfl (hb hby d21_19)
  have go3 : Go p e below A0 (T5.setTop (mkF m 22 #[.val (.ref a0)] [(.int f_madeScale), (.int f_talliedScale), (.ref a0)])) := by
    intro t k
    refine go2 t ?_
    refine st3 _ ?_
    show Steps p.tables e below (T3.setTop (mkF m 13 #[.val (.ref a0)] [])) _
    refine o_aloadN X3 hx hby d21_13 14 rfl rfl rfl ?_
    refine o_aloadN X3 hx hby d21_14 15 rfl rfl rfl ?_
    refine st4 _ ?_
    show Steps p.tables e below (T4.setTop (mkF m 18 #[.val (.ref a0)] [(.int f_talliedScale), (.ref a0)])) _
    refine o_aloadN X4 hx hby d21_18 19 rfl rfl rfl ?_
    refine st5 _ ?_
    show Steps p.tables e below (T5.setTop (mkF m 22 #[.val (.ref a0)] [(.int f_madeScale), (.int f_talliedScale), (.ref a0)])) _
    exact k
  obtain ⟨_, _, ⟨T6, L6, k6, n6⟩, -, X6, ⟨Lc6, hQ6, l6, y6, z6⟩, st6⟩ := Jvm.LawKit.callS X5 hx (y := (⟨"java/lang/Math", "max", "(II)I"⟩ : MethodName)) hown (mvT hZ (hw _ (List.mem_of_getElem? (i := 117) rfl))) (mvT hZ (hw _ (List.mem_of_getElem? (i := 118) rfl))) (mvT hZ (hw _ (List.mem_of_getElem? (i := 110) rfl))) (mvT hZ (hw _ (List.mem_of_getElem? (i := 119) rfl))) (by decide) (backOf (W := 1) (rm17 l Z aw hw [] f_talliedScale f_madeScale h3 n0 Zp3) hZ (hw _ (List.mem_of_getElem? (i := 119) rfl)) (hw _ (List.mem_of_getElem? (i := 110) rfl)) (by decide) (by decide)) (g := (mkF m 22 #[.val (.ref a0)] [(.int f_madeScale), (.int f_talliedScale), (.ref a0)])) rfl (by rw [hml]; rfl) (argsL := [(.int f_talliedScale), (.int f_madeScale)]) (rest := [(.ref a0)]) (lenOf pd_14 rfl) rfl (by show 2 * 0 + _ ≤ _; exact Nat.le_of_eq rfl) (hb hby d21_22) (fun _ _ => ⟨rfl, e5, (by decide : 0 + 0 ≤ _), (by decide : 0 + 0 ≤ _)⟩)
  dsimp only [Pt.U, Pt.locs, Pt.cells, Pt.slots] at X6 l6 y6 z6 st6 hQ6
  obtain rfl : k6 = 0 := y6
  obtain rfl : n6 = 0 := z6
  obtain ⟨rfl, N6q, e6⟩ := hQ6
  have N6 : Fr n0 L6 := by rw [l6]; exact Fr.app N3 N6q
  have go4 : Go p e below A0 (T6.setTop (mkF m 25 #[.val (.ref a0)] [(.int (Fmax f_talliedScale f_madeScale)), (.ref a0)])) := by
    intro t k
    refine go3 t ?_
    refine st6 _ ?_
    show Steps p.tables e below (T6.setTop (mkF m 25 #[.val (.ref a0)] [(.int (Fmax f_talliedScale f_madeScale)), (.ref a0)])) _
    exact k
  obtain ⟨v2, hv2, go5⟩ : ∃ v2 : Int32, v2 = (Fmax f_talliedScale f_madeScale) ∧ Go p e below A0 (T6.setTop (mkF m 25 #[.val (.ref a0)] [(.int v2), (.ref a0)])) := ⟨_, rfl, go4⟩
  obtain ⟨T7, h7, X7, e7, W7, st7⟩ := putF X6 hx hZ hown (host := "") (Or.inl (hw _ (List.mem_of_getElem? (i := 162) rfl))) Via.refl e6 f19 f1 (Or.inl (hw _ (List.mem_of_getElem? (i := 163) rfl))) (hw _ (List.mem_of_getElem? (i := 40) rfl)) (ty := .int) (by decide) rfl rfl (g := (mkF m 25 #[.val (.ref a0)] [(.int v2), (.ref a0)])) rfl rfl (hb hby d21_25)
  have f23 : Exa Z h7 a0 "com/example/amortine/amortine/CentAmounts" := f1.wr W7
  have f24 : FC Z h7 a0 "balloon" "J" (.long f_balloon) := f2.other W7 (Or.inr (slot_ne (Or.inr wl49) (Or.inl wl163) (by decide) (t := .long) (t' := .int) (by decide) (by decide)))
  have f25 : FC Z h7 a0 "balloonScale" "I" (.int f_balloonScale) := f3.other W7 (Or.inr (slot_ne (Or.inr wl51) (Or.inl wl163) (by decide) (t := .int) (t' := .int) (by decide) (by decide)))
  have f26 : FC Z h7 a0 "closing" "J" (.long f_closing) := f4.other W7 (Or.inr (slot_ne (Or.inl wl53) (Or.inl wl163) (by decide) (t := .long) (t' := .int) (by decide) (by decide)))
  have f27 : FC Z h7 a0 "closingScale" "I" (.int f_closingScale) := f5.other W7 (Or.inr (slot_ne (Or.inl wl55) (Or.inl wl163) (by decide) (t := .int) (t' := .int) (by decide) (by decide)))
  have f28 : FC Z h7 a0 "opening" "J" (.long f_opening) := f6.other W7 (Or.inr (slot_ne (Or.inl wl96) (Or.inl wl163) (by decide) (t := .long) (t' := .int) (by decide) (by decide)))
  have f29 : FC Z h7 a0 "interest" "J" (.long f_interest) := f7.other W7 (Or.inr (slot_ne (Or.inl wl98) (Or.inl wl163) (by decide) (t := .long) (t' := .int) (by decide) (by decide)))
  have f30 : FC Z h7 a0 "owedBefore" "J" (.long f_owedBefore) := f8.other W7 (Or.inr (slot_ne (Or.inl wl100) (Or.inl wl163) (by decide) (t := .long) (t' := .int) (by decide) (by decide)))
  have f31 : FC Z h7 a0 "openingScale" "I" (.int f_openingScale) := f9.other W7 (Or.inr (slot_ne (Or.inl wl121) (Or.inl wl163) (by decide) (t := .int) (t' := .int) (by decide) (by decide)))
  have f32 : FC Z h7 a0 "payment" "J" (.long f_payment) := f10.other W7 (Or.inr (slot_ne (Or.inl wl123) (Or.inl wl163) (by decide) (t := .long) (t' := .int) (by decide) (by decide)))
  have f33 : FC Z h7 a0 "paymentScale" "I" (.int f_paymentScale) := f11.other W7 (Or.inr (slot_ne (Or.inl wl125) (Or.inl wl163) (by decide) (t := .int) (t' := .int) (by decide) (by decide)))
  have f34 : FC Z h7 a0 "principal" "J" (.long f_principal) := f12.other W7 (Or.inr (slot_ne (Or.inl wl127) (Or.inl wl163) (by decide) (t := .long) (t' := .int) (by decide) (by decide)))
  have f35 : FC Z h7 a0 "principalScale" "I" (.int f_principalScale) := f13.other W7 (Or.inr (slot_ne (Or.inl wl129) (Or.inl wl163) (by decide) (t := .int) (t' := .int) (by decide) (by decide)))
  have f36 : FC Z h7 a0 "madePaid" "J" (.long f_madePaid) := f14.other W7 (Or.inr (slot_ne (Or.inl wl131) (Or.inl wl163) (by decide) (t := .long) (t' := .int) (by decide) (by decide)))
  have f37 : FC Z h7 a0 "madeScale" "I" (.int f_madeScale) := f15.other W7 (Or.inr (slot_ne (Or.inl wl133) (Or.inl wl163) (by decide) (t := .int) (t' := .int) (by decide) (by decide)))
  have f38 : FC Z h7 a0 "raised" "J" (.long f_raised) := f16.other W7 (Or.inr (slot_ne (Or.inl wl135) (Or.inl wl163) (by decide) (t := .long) (t' := .int) (by decide) (by decide)))
  have f39 : FC Z h7 a0 "raisedScale" "I" (.int f_raisedScale) := f17.other W7 (Or.inr (slot_ne (Or.inl wl137) (Or.inl wl163) (by decide) (t := .int) (t' := .int) (by decide) (by decide)))
  have f40 : FC Z h7 a0 "settled" "Z" (.int f_settled) := f18.other W7 (Or.inr (slot_ne (Or.inl wl139) (Or.inl wl163) (by decide) (t := .boolean) (t' := .int) (by decide) (by decide)))
  have f41 : FC Z h7 a0 "indexation" "J" (.long f_indexation) := f20.other W7 (Or.inr (slot_ne (Or.inl wl165) (Or.inl wl163) (by decide) (t := .long) (t' := .int) (by decide) (by decide)))
  have f42 : FC Z h7 a0 "indexationScale" "I" (.int f_indexationScale) := f21.other W7 (Or.inr (slot_ne (Or.inl wl167) (Or.inl wl163) (by decide) (t := .int) (t' := .int) (by decide) (by decide)))
  have f43 : FC Z h7 a0 "tallied" "J" (.long v1) := f22.other W7 (Or.inr (slot_ne (Or.inl wl161) (Or.inl wl163) (by decide) (t := .long) (t' := .int) (by decide) (by decide)))
  have Zp7 : n0 ≤ h7.size := Nat.le_trans Zp3 (Keep.of_wr W7).1
  have K7 : Keep h0 h7 [a0] := K3.wr W7 (Or.inl (List.mem_of_getElem? (i := 0) rfl))
  have N7 := Fr.snoc X7 N6 r1
  have f44 : FC Z h7 a0 "talliedScale" "I" (.int v2) := f19.same W7
  obtain ⟨T8, X8, e8, st8⟩ := getF X7 hx hZ hown (host := "") (Or.inl (hw _ (List.mem_of_getElem? (i := 164) rfl))) Via.refl e7 f41 (g := (mkF m 30 #[.val (.ref a0)] [(.ref a0), (.ref a0)])) rfl rfl (hb hby d21_30)
  obtain ⟨T9, X9, e9, st9⟩ := getF X8 hx hZ hown (host := "") (Or.inl (hw _ (List.mem_of_getElem? (i := 134) rfl))) Via.refl e8 f38 (g := (mkF m 34 #[.val (.ref a0)] [(.ref a0), (.long f_indexation), (.ref a0)])) rfl rfl (hb hby d21_34)
  have go6 : Go p e below A0 (T9.setTop (mkF m 38 #[.val (.ref a0)] [(.long (f_indexation + f_raised)), (.ref a0)])) := by
    intro t k
    refine go5 t ?_
    refine st7 _ ?_
    show Steps p.tables e below (T7.setTop (mkF m 28 #[.val (.ref a0)] [])) _
    refine o_aloadN X7 hx hby d21_28 29 rfl rfl rfl ?_
    refine o_dup X7 hx hby d21_29 30 rfl rfl ?_
    refine st8 _ ?_
    show Steps p.tables e below (T8.setTop (mkF m 33 #[.val (.ref a0)] [(.long f_indexation), (.ref a0)])) _
    refine o_aloadN X8 hx hby d21_33 34 rfl rfl rfl ?_
    refine st9 _ ?_
    show Steps p.tables e below (T9.setTop (mkF m 37 #[.val (.ref a0)] [(.long f_raised), (.long f_indexation), (.ref a0)])) _
    refine o_ladd X9 hx hby d21_37 38 rfl ?_
    exact k
  obtain ⟨v3, hv3, go7⟩ : ∃ v3 : Int64, v3 = (f_indexation + f_raised) ∧ Go p e below A0 (T9.setTop (mkF m 38 #[.val (.ref a0)] [(.long v3), (.ref a0)])) := ⟨_, rfl, go6⟩
  obtain ⟨T10, h10, X10, e10, W10, st10⟩ := putF X9 hx hZ hown (host := "") (Or.inl (hw _ (List.mem_of_getElem? (i := 164) rfl))) Via.refl e9 f41 f23 (Or.inl (hw _ (List.mem_of_getElem? (i := 165) rfl))) (hw _ (List.mem_of_getElem? (i := 40) rfl)) (ty := .long) (by decide) rfl rfl (g := (mkF m 38 #[.val (.ref a0)] [(.long v3), (.ref a0)])) rfl rfl (hb hby d21_38)
  have f45 : Exa Z h10 a0 "com/example/amortine/amortine/CentAmounts" := f23.wr W10
  have f46 : FC Z h10 a0 "balloon" "J" (.long f_balloon) := f24.other W10 (Or.inr (slot_ne (Or.inr wl49) (Or.inl wl165) (by decide) (t := .long) (t' := .long) (by decide) (by decide)))
  have f47 : FC Z h10 a0 "balloonScale" "I" (.int f_balloonScale) := f25.other W10 (Or.inr (slot_ne (Or.inr wl51) (Or.inl wl165) (by decide) (t := .int) (t' := .long) (by decide) (by decide)))
  have f48 : FC Z h10 a0 "closing" "J" (.long f_closing) := f26.other W10 (Or.inr (slot_ne (Or.inl wl53) (Or.inl wl165) (by decide) (t := .long) (t' := .long) (by decide) (by decide)))
  have f49 : FC Z h10 a0 "closingScale" "I" (.int f_closingScale) := f27.other W10 (Or.inr (slot_ne (Or.inl wl55) (Or.inl wl165) (by decide) (t := .int) (t' := .long) (by decide) (by decide)))
  have f50 : FC Z h10 a0 "opening" "J" (.long f_opening) := f28.other W10 (Or.inr (slot_ne (Or.inl wl96) (Or.inl wl165) (by decide) (t := .long) (t' := .long) (by decide) (by decide)))
  have f51 : FC Z h10 a0 "interest" "J" (.long f_interest) := f29.other W10 (Or.inr (slot_ne (Or.inl wl98) (Or.inl wl165) (by decide) (t := .long) (t' := .long) (by decide) (by decide)))
  have f52 : FC Z h10 a0 "owedBefore" "J" (.long f_owedBefore) := f30.other W10 (Or.inr (slot_ne (Or.inl wl100) (Or.inl wl165) (by decide) (t := .long) (t' := .long) (by decide) (by decide)))
  have f53 : FC Z h10 a0 "openingScale" "I" (.int f_openingScale) := f31.other W10 (Or.inr (slot_ne (Or.inl wl121) (Or.inl wl165) (by decide) (t := .int) (t' := .long) (by decide) (by decide)))
  have f54 : FC Z h10 a0 "payment" "J" (.long f_payment) := f32.other W10 (Or.inr (slot_ne (Or.inl wl123) (Or.inl wl165) (by decide) (t := .long) (t' := .long) (by decide) (by decide)))
  have f55 : FC Z h10 a0 "paymentScale" "I" (.int f_paymentScale) := f33.other W10 (Or.inr (slot_ne (Or.inl wl125) (Or.inl wl165) (by decide) (t := .int) (t' := .long) (by decide) (by decide)))
  have f56 : FC Z h10 a0 "principal" "J" (.long f_principal) := f34.other W10 (Or.inr (slot_ne (Or.inl wl127) (Or.inl wl165) (by decide) (t := .long) (t' := .long) (by decide) (by decide)))
  have f57 : FC Z h10 a0 "principalScale" "I" (.int f_principalScale) := f35.other W10 (Or.inr (slot_ne (Or.inl wl129) (Or.inl wl165) (by decide) (t := .int) (t' := .long) (by decide) (by decide)))
  have f58 : FC Z h10 a0 "madePaid" "J" (.long f_madePaid) := f36.other W10 (Or.inr (slot_ne (Or.inl wl131) (Or.inl wl165) (by decide) (t := .long) (t' := .long) (by decide) (by decide)))
  have f59 : FC Z h10 a0 "madeScale" "I" (.int f_madeScale) := f37.other W10 (Or.inr (slot_ne (Or.inl wl133) (Or.inl wl165) (by decide) (t := .int) (t' := .long) (by decide) (by decide)))
  have f60 : FC Z h10 a0 "raised" "J" (.long f_raised) := f38.other W10 (Or.inr (slot_ne (Or.inl wl135) (Or.inl wl165) (by decide) (t := .long) (t' := .long) (by decide) (by decide)))
  have f61 : FC Z h10 a0 "raisedScale" "I" (.int f_raisedScale) := f39.other W10 (Or.inr (slot_ne (Or.inl wl137) (Or.inl wl165) (by decide) (t := .int) (t' := .long) (by decide) (by decide)))
  have f62 : FC Z h10 a0 "settled" "Z" (.int f_settled) := f40.other W10 (Or.inr (slot_ne (Or.inl wl139) (Or.inl wl165) (by decide) (t := .boolean) (t' := .long) (by decide) (by decide)))
  have f63 : FC Z h10 a0 "indexationScale" "I" (.int f_indexationScale) := f42.other W10 (Or.inr (slot_ne (Or.inl wl167) (Or.inl wl165) (by decide) (t := .int) (t' := .long) (by decide) (by decide)))
  have f64 : FC Z h10 a0 "tallied" "J" (.long v1) := f43.other W10 (Or.inr (slot_ne (Or.inl wl161) (Or.inl wl165) (by decide) (t := .long) (t' := .long) (by decide) (by decide)))
  have f65 : FC Z h10 a0 "talliedScale" "I" (.int v2) := f44.other W10 (Or.inr (slot_ne (Or.inl wl163) (Or.inl wl165) (by decide) (t := .int) (t' := .long) (by decide) (by decide)))
  have Zp10 : n0 ≤ h10.size := Nat.le_trans Zp7 (Keep.of_wr W10).1
  have K10 : Keep h0 h10 [a0] := K7.wr W10 (Or.inl (List.mem_of_getElem? (i := 0) rfl))
  have N10 := Fr.snoc X10 N7 r1
  have f66 : FC Z h10 a0 "indexation" "J" (.long v3) := f41.same W10
  obtain ⟨T11, X11, e11, st11⟩ := getF X10 hx hZ hown (host := "") (Or.inl (hw _ (List.mem_of_getElem? (i := 166) rfl))) Via.refl e10 f63 (g := (mkF m 43 #[.val (.ref a0)] [(.ref a0), (.ref a0)])) rfl rfl (hb hby d21_43)
  obtain ⟨T12, X12, e12, st12⟩ := getF X11 hx hZ hown (host := "") (Or.inl (hw _ (List.mem_of_getElem? (i := 136) rfl))) Via.refl e11 f61 (g := (mkF m 47 #[.val (.ref a0)] [(.ref a0), (.int f_indexationScale), (.ref a0)])) rfl rfl (hb hby d21_47)
  have go8 : Go p e below A0 (T12.setTop (mkF m 50 #[.val (.ref a0)] [(.int f_raisedScale), (.int f_indexationScale), (.ref a0)])) := by
    intro t k
    refine go7 t ?_
    refine st10 _ ?_
    show Steps p.tables e below (T10.setTop (mkF m 41 #[.val (.ref a0)] [])) _
    refine o_aloadN X10 hx hby d21_41 42 rfl rfl rfl ?_
    refine o_aloadN X10 hx hby d21_42 43 rfl rfl rfl ?_
    refine st11 _ ?_
    show Steps p.tables e below (T11.setTop (mkF m 46 #[.val (.ref a0)] [(.int f_indexationScale), (.ref a0)])) _
    refine o_aloadN X11 hx hby d21_46 47 rfl rfl rfl ?_
    refine st12 _ ?_
    show Steps p.tables e below (T12.setTop (mkF m 50 #[.val (.ref a0)] [(.int f_raisedScale), (.int f_indexationScale), (.ref a0)])) _
    exact k
  obtain ⟨_, _, ⟨T13, L13, k13, n13⟩, -, X13, ⟨Lc13, hQ13, l13, y13, z13⟩, st13⟩ := Jvm.LawKit.callS X12 hx (y := (⟨"java/lang/Math", "max", "(II)I"⟩ : MethodName)) hown (mvT hZ (hw _ (List.mem_of_getElem? (i := 117) rfl))) (mvT hZ (hw _ (List.mem_of_getElem? (i := 118) rfl))) (mvT hZ (hw _ (List.mem_of_getElem? (i := 110) rfl))) (mvT hZ (hw _ (List.mem_of_getElem? (i := 119) rfl))) (by decide) (backOf (W := 1) (rm17 l Z aw hw [] f_indexationScale f_raisedScale h10 n0 Zp10) hZ (hw _ (List.mem_of_getElem? (i := 119) rfl)) (hw _ (List.mem_of_getElem? (i := 110) rfl)) (by decide) (by decide)) (g := (mkF m 50 #[.val (.ref a0)] [(.int f_raisedScale), (.int f_indexationScale), (.ref a0)])) rfl (by rw [hml]; rfl) (argsL := [(.int f_indexationScale), (.int f_raisedScale)]) (rest := [(.ref a0)]) (lenOf pd_14 rfl) rfl (by show 2 * 0 + _ ≤ _; exact Nat.le_of_eq rfl) (hb hby d21_50) (fun _ _ => ⟨rfl, e12, (by decide : 0 + 0 ≤ _), (by decide : 0 + 0 ≤ _)⟩)
  dsimp only [Pt.U, Pt.locs, Pt.cells, Pt.slots] at X13 l13 y13 z13 st13 hQ13
  obtain rfl : k13 = 0 := y13
  obtain rfl : n13 = 0 := z13
  obtain ⟨rfl, N13q, e13⟩ := hQ13
  have N13 : Fr n0 L13 := by rw [l13]; exact Fr.app N10 N13q
  have go9 : Go p e below A0 (T13.setTop (mkF m 53 #[.val (.ref a0)] [(.int (Fmax f_indexationScale f_raisedScale)), (.ref a0)])) := by
    intro t k
    refine go8 t ?_
    refine st13 _ ?_
    show Steps p.tables e below (T13.setTop (mkF m 53 #[.val (.ref a0)] [(.int (Fmax f_indexationScale f_raisedScale)), (.ref a0)])) _
    exact k
  obtain ⟨v4, hv4, go10⟩ : ∃ v4 : Int32, v4 = (Fmax f_indexationScale f_raisedScale) ∧ Go p e below A0 (T13.setTop (mkF m 53 #[.val (.ref a0)] [(.int v4), (.ref a0)])) := ⟨_, rfl, go9⟩
  obtain ⟨T14, h14, X14, e14, W14, st14⟩ := putF X13 hx hZ hown (host := "") (Or.inl (hw _ (List.mem_of_getElem? (i := 166) rfl))) Via.refl e13 f63 f45 (Or.inl (hw _ (List.mem_of_getElem? (i := 167) rfl))) (hw _ (List.mem_of_getElem? (i := 40) rfl)) (ty := .int) (by decide) rfl rfl (g := (mkF m 53 #[.val (.ref a0)] [(.int v4), (.ref a0)])) rfl rfl (hb hby d21_53)
  have f67 : Exa Z h14 a0 "com/example/amortine/amortine/CentAmounts" := f45.wr W14
  have f68 : FC Z h14 a0 "balloon" "J" (.long f_balloon) := f46.other W14 (Or.inr (slot_ne (Or.inr wl49) (Or.inl wl167) (by decide) (t := .long) (t' := .int) (by decide) (by decide)))
  have f69 : FC Z h14 a0 "balloonScale" "I" (.int f_balloonScale) := f47.other W14 (Or.inr (slot_ne (Or.inr wl51) (Or.inl wl167) (by decide) (t := .int) (t' := .int) (by decide) (by decide)))
  have f70 : FC Z h14 a0 "closing" "J" (.long f_closing) := f48.other W14 (Or.inr (slot_ne (Or.inl wl53) (Or.inl wl167) (by decide) (t := .long) (t' := .int) (by decide) (by decide)))
  have f71 : FC Z h14 a0 "closingScale" "I" (.int f_closingScale) := f49.other W14 (Or.inr (slot_ne (Or.inl wl55) (Or.inl wl167) (by decide) (t := .int) (t' := .int) (by decide) (by decide)))
  have f72 : FC Z h14 a0 "opening" "J" (.long f_opening) := f50.other W14 (Or.inr (slot_ne (Or.inl wl96) (Or.inl wl167) (by decide) (t := .long) (t' := .int) (by decide) (by decide)))
  have f73 : FC Z h14 a0 "interest" "J" (.long f_interest) := f51.other W14 (Or.inr (slot_ne (Or.inl wl98) (Or.inl wl167) (by decide) (t := .long) (t' := .int) (by decide) (by decide)))
  have f74 : FC Z h14 a0 "owedBefore" "J" (.long f_owedBefore) := f52.other W14 (Or.inr (slot_ne (Or.inl wl100) (Or.inl wl167) (by decide) (t := .long) (t' := .int) (by decide) (by decide)))
  have f75 : FC Z h14 a0 "openingScale" "I" (.int f_openingScale) := f53.other W14 (Or.inr (slot_ne (Or.inl wl121) (Or.inl wl167) (by decide) (t := .int) (t' := .int) (by decide) (by decide)))
  have f76 : FC Z h14 a0 "payment" "J" (.long f_payment) := f54.other W14 (Or.inr (slot_ne (Or.inl wl123) (Or.inl wl167) (by decide) (t := .long) (t' := .int) (by decide) (by decide)))
  have f77 : FC Z h14 a0 "paymentScale" "I" (.int f_paymentScale) := f55.other W14 (Or.inr (slot_ne (Or.inl wl125) (Or.inl wl167) (by decide) (t := .int) (t' := .int) (by decide) (by decide)))
  have f78 : FC Z h14 a0 "principal" "J" (.long f_principal) := f56.other W14 (Or.inr (slot_ne (Or.inl wl127) (Or.inl wl167) (by decide) (t := .long) (t' := .int) (by decide) (by decide)))
  have f79 : FC Z h14 a0 "principalScale" "I" (.int f_principalScale) := f57.other W14 (Or.inr (slot_ne (Or.inl wl129) (Or.inl wl167) (by decide) (t := .int) (t' := .int) (by decide) (by decide)))
  have f80 : FC Z h14 a0 "madePaid" "J" (.long f_madePaid) := f58.other W14 (Or.inr (slot_ne (Or.inl wl131) (Or.inl wl167) (by decide) (t := .long) (t' := .int) (by decide) (by decide)))
  have f81 : FC Z h14 a0 "madeScale" "I" (.int f_madeScale) := f59.other W14 (Or.inr (slot_ne (Or.inl wl133) (Or.inl wl167) (by decide) (t := .int) (t' := .int) (by decide) (by decide)))
  have f82 : FC Z h14 a0 "raised" "J" (.long f_raised) := f60.other W14 (Or.inr (slot_ne (Or.inl wl135) (Or.inl wl167) (by decide) (t := .long) (t' := .int) (by decide) (by decide)))
  have f83 : FC Z h14 a0 "raisedScale" "I" (.int f_raisedScale) := f61.other W14 (Or.inr (slot_ne (Or.inl wl137) (Or.inl wl167) (by decide) (t := .int) (t' := .int) (by decide) (by decide)))
  have f84 : FC Z h14 a0 "settled" "Z" (.int f_settled) := f62.other W14 (Or.inr (slot_ne (Or.inl wl139) (Or.inl wl167) (by decide) (t := .boolean) (t' := .int) (by decide) (by decide)))
  have f85 : FC Z h14 a0 "tallied" "J" (.long v1) := f64.other W14 (Or.inr (slot_ne (Or.inl wl161) (Or.inl wl167) (by decide) (t := .long) (t' := .int) (by decide) (by decide)))
  have f86 : FC Z h14 a0 "talliedScale" "I" (.int v2) := f65.other W14 (Or.inr (slot_ne (Or.inl wl163) (Or.inl wl167) (by decide) (t := .int) (t' := .int) (by decide) (by decide)))
  have f87 : FC Z h14 a0 "indexation" "J" (.long v3) := f66.other W14 (Or.inr (slot_ne (Or.inl wl165) (Or.inl wl167) (by decide) (t := .long) (t' := .int) (by decide) (by decide)))
  have Zp14 : n0 ≤ h14.size := Nat.le_trans Zp10 (Keep.of_wr W14).1
  have K14 : Keep h0 h14 [a0] := K10.wr W14 (Or.inl (List.mem_of_getElem? (i := 0) rfl))
  have N14 := Fr.snoc X14 N13 r1
  have f88 : FC Z h14 a0 "indexationScale" "I" (.int v4) := f63.same W14
  have go11 : Go p e below A0 (T14.setTop (mkF m 56 #[.val (.ref a0)] [])) := by
    intro t k
    refine go10 t ?_
    refine st14 _ ?_
    show Steps p.tables e below (T14.setTop (mkF m 56 #[.val (.ref a0)] [])) _
    exact k
  subst hv1
  subst hv2
  subst hv3
  subst hv4
  rw [hA0] at go11
  obtain ⟨fs, hr, hrun, hended, hW, hsame⟩ := X14.leave (v := none) (fun _ => rfl)
  refine ⟨_, _, go11 _ (X14.returnOut hx Bd.returns (hb hby d21_56) hr), hrun, hended, _, _, rfl, ?_, ⟨_, rfl⟩, hW, hsame.mono (by decide) (by decide)⟩
  show Q21 Z a0 f_balloon f_balloonScale f_closing f_closingScale f_opening f_interest f_owedBefore f_openingScale f_payment f_paymentScale f_principal f_principalScale f_madePaid f_madeScale f_raised f_raisedScale f_settled f_tallied f_talliedScale f_indexation f_indexationScale h0 n0 _ T14.heap _
  rw [e14]
  exact ⟨rfl, N14, K14, f68, f69, f70, f71, f72, f73, f74, f75, f76, f77, f78, f79, f80, f81, f82, f83, f84, f85, f86, f87, f88, trivial⟩
theorem d23_0 : decode prog_12_method_19_code 0 = .ok (.aload_n 0, 1) := by decide +kernel
theorem d23_1 : decode prog_12_method_19_code 1 = .ok (.aload_n 0, 1) := by decide +kernel
theorem d23_2 : decode prog_12_method_19_code 2 = .ok (.getfield 95, 3) := by decide +kernel
theorem d23_5 : decode prog_12_method_19_code 5 = .ok (.aload_n 0, 1) := by decide +kernel
theorem d23_6 : decode prog_12_method_19_code 6 = .ok (.getfield 51, 3) := by decide +kernel
theorem d23_9 : decode prog_12_method_19_code 9 = .ok (.lsub, 1) := by decide +kernel
theorem d23_10 : decode prog_12_method_19_code 10 = .ok (.putfield 157, 3) := by decide +kernel
theorem d23_13 : decode prog_12_method_19_code 13 = .ok (.aload_n 0, 1) := by decide +kernel
theorem d23_14 : decode prog_12_method_19_code 14 = .ok (.aload_n 0, 1) := by decide +kernel
theorem d23_15 : decode prog_12_method_19_code 15 = .ok (.getfield 98, 3) := by decide +kernel
theorem d23_18 : decode prog_12_method_19_code 18 = .ok (.aload_n 0, 1) := by decide +kernel
theorem d23_19 : decode prog_12_method_19_code 19 = .ok (.getfield 54, 3) := by decide +kernel
theorem d23_22 : decode prog_12_method_19_code 22 = .ok (.invokestatic 129, 3) := by decide +kernel
theorem d23_25 : decode prog_12_method_19_code 25 = .ok (.putfield 160, 3) := by decide +kernel
theorem d23_28 : decode prog_12_method_19_code 28 = .ok (.aload_n 0, 1) := by decide +kernel
theorem d23_29 : decode prog_12_method_19_code 29 = .ok (.aload_n 0, 1) := by decide +kernel
theorem d23_30 : decode prog_12_method_19_code 30 = .ok (.getfield 101, 3) := by decide +kernel
theorem d23_33 : decode prog_12_method_19_code 33 = .ok (.aload_n 0, 1) := by decide +kernel
theorem d23_34 : decode prog_12_method_19_code 34 = .ok (.getfield 157, 3) := by decide +kernel
theorem d23_37 : decode prog_12_method_19_code 37 = .ok (.ladd, 1) := by decide +kernel
theorem d23_38 : decode prog_12_method_19_code 38 = .ok (.putfield 151, 3) := by decide +kernel
theorem d23_41 : decode prog_12_method_19_code 41 = .ok (.aload_n 0, 1) := by decide +kernel
theorem d23_42 : decode prog_12_method_19_code 42 = .ok (.iconst 2, 1) := by decide +kernel
theorem d23_43 : decode prog_12_method_19_code 43 = .ok (.aload_n 0, 1) := by decide +kernel
theorem d23_44 : decode prog_12_method_19_code 44 = .ok (.getfield 160, 3) := by decide +kernel
theorem d23_47 : decode prog_12_method_19_code 47 = .ok (.invokestatic 129, 3) := by decide +kernel
theorem d23_50 : decode prog_12_method_19_code 50 = .ok (.putfield 154, 3) := by decide +kernel
theorem d23_53 : decode prog_12_method_19_code 53 = .ok (.aload_n 0, 1) := by decide +kernel
theorem d23_54 : decode prog_12_method_19_code 54 = .ok (.aload_n 0, 1) := by decide +kernel
theorem d23_55 : decode prog_12_method_19_code 55 = .ok (.getfield 51, 3) := by decide +kernel
theorem d23_58 : decode prog_12_method_19_code 58 = .ok (.putfield 57, 3) := by decide +kernel
theorem d23_61 : decode prog_12_method_19_code 61 = .ok (.aload_n 0, 1) := by decide +kernel
theorem d23_62 : decode prog_12_method_19_code 62 = .ok (.aload_n 0, 1) := by decide +kernel
theorem d23_63 : decode prog_12_method_19_code 63 = .ok (.getfield 54, 3) := by decide +kernel
theorem d23_66 : decode prog_12_method_19_code 66 = .ok (.putfield 60, 3) := by decide +kernel
theorem d23_69 : decode prog_12_method_19_code 69 = .ok (.aload_n 0, 1) := by decide +kernel
theorem d23_70 : decode prog_12_method_19_code 70 = .ok (.aload_n 0, 1) := by decide +kernel
theorem d23_71 : decode prog_12_method_19_code 71 = .ok (.getfield 151, 3) := by decide +kernel
theorem d23_74 : decode prog_12_method_19_code 74 = .ok (.putfield 163, 3) := by decide +kernel
theorem d23_77 : decode prog_12_method_19_code 77 = .ok (.aload_n 0, 1) := by decide +kernel
theorem d23_78 : decode prog_12_method_19_code 78 = .ok (.aload_n 0, 1) := by decide +kernel
theorem d23_79 : decode prog_12_method_19_code 79 = .ok (.getfield 154, 3) := by decide +kernel
theorem d23_82 : decode prog_12_method_19_code 82 = .ok (.putfield 166, 3) := by decide +kernel
theorem d23_85 : decode prog_12_method_19_code 85 = .ok (.aload_n 0, 1) := by decide +kernel
theorem d23_86 : decode prog_12_method_19_code 86 = .ok (.iconst 1, 1) := by decide +kernel
theorem d23_87 : decode prog_12_method_19_code 87 = .ok (.putfield 169, 3) := by decide +kernel
theorem d23_90 : decode prog_12_method_19_code 90 = .ok (.return_, 1) := by decide +kernel
theorem ef_23 (m : MethodId) (x0 : Addr) : entryFrame m #[(.ref x0)] 1 = mkF m 0 #[.val (.ref x0)] [] := by first | (simp [entryFrame, mkF, argsToLocals, Value.category]; done) | rfl
def Q23 (Z : State) (a0 : Addr) (f_balloon : Int64) (f_balloonScale : Int32) (f_closing : Int64) (f_closingScale : Int32) (f_opening : Int64) (f_interest : Int64) (f_owedBefore : Int64) (f_openingScale : Int32) (f_payment : Int64) (f_paymentScale : Int32) (f_principal : Int64) (f_principalScale : Int32) (f_madePaid : Int64) (f_madeScale : Int32) (f_raised : Int64) (f_raisedScale : Int32) (f_settled : Int32) (f_tallied : Int64) (f_talliedScale : Int32) (f_indexation : Int64) (f_indexationScale : Int32) (h0 : Heap) (n0 : Nat) (v : Option Value) (h : Heap) (L : List Loc) : Prop := v = none ∧ Fr n0 L ∧ Keep h0 h [a0] ∧ FC Z h a0 "balloon" "J" (.long f_balloon) ∧ FC Z h a0 "balloonScale" "I" (.int f_balloonScale) ∧ FC Z h a0 "closing" "J" (.long f_balloon) ∧ FC Z h a0 "closingScale" "I" (.int f_balloonScale) ∧ FC Z h a0 "opening" "J" (.long f_opening) ∧ FC Z h a0 "interest" "J" (.long f_interest) ∧ FC Z h a0 "owedBefore" "J" (.long f_owedBefore) ∧ FC Z h a0 "openingScale" "I" (.int f_openingScale) ∧ FC Z h a0 "payment" "J" (.long (f_interest + (f_opening - f_balloon))) ∧ FC Z h a0 "paymentScale" "I" (.int (Fmax (2 : Int32) (Fmax f_openingScale f_balloonScale))) ∧ FC Z h a0 "principal" "J" (.long (f_opening - f_balloon)) ∧ FC Z h a0 "principalScale" "I" (.int (Fmax f_openingScale f_balloonScale)) ∧ FC Z h a0 "madePaid" "J" (.long (f_interest + (f_opening - f_balloon))) ∧ FC Z h a0 "madeScale" "I" (.int (Fmax (2 : Int32) (Fmax f_openingScale f_balloonScale))) ∧ FC Z h a0 "raised" "J" (.long f_raised) ∧ FC Z h a0 "raisedScale" "I" (.int f_raisedScale) ∧ FC Z h a0 "settled" "Z" (.int (1 : Int32)) ∧ FC Z h a0 "tallied" "J" (.long f_tallied) ∧ FC Z h a0 "talliedScale" "I" (.int f_talliedScale) ∧ FC Z h a0 "indexation" "J" (.long f_indexation) ∧ FC Z h a0 "indexationScale" "I" (.int f_indexationScale) ∧ True
set_option maxRecDepth 65536 in
set_option maxHeartbeats 40000000 in
theorem rm23 (l : Launch) (Z : State) (aw : Array Value) (hw : ∀ d ∈ tables_1, d.before aw Z = true) (ws : List Jvm.Cond) (a0 : Addr) (f_balloon : Int64) (f_balloonScale : Int32) (f_closing : Int64) (f_closingScale : Int32) (f_opening : Int64) (f_interest : Int64) (f_owedBefore : Int64) (f_openingScale : Int32) (f_payment : Int64) (f_paymentScale : Int32) (f_principal : Int64) (f_principalScale : Int32) (f_madePaid : Int64) (f_madeScale : Int32) (f_raised : Int64) (f_raisedScale : Int32) (f_settled : Int32) (f_tallied : Int64) (f_talliedScale : Int32) (f_indexation : Int64) (f_indexationScale : Int32) (h0 : Heap) (n0 : Nat) (Z0 : n0 ≤ h0.size) (r0 : Exa Z h0 a0 "com/example/amortine/amortine/CentAmounts") (r1 : n0 ≤ a0) (r2 : FC Z h0 a0 "balloon" "J" (.long f_balloon)) (r3 : FC Z h0 a0 "balloonScale" "I" (.int f_balloonScale)) (r4 : FC Z h0 a0 "closing" "J" (.long f_closing)) (r5 : FC Z h0 a0 "closingScale" "I" (.int f_closingScale)) (r6 : FC Z h0 a0 "opening" "J" (.long f_opening)) (r7 : FC Z h0 a0 "interest" "J" (.long f_interest)) (r8 : FC Z h0 a0 "owedBefore" "J" (.long f_owedBefore)) (r9 : FC Z h0 a0 "openingScale" "I" (.int f_openingScale)) (r10 : FC Z h0 a0 "payment" "J" (.long f_payment)) (r11 : FC Z h0 a0 "paymentScale" "I" (.int f_paymentScale)) (r12 : FC Z h0 a0 "principal" "J" (.long f_principal)) (r13 : FC Z h0 a0 "principalScale" "I" (.int f_principalScale)) (r14 : FC Z h0 a0 "madePaid" "J" (.long f_madePaid)) (r15 : FC Z h0 a0 "madeScale" "I" (.int f_madeScale)) (r16 : FC Z h0 a0 "raised" "J" (.long f_raised)) (r17 : FC Z h0 a0 "raisedScale" "I" (.int f_raisedScale)) (r18 : FC Z h0 a0 "settled" "Z" (.int f_settled)) (r19 : FC Z h0 a0 "tallied" "J" (.long f_tallied)) (r20 : FC Z h0 a0 "talliedScale" "I" (.int f_talliedScale)) (r21 : FC Z h0 a0 "indexation" "J" (.long f_indexation)) (r22 : FC Z h0 a0 "indexationScale" "I" (.int f_indexationScale)) :
    MetFree l (⟨"com/example/amortine/amortine/CentAmounts", "settle", "()V"⟩ : MethodName) (head1 (Jvm.Cond.code (⟨"com/example/amortine/amortine/CentAmounts", "settle", "()V"⟩ : MethodName) prog_12_method_19_code 1 none :: ws) ({ frames := 1, cells := 0, slots := 0, locals := 14 } : Room)) (fun a U => a = #[(.ref a0)] ∧ Z.Warmed39 U.vm ∧ U.heap = h0) (fun _ _ _ _ _ => True) (fun _ U o U' => ∃ v L, o = .returned v ∧ Q23 Z a0 f_balloon f_balloonScale f_closing f_closingScale f_opening f_interest f_owedBefore f_openingScale f_payment f_paymentScale f_principal f_principalScale f_madePaid f_madeScale f_raised f_raisedScale f_settled f_tallied f_talliedScale f_indexation f_indexationScale h0 n0 v U'.heap L ∧ FrameEnd U o U' L ({ frames := 1, cells := 0, slots := 0, locals := 14 } : Room).cells ({ frames := 1, cells := 0, slots := 0, locals := 14 } : Room).slots) := by
  refine MetFree.of_bodySF (plainFor_of_name pn_7) hisR ?_
  intro p e s m args below meth c s₁ Bd hml0 hP hK
  obtain ⟨rfl, hZ, hh⟩ := hP
  have hx := Bd.exec
  have hby := Bd.bytes
  have hml : c.maxLocals = 1 := hml0
  have hown : s.vm.findClass "com/example/amortine/amortine/CentAmounts" = some m.cls := findClass_of_methodNamed Bd.named
  have hnm := (name_of_methodNamed Bd.named Bd.method).1
  have X0 : Stand p l e ({ frames := 1, cells := 0, slots := 0, locals := 14 } : Room) s m #[(.ref a0)] below meth c s₁ [] 0 0 := Stand.of_body Bd
  have e0 : s₁.heap = h0 := by rw [← hh, Bd.state]; rfl
  have N0 := Fr.nil n0
  obtain ⟨A0, hA0⟩ : ∃ A0, A0 = s₁.setTop (entryFrame m #[(.ref a0)] 1) := ⟨_, rfl⟩
  have go0 : Go p e below A0 (s₁.setTop (mkF m 0 #[.val (.ref a0)] [])) := fun t k => by rw [hA0]; exact castTop (ef_23 m a0) k
  have wl49 : (Jvm.Cond.laysFinal "com/example/amortine/amortine/CentAmounts" "com/example/amortine/amortine/CentAmounts" "balloon" "J").before aw Z = true := (hw _ (List.mem_of_getElem? (i := 49) rfl))
  have wl51 : (Jvm.Cond.laysFinal "com/example/amortine/amortine/CentAmounts" "com/example/amortine/amortine/CentAmounts" "balloonScale" "I").before aw Z = true := (hw _ (List.mem_of_getElem? (i := 51) rfl))
  have wl53 : (Jvm.Cond.lays "com/example/amortine/amortine/CentAmounts" "com/example/amortine/amortine/CentAmounts" "closing" "J").before aw Z = true := (hw _ (List.mem_of_getElem? (i := 53) rfl))
  have wl55 : (Jvm.Cond.lays "com/example/amortine/amortine/CentAmounts" "com/example/amortine/amortine/CentAmounts" "closingScale" "I").before aw Z = true := (hw _ (List.mem_of_getElem? (i := 55) rfl))
  have wl96 : (Jvm.Cond.lays "com/example/amortine/amortine/CentAmounts" "com/example/amortine/amortine/CentAmounts" "opening" "J").before aw Z = true := (hw _ (List.mem_of_getElem? (i := 96) rfl))
  have wl98 : (Jvm.Cond.lays "com/example/amortine/amortine/CentAmounts" "com/example/amortine/amortine/CentAmounts" "interest" "J").before aw Z = true := (hw _ (List.mem_of_getElem? (i := 98) rfl))
  have wl100 : (Jvm.Cond.lays "com/example/amortine/amortine/CentAmounts" "com/example/amortine/amortine/CentAmounts" "owedBefore" "J").before aw Z = true := (hw _ (List.mem_of_getElem? (i := 100) rfl))
  have wl121 : (Jvm.Cond.lays "com/example/amortine/amortine/CentAmounts" "com/example/amortine/amortine/CentAmounts" "openingScale" "I").before aw Z = true := (hw _ (List.mem_of_getElem? (i := 121) rfl))
  have wl123 : (Jvm.Cond.lays "com/example/amortine/amortine/CentAmounts" "com/example/amortine/amortine/CentAmounts" "payment" "J").before aw Z = true := (hw _ (List.mem_of_getElem? (i := 123) rfl))
  have wl125 : (Jvm.Cond.lays "com/example/amortine/amortine/CentAmounts" "com/example/amortine/amortine/CentAmounts" "paymentScale" "I").before aw Z = true := (hw _ (List.mem_of_getElem? (i := 125) rfl))
  have wl127 : (Jvm.Cond.lays "com/example/amortine/amortine/CentAmounts" "com/example/amortine/amortine/CentAmounts" "principal" "J").before aw Z = true := (hw _ (List.mem_of_getElem? (i := 127) rfl))
  have wl129 : (Jvm.Cond.lays "com/example/amortine/amortine/CentAmounts" "com/example/amortine/amortine/CentAmounts" "principalScale" "I").before aw Z = true := (hw _ (List.mem_of_getElem? (i := 129) rfl))
  have wl131 : (Jvm.Cond.lays "com/example/amortine/amortine/CentAmounts" "com/example/amortine/amortine/CentAmounts" "madePaid" "J").before aw Z = true := (hw _ (List.mem_of_getElem? (i := 131) rfl))
  have wl133 : (Jvm.Cond.lays "com/example/amortine/amortine/CentAmounts" "com/example/amortine/amortine/CentAmounts" "madeScale" "I").before aw Z = true := (hw _ (List.mem_of_getElem? (i := 133) rfl))
  have wl135 : (Jvm.Cond.lays "com/example/amortine/amortine/CentAmounts" "com/example/amortine/amortine/CentAmounts" "raised" "J").before aw Z = true := (hw _ (List.mem_of_getElem? (i := 135) rfl))
  have wl137 : (Jvm.Cond.lays "com/example/amortine/amortine/CentAmounts" "com/example/amortine/amortine/CentAmounts" "raisedScale" "I").before aw Z = true := (hw _ (List.mem_of_getElem? (i := 137) rfl))
  have wl139 : (Jvm.Cond.lays "com/example/amortine/amortine/CentAmounts" "com/example/amortine/amortine/CentAmounts" "settled" "Z").before aw Z = true := (hw _ (List.mem_of_getElem? (i := 139) rfl))
  have wl161 : (Jvm.Cond.lays "com/example/amortine/amortine/CentAmounts" "com/example/amortine/amortine/CentAmounts" "tallied" "J").before aw Z = true := (hw _ (List.mem_of_getElem? (i := 161) rfl))
  have wl163 : (Jvm.Cond.lays "com/example/amortine/amortine/CentAmounts" "com/example/amortine/amortine/CentAmounts" "talliedScale" "I").before aw Z = true := (hw _ (List.mem_of_getElem? (i := 163) rfl))
  have wl165 : (Jvm.Cond.lays "com/example/amortine/amortine/CentAmounts" "com/example/amortine/amortine/CentAmounts" "indexation" "J").before aw Z = true := (hw _ (List.mem_of_getElem? (i := 165) rfl))
  have wl167 : (Jvm.Cond.lays "com/example/amortine/amortine/CentAmounts" "com/example/amortine/amortine/CentAmounts" "indexationScale" "I").before aw Z = true := (hw _ (List.mem_of_getElem? (i := 167) rfl))
  obtain ⟨T1, X1, e1, st1⟩ := getF X0 hx hZ hown (host := "") (Or.inl (hw _ (List.mem_of_getElem? (i := 95) rfl))) Via.refl e0 r6 (g := (mkF m 2 #[.val (.ref a0)] [(.ref a0), (.ref a0)])) rfl rfl (hb hby d23_2)
  obtain ⟨T2, X2, e2, st2⟩ := getF X1 hx hZ hown (host := "") (Or.inl (hw _ (List.mem_of_getElem? (i := 48) rfl))) Via.refl e1 r2 (g := (mkF m 6 #[.val (.ref a0)] [(.ref a0), (.long f_opening), (.ref a0)])) rfl rfl (hb hby d23_6)
  have go1 : Go p e below A0 (T2.setTop (mkF m 10 #[.val (.ref a0)] [(.long (f_opening - f_balloon)), (.ref a0)])) := by
    intro t k
    refine go0 t ?_
    refine o_aloadN X0 hx hby d23_0 1 rfl rfl rfl ?_
    refine o_aloadN X0 hx hby d23_1 2 rfl rfl rfl ?_
    refine st1 _ ?_
    show Steps p.tables e below (T1.setTop (mkF m 5 #[.val (.ref a0)] [(.long f_opening), (.ref a0)])) _
    refine o_aloadN X1 hx hby d23_5 6 rfl rfl rfl ?_
    refine st2 _ ?_
    show Steps p.tables e below (T2.setTop (mkF m 9 #[.val (.ref a0)] [(.long f_balloon), (.long f_opening), (.ref a0)])) _
    refine o_lsub X2 hx hby d23_9 10 rfl ?_
    exact k
  obtain ⟨v1, hv1, go2⟩ : ∃ v1 : Int64, v1 = (f_opening - f_balloon) ∧ Go p e below A0 (T2.setTop (mkF m 10 #[.val (.ref a0)] [(.long v1), (.ref a0)])) := ⟨_, rfl, go1⟩
  obtain ⟨T3, h3, X3, e3, W3, st3⟩ := putF X2 hx hZ hown (host := "") (Or.inl (hw _ (List.mem_of_getElem? (i := 126) rfl))) Via.refl e2 r12 r0 (Or.inl (hw _ (List.mem_of_getElem? (i := 127) rfl))) (hw _ (List.mem_of_getElem? (i := 40) rfl)) (ty := .long) (by decide) rfl rfl (g := (mkF m 10 #[.val (.ref a0)] [(.long v1), (.ref a0)])) rfl rfl (hb hby d23_10)
  have f1 : Exa Z h3 a0 "com/example/amortine/amortine/CentAmounts" := r0.wr W3
  have f2 : FC Z h3 a0 "balloon" "J" (.long f_balloon) := r2.other W3 (Or.inr (slot_ne (Or.inr wl49) (Or.inl wl127) (by decide) (t := .long) (t' := .long) (by decide) (by decide)))
  have f3 : FC Z h3 a0 "balloonScale" "I" (.int f_balloonScale) := r3.other W3 (Or.inr (slot_ne (Or.inr wl51) (Or.inl wl127) (by decide) (t := .int) (t' := .long) (by decide) (by decide)))
  have f4 : FC Z h3 a0 "closing" "J" (.long f_closing) := r4.other W3 (Or.inr (slot_ne (Or.inl wl53) (Or.inl wl127) (by decide) (t := .long) (t' := .long) (by decide) (by decide)))
  have f5 : FC Z h3 a0 "closingScale" "I" (.int f_closingScale) := r5.other W3 (Or.inr (slot_ne (Or.inl wl55) (Or.inl wl127) (by decide) (t := .int) (t' := .long) (by decide) (by decide)))
  have f6 : FC Z h3 a0 "opening" "J" (.long f_opening) := r6.other W3 (Or.inr (slot_ne (Or.inl wl96) (Or.inl wl127) (by decide) (t := .long) (t' := .long) (by decide) (by decide)))
  have f7 : FC Z h3 a0 "interest" "J" (.long f_interest) := r7.other W3 (Or.inr (slot_ne (Or.inl wl98) (Or.inl wl127) (by decide) (t := .long) (t' := .long) (by decide) (by decide)))
  have f8 : FC Z h3 a0 "owedBefore" "J" (.long f_owedBefore) := r8.other W3 (Or.inr (slot_ne (Or.inl wl100) (Or.inl wl127) (by decide) (t := .long) (t' := .long) (by decide) (by decide)))
  have f9 : FC Z h3 a0 "openingScale" "I" (.int f_openingScale) := r9.other W3 (Or.inr (slot_ne (Or.inl wl121) (Or.inl wl127) (by decide) (t := .int) (t' := .long) (by decide) (by decide)))
  have f10 : FC Z h3 a0 "payment" "J" (.long f_payment) := r10.other W3 (Or.inr (slot_ne (Or.inl wl123) (Or.inl wl127) (by decide) (t := .long) (t' := .long) (by decide) (by decide)))
  have f11 : FC Z h3 a0 "paymentScale" "I" (.int f_paymentScale) := r11.other W3 (Or.inr (slot_ne (Or.inl wl125) (Or.inl wl127) (by decide) (t := .int) (t' := .long) (by decide) (by decide)))
  have f12 : FC Z h3 a0 "principalScale" "I" (.int f_principalScale) := r13.other W3 (Or.inr (slot_ne (Or.inl wl129) (Or.inl wl127) (by decide) (t := .int) (t' := .long) (by decide) (by decide)))
  have f13 : FC Z h3 a0 "madePaid" "J" (.long f_madePaid) := r14.other W3 (Or.inr (slot_ne (Or.inl wl131) (Or.inl wl127) (by decide) (t := .long) (t' := .long) (by decide) (by decide)))
  have f14 : FC Z h3 a0 "madeScale" "I" (.int f_madeScale) := r15.other W3 (Or.inr (slot_ne (Or.inl wl133) (Or.inl wl127) (by decide) (t := .int) (t' := .long) (by decide) (by decide)))
  have f15 : FC Z h3 a0 "raised" "J" (.long f_raised) := r16.other W3 (Or.inr (slot_ne (Or.inl wl135) (Or.inl wl127) (by decide) (t := .long) (t' := .long) (by decide) (by decide)))
  have f16 : FC Z h3 a0 "raisedScale" "I" (.int f_raisedScale) := r17.other W3 (Or.inr (slot_ne (Or.inl wl137) (Or.inl wl127) (by decide) (t := .int) (t' := .long) (by decide) (by decide)))
  have f17 : FC Z h3 a0 "settled" "Z" (.int f_settled) := r18.other W3 (Or.inr (slot_ne (Or.inl wl139) (Or.inl wl127) (by decide) (t := .boolean) (t' := .long) (by decide) (by decide)))
  have f18 : FC Z h3 a0 "tallied" "J" (.long f_tallied) := r19.other W3 (Or.inr (slot_ne (Or.inl wl161) (Or.inl wl127) (by decide) (t := .long) (t' := .long) (by decide) (by decide)))
  have f19 : FC Z h3 a0 "talliedScale" "I" (.int f_talliedScale) := r20.other W3 (Or.inr (slot_ne (Or.inl wl163) (Or.inl wl127) (by decide) (t := .int) (t' := .long) (by decide) (by decide)))
  have f20 : FC Z h3 a0 "indexation" "J" (.long f_indexation) := r21.other W3 (Or.inr (slot_ne (Or.inl wl165) (Or.inl wl127) (by decide) (t := .long) (t' := .long) (by decide) (by decide)))
  have f21 : FC Z h3 a0 "indexationScale" "I" (.int f_indexationScale) := r22.other W3 (Or.inr (slot_ne (Or.inl wl167) (Or.inl wl127) (by decide) (t := .int) (t' := .long) (by decide) (by decide)))
  have Zp3 : n0 ≤ h3.size := Nat.le_trans Z0 (Keep.of_wr W3).1
  have K3 : Keep h0 h3 [a0] := (Keep.refl h0 [a0]).wr W3 (Or.inl (List.mem_of_getElem? (i := 0) rfl))
  have N3 := Fr.snoc X3 N0 r1
  have f22 : FC Z h3 a0 "principal" "J" (.long v1) := r12.same W3
  obtain ⟨T4, X4, e4, st4⟩ := getF X3 hx hZ hown (host := "") (Or.inl (hw _ (List.mem_of_getElem? (i := 120) rfl))) Via.refl e3 f9 (g := (mkF m 15 #[.val (.ref a0)] [(.ref a0), (.ref a0)])) rfl rfl (hb hby d23_15)
  obtain ⟨T5, X5, e5, st5⟩ := getF X4 hx hZ hown (host := "") (Or.inl (hw _ (List.mem_of_getElem? (i := 50) rfl))) Via.refl e4 f3 (g := (mkF m 19 #[.val (.ref a0)] [(.ref a0), (.int f_openingScale), (.ref a0)])) rfl rfl (hb hby d23_19)
  have go3 : Go p e below A0 (T5.setTop (mkF m 22 #[.val (.ref a0)] [(.int f_balloonScale), (.int f_openingScale), (.ref a0)])) := by
    intro t k
    refine go2 t ?_
    refine st3 _ ?_
    show Steps p.tables e below (T3.setTop (mkF m 13 #[.val (.ref a0)] [])) _
    refine o_aloadN X3 hx hby d23_13 14 rfl rfl rfl ?_
    refine o_aloadN X3 hx hby d23_14 15 rfl rfl rfl ?_
    refine st4 _ ?_
    show Steps p.tables e below (T4.setTop (mkF m 18 #[.val (.ref a0)] [(.int f_openingScale), (.ref a0)])) _
    refine o_aloadN X4 hx hby d23_18 19 rfl rfl rfl ?_
    refine st5 _ ?_
    show Steps p.tables e below (T5.setTop (mkF m 22 #[.val (.ref a0)] [(.int f_balloonScale), (.int f_openingScale), (.ref a0)])) _
    exact k
  obtain ⟨_, _, ⟨T6, L6, k6, n6⟩, -, X6, ⟨Lc6, hQ6, l6, y6, z6⟩, st6⟩ := Jvm.LawKit.callS X5 hx (y := (⟨"java/lang/Math", "max", "(II)I"⟩ : MethodName)) hown (mvT hZ (hw _ (List.mem_of_getElem? (i := 117) rfl))) (mvT hZ (hw _ (List.mem_of_getElem? (i := 118) rfl))) (mvT hZ (hw _ (List.mem_of_getElem? (i := 110) rfl))) (mvT hZ (hw _ (List.mem_of_getElem? (i := 119) rfl))) (by decide) (backOf (W := 1) (rm17 l Z aw hw [] f_openingScale f_balloonScale h3 n0 Zp3) hZ (hw _ (List.mem_of_getElem? (i := 119) rfl)) (hw _ (List.mem_of_getElem? (i := 110) rfl)) (by decide) (by decide)) (g := (mkF m 22 #[.val (.ref a0)] [(.int f_balloonScale), (.int f_openingScale), (.ref a0)])) rfl (by rw [hml]; rfl) (argsL := [(.int f_openingScale), (.int f_balloonScale)]) (rest := [(.ref a0)]) (lenOf pd_14 rfl) rfl (by show 2 * 0 + _ ≤ _; exact Nat.le_of_eq rfl) (hb hby d23_22) (fun _ _ => ⟨rfl, e5, (by decide : 0 + 0 ≤ _), (by decide : 0 + 0 ≤ _)⟩)
  dsimp only [Pt.U, Pt.locs, Pt.cells, Pt.slots] at X6 l6 y6 z6 st6 hQ6
  obtain rfl : k6 = 0 := y6
  obtain rfl : n6 = 0 := z6
  obtain ⟨rfl, N6q, e6⟩ := hQ6
  have N6 : Fr n0 L6 := by rw [l6]; exact Fr.app N3 N6q
  have go4 : Go p e below A0 (T6.setTop (mkF m 25 #[.val (.ref a0)] [(.int (Fmax f_openingScale f_balloonScale)), (.ref a0)])) := by
    intro t k
    refine go3 t ?_
    refine st6 _ ?_
    show Steps p.tables e below (T6.setTop (mkF m 25 #[.val (.ref a0)] [(.int (Fmax f_openingScale f_balloonScale)), (.ref a0)])) _
    exact k
  obtain ⟨v2, hv2, go5⟩ : ∃ v2 : Int32, v2 = (Fmax f_openingScale f_balloonScale) ∧ Go p e below A0 (T6.setTop (mkF m 25 #[.val (.ref a0)] [(.int v2), (.ref a0)])) := ⟨_, rfl, go4⟩
  obtain ⟨T7, h7, X7, e7, W7, st7⟩ := putF X6 hx hZ hown (host := "") (Or.inl (hw _ (List.mem_of_getElem? (i := 128) rfl))) Via.refl e6 f12 f1 (Or.inl (hw _ (List.mem_of_getElem? (i := 129) rfl))) (hw _ (List.mem_of_getElem? (i := 40) rfl)) (ty := .int) (by decide) rfl rfl (g := (mkF m 25 #[.val (.ref a0)] [(.int v2), (.ref a0)])) rfl rfl (hb hby d23_25)
  have f23 : Exa Z h7 a0 "com/example/amortine/amortine/CentAmounts" := f1.wr W7
  have f24 : FC Z h7 a0 "balloon" "J" (.long f_balloon) := f2.other W7 (Or.inr (slot_ne (Or.inr wl49) (Or.inl wl129) (by decide) (t := .long) (t' := .int) (by decide) (by decide)))
  have f25 : FC Z h7 a0 "balloonScale" "I" (.int f_balloonScale) := f3.other W7 (Or.inr (slot_ne (Or.inr wl51) (Or.inl wl129) (by decide) (t := .int) (t' := .int) (by decide) (by decide)))
  have f26 : FC Z h7 a0 "closing" "J" (.long f_closing) := f4.other W7 (Or.inr (slot_ne (Or.inl wl53) (Or.inl wl129) (by decide) (t := .long) (t' := .int) (by decide) (by decide)))
  have f27 : FC Z h7 a0 "closingScale" "I" (.int f_closingScale) := f5.other W7 (Or.inr (slot_ne (Or.inl wl55) (Or.inl wl129) (by decide) (t := .int) (t' := .int) (by decide) (by decide)))
  have f28 : FC Z h7 a0 "opening" "J" (.long f_opening) := f6.other W7 (Or.inr (slot_ne (Or.inl wl96) (Or.inl wl129) (by decide) (t := .long) (t' := .int) (by decide) (by decide)))
  have f29 : FC Z h7 a0 "interest" "J" (.long f_interest) := f7.other W7 (Or.inr (slot_ne (Or.inl wl98) (Or.inl wl129) (by decide) (t := .long) (t' := .int) (by decide) (by decide)))
  have f30 : FC Z h7 a0 "owedBefore" "J" (.long f_owedBefore) := f8.other W7 (Or.inr (slot_ne (Or.inl wl100) (Or.inl wl129) (by decide) (t := .long) (t' := .int) (by decide) (by decide)))
  have f31 : FC Z h7 a0 "openingScale" "I" (.int f_openingScale) := f9.other W7 (Or.inr (slot_ne (Or.inl wl121) (Or.inl wl129) (by decide) (t := .int) (t' := .int) (by decide) (by decide)))
  have f32 : FC Z h7 a0 "payment" "J" (.long f_payment) := f10.other W7 (Or.inr (slot_ne (Or.inl wl123) (Or.inl wl129) (by decide) (t := .long) (t' := .int) (by decide) (by decide)))
  have f33 : FC Z h7 a0 "paymentScale" "I" (.int f_paymentScale) := f11.other W7 (Or.inr (slot_ne (Or.inl wl125) (Or.inl wl129) (by decide) (t := .int) (t' := .int) (by decide) (by decide)))
  have f34 : FC Z h7 a0 "madePaid" "J" (.long f_madePaid) := f13.other W7 (Or.inr (slot_ne (Or.inl wl131) (Or.inl wl129) (by decide) (t := .long) (t' := .int) (by decide) (by decide)))
  have f35 : FC Z h7 a0 "madeScale" "I" (.int f_madeScale) := f14.other W7 (Or.inr (slot_ne (Or.inl wl133) (Or.inl wl129) (by decide) (t := .int) (t' := .int) (by decide) (by decide)))
  have f36 : FC Z h7 a0 "raised" "J" (.long f_raised) := f15.other W7 (Or.inr (slot_ne (Or.inl wl135) (Or.inl wl129) (by decide) (t := .long) (t' := .int) (by decide) (by decide)))
  have f37 : FC Z h7 a0 "raisedScale" "I" (.int f_raisedScale) := f16.other W7 (Or.inr (slot_ne (Or.inl wl137) (Or.inl wl129) (by decide) (t := .int) (t' := .int) (by decide) (by decide)))
  have f38 : FC Z h7 a0 "settled" "Z" (.int f_settled) := f17.other W7 (Or.inr (slot_ne (Or.inl wl139) (Or.inl wl129) (by decide) (t := .boolean) (t' := .int) (by decide) (by decide)))
  have f39 : FC Z h7 a0 "tallied" "J" (.long f_tallied) := f18.other W7 (Or.inr (slot_ne (Or.inl wl161) (Or.inl wl129) (by decide) (t := .long) (t' := .int) (by decide) (by decide)))
  have f40 : FC Z h7 a0 "talliedScale" "I" (.int f_talliedScale) := f19.other W7 (Or.inr (slot_ne (Or.inl wl163) (Or.inl wl129) (by decide) (t := .int) (t' := .int) (by decide) (by decide)))
  have f41 : FC Z h7 a0 "indexation" "J" (.long f_indexation) := f20.other W7 (Or.inr (slot_ne (Or.inl wl165) (Or.inl wl129) (by decide) (t := .long) (t' := .int) (by decide) (by decide)))
  have f42 : FC Z h7 a0 "indexationScale" "I" (.int f_indexationScale) := f21.other W7 (Or.inr (slot_ne (Or.inl wl167) (Or.inl wl129) (by decide) (t := .int) (t' := .int) (by decide) (by decide)))
  have f43 : FC Z h7 a0 "principal" "J" (.long v1) := f22.other W7 (Or.inr (slot_ne (Or.inl wl127) (Or.inl wl129) (by decide) (t := .long) (t' := .int) (by decide) (by decide)))
  have Zp7 : n0 ≤ h7.size := Nat.le_trans Zp3 (Keep.of_wr W7).1
  have K7 : Keep h0 h7 [a0] := K3.wr W7 (Or.inl (List.mem_of_getElem? (i := 0) rfl))
  have N7 := Fr.snoc X7 N6 r1
  have f44 : FC Z h7 a0 "principalScale" "I" (.int v2) := f12.same W7
  obtain ⟨T8, X8, e8, st8⟩ := getF X7 hx hZ hown (host := "") (Or.inl (hw _ (List.mem_of_getElem? (i := 97) rfl))) Via.refl e7 f29 (g := (mkF m 30 #[.val (.ref a0)] [(.ref a0), (.ref a0)])) rfl rfl (hb hby d23_30)
  obtain ⟨T9, X9, e9, st9⟩ := getF X8 hx hZ hown (host := "") (Or.inl (hw _ (List.mem_of_getElem? (i := 126) rfl))) Via.refl e8 f43 (g := (mkF m 34 #[.val (.ref a0)] [(.ref a0), (.long f_interest), (.ref a0)])) rfl rfl (hb hby d23_34)
  have go6 : Go p e below A0 (T9.setTop (mkF m 38 #[.val (.ref a0)] [(.long (f_interest + v1)), (.ref a0)])) := by
    intro t k
    refine go5 t ?_
    refine st7 _ ?_
    show Steps p.tables e below (T7.setTop (mkF m 28 #[.val (.ref a0)] [])) _
    refine o_aloadN X7 hx hby d23_28 29 rfl rfl rfl ?_
    refine o_aloadN X7 hx hby d23_29 30 rfl rfl rfl ?_
    refine st8 _ ?_
    show Steps p.tables e below (T8.setTop (mkF m 33 #[.val (.ref a0)] [(.long f_interest), (.ref a0)])) _
    refine o_aloadN X8 hx hby d23_33 34 rfl rfl rfl ?_
    refine st9 _ ?_
    show Steps p.tables e below (T9.setTop (mkF m 37 #[.val (.ref a0)] [(.long v1), (.long f_interest), (.ref a0)])) _
    refine o_ladd X9 hx hby d23_37 38 rfl ?_
    exact k
  obtain ⟨v3, hv3, go7⟩ : ∃ v3 : Int64, v3 = (f_interest + v1) ∧ Go p e below A0 (T9.setTop (mkF m 38 #[.val (.ref a0)] [(.long v3), (.ref a0)])) := ⟨_, rfl, go6⟩
  obtain ⟨T10, h10, X10, e10, W10, st10⟩ := putF X9 hx hZ hown (host := "") (Or.inl (hw _ (List.mem_of_getElem? (i := 122) rfl))) Via.refl e9 f32 f23 (Or.inl (hw _ (List.mem_of_getElem? (i := 123) rfl))) (hw _ (List.mem_of_getElem? (i := 40) rfl)) (ty := .long) (by decide) rfl rfl (g := (mkF m 38 #[.val (.ref a0)] [(.long v3), (.ref a0)])) rfl rfl (hb hby d23_38)
  have f45 : Exa Z h10 a0 "com/example/amortine/amortine/CentAmounts" := f23.wr W10
  have f46 : FC Z h10 a0 "balloon" "J" (.long f_balloon) := f24.other W10 (Or.inr (slot_ne (Or.inr wl49) (Or.inl wl123) (by decide) (t := .long) (t' := .long) (by decide) (by decide)))
  have f47 : FC Z h10 a0 "balloonScale" "I" (.int f_balloonScale) := f25.other W10 (Or.inr (slot_ne (Or.inr wl51) (Or.inl wl123) (by decide) (t := .int) (t' := .long) (by decide) (by decide)))
  have f48 : FC Z h10 a0 "closing" "J" (.long f_closing) := f26.other W10 (Or.inr (slot_ne (Or.inl wl53) (Or.inl wl123) (by decide) (t := .long) (t' := .long) (by decide) (by decide)))
  have f49 : FC Z h10 a0 "closingScale" "I" (.int f_closingScale) := f27.other W10 (Or.inr (slot_ne (Or.inl wl55) (Or.inl wl123) (by decide) (t := .int) (t' := .long) (by decide) (by decide)))
  have f50 : FC Z h10 a0 "opening" "J" (.long f_opening) := f28.other W10 (Or.inr (slot_ne (Or.inl wl96) (Or.inl wl123) (by decide) (t := .long) (t' := .long) (by decide) (by decide)))
  have f51 : FC Z h10 a0 "interest" "J" (.long f_interest) := f29.other W10 (Or.inr (slot_ne (Or.inl wl98) (Or.inl wl123) (by decide) (t := .long) (t' := .long) (by decide) (by decide)))
  have f52 : FC Z h10 a0 "owedBefore" "J" (.long f_owedBefore) := f30.other W10 (Or.inr (slot_ne (Or.inl wl100) (Or.inl wl123) (by decide) (t := .long) (t' := .long) (by decide) (by decide)))
  have f53 : FC Z h10 a0 "openingScale" "I" (.int f_openingScale) := f31.other W10 (Or.inr (slot_ne (Or.inl wl121) (Or.inl wl123) (by decide) (t := .int) (t' := .long) (by decide) (by decide)))
  have f54 : FC Z h10 a0 "paymentScale" "I" (.int f_paymentScale) := f33.other W10 (Or.inr (slot_ne (Or.inl wl125) (Or.inl wl123) (by decide) (t := .int) (t' := .long) (by decide) (by decide)))
  have f55 : FC Z h10 a0 "madePaid" "J" (.long f_madePaid) := f34.other W10 (Or.inr (slot_ne (Or.inl wl131) (Or.inl wl123) (by decide) (t := .long) (t' := .long) (by decide) (by decide)))
  have f56 : FC Z h10 a0 "madeScale" "I" (.int f_madeScale) := f35.other W10 (Or.inr (slot_ne (Or.inl wl133) (Or.inl wl123) (by decide) (t := .int) (t' := .long) (by decide) (by decide)))
  have f57 : FC Z h10 a0 "raised" "J" (.long f_raised) := f36.other W10 (Or.inr (slot_ne (Or.inl wl135) (Or.inl wl123) (by decide) (t := .long) (t' := .long) (by decide) (by decide)))
  have f58 : FC Z h10 a0 "raisedScale" "I" (.int f_raisedScale) := f37.other W10 (Or.inr (slot_ne (Or.inl wl137) (Or.inl wl123) (by decide) (t := .int) (t' := .long) (by decide) (by decide)))
  have f59 : FC Z h10 a0 "settled" "Z" (.int f_settled) := f38.other W10 (Or.inr (slot_ne (Or.inl wl139) (Or.inl wl123) (by decide) (t := .boolean) (t' := .long) (by decide) (by decide)))
  have f60 : FC Z h10 a0 "tallied" "J" (.long f_tallied) := f39.other W10 (Or.inr (slot_ne (Or.inl wl161) (Or.inl wl123) (by decide) (t := .long) (t' := .long) (by decide) (by decide)))
  have f61 : FC Z h10 a0 "talliedScale" "I" (.int f_talliedScale) := f40.other W10 (Or.inr (slot_ne (Or.inl wl163) (Or.inl wl123) (by decide) (t := .int) (t' := .long) (by decide) (by decide)))
  have f62 : FC Z h10 a0 "indexation" "J" (.long f_indexation) := f41.other W10 (Or.inr (slot_ne (Or.inl wl165) (Or.inl wl123) (by decide) (t := .long) (t' := .long) (by decide) (by decide)))
  have f63 : FC Z h10 a0 "indexationScale" "I" (.int f_indexationScale) := f42.other W10 (Or.inr (slot_ne (Or.inl wl167) (Or.inl wl123) (by decide) (t := .int) (t' := .long) (by decide) (by decide)))
  have f64 : FC Z h10 a0 "principal" "J" (.long v1) := f43.other W10 (Or.inr (slot_ne (Or.inl wl127) (Or.inl wl123) (by decide) (t := .long) (t' := .long) (by decide) (by decide)))
  have f65 : FC Z h10 a0 "principalScale" "I" (.int v2) := f44.other W10 (Or.inr (slot_ne (Or.inl wl129) (Or.inl wl123) (by decide) (t := .int) (t' := .long) (by decide) (by decide)))
  have Zp10 : n0 ≤ h10.size := Nat.le_trans Zp7 (Keep.of_wr W10).1
  have K10 : Keep h0 h10 [a0] := K7.wr W10 (Or.inl (List.mem_of_getElem? (i := 0) rfl))
  have N10 := Fr.snoc X10 N7 r1
  have f66 : FC Z h10 a0 "payment" "J" (.long v3) := f32.same W10
  obtain ⟨T11, X11, e11, st11⟩ := getF X10 hx hZ hown (host := "") (Or.inl (hw _ (List.mem_of_getElem? (i := 128) rfl))) Via.refl e10 f65 (g := (mkF m 44 #[.val (.ref a0)] [(.ref a0), (.int (2 : Int32)), (.ref a0)])) rfl rfl (hb hby d23_44)
  have go8 : Go p e below A0 (T11.setTop (mkF m 47 #[.val (.ref a0)] [(.int v2), (.int (2 : Int32)), (.ref a0)])) := by
    intro t k
    refine go7 t ?_
    refine st10 _ ?_
    show Steps p.tables e below (T10.setTop (mkF m 41 #[.val (.ref a0)] [])) _
    refine o_aloadN X10 hx hby d23_41 42 rfl rfl rfl ?_
    refine o_iconst X10 hx hby d23_42 43 rfl (v := (2 : Int32)) rfl ?_
    refine o_aloadN X10 hx hby d23_43 44 rfl rfl rfl ?_
    refine st11 _ ?_
    show Steps p.tables e below (T11.setTop (mkF m 47 #[.val (.ref a0)] [(.int v2), (.int (2 : Int32)), (.ref a0)])) _
    exact k
  obtain ⟨_, _, ⟨T12, L12, k12, n12⟩, -, X12, ⟨Lc12, hQ12, l12, y12, z12⟩, st12⟩ := Jvm.LawKit.callS X11 hx (y := (⟨"java/lang/Math", "max", "(II)I"⟩ : MethodName)) hown (mvT hZ (hw _ (List.mem_of_getElem? (i := 117) rfl))) (mvT hZ (hw _ (List.mem_of_getElem? (i := 118) rfl))) (mvT hZ (hw _ (List.mem_of_getElem? (i := 110) rfl))) (mvT hZ (hw _ (List.mem_of_getElem? (i := 119) rfl))) (by decide) (backOf (W := 1) (rm17 l Z aw hw [] (2 : Int32) v2 h10 n0 Zp10) hZ (hw _ (List.mem_of_getElem? (i := 119) rfl)) (hw _ (List.mem_of_getElem? (i := 110) rfl)) (by decide) (by decide)) (g := (mkF m 47 #[.val (.ref a0)] [(.int v2), (.int (2 : Int32)), (.ref a0)])) rfl (by rw [hml]; rfl) (argsL := [(.int (2 : Int32)), (.int v2)]) (rest := [(.ref a0)]) (lenOf pd_14 rfl) rfl (by show 2 * 0 + _ ≤ _; exact Nat.le_of_eq rfl) (hb hby d23_47) (fun _ _ => ⟨rfl, e11, (by decide : 0 + 0 ≤ _), (by decide : 0 + 0 ≤ _)⟩)
  dsimp only [Pt.U, Pt.locs, Pt.cells, Pt.slots] at X12 l12 y12 z12 st12 hQ12
  obtain rfl : k12 = 0 := y12
  obtain rfl : n12 = 0 := z12
  obtain ⟨rfl, N12q, e12⟩ := hQ12
  have N12 : Fr n0 L12 := by rw [l12]; exact Fr.app N10 N12q
  have go9 : Go p e below A0 (T12.setTop (mkF m 50 #[.val (.ref a0)] [(.int (Fmax (2 : Int32) v2)), (.ref a0)])) := by
    intro t k
    refine go8 t ?_
    refine st12 _ ?_
    show Steps p.tables e below (T12.setTop (mkF m 50 #[.val (.ref a0)] [(.int (Fmax (2 : Int32) v2)), (.ref a0)])) _
    exact k
  obtain ⟨v4, hv4, go10⟩ : ∃ v4 : Int32, v4 = (Fmax (2 : Int32) v2) ∧ Go p e below A0 (T12.setTop (mkF m 50 #[.val (.ref a0)] [(.int v4), (.ref a0)])) := ⟨_, rfl, go9⟩
  obtain ⟨T13, h13, X13, e13, W13, st13⟩ := putF X12 hx hZ hown (host := "") (Or.inl (hw _ (List.mem_of_getElem? (i := 124) rfl))) Via.refl e12 f54 f45 (Or.inl (hw _ (List.mem_of_getElem? (i := 125) rfl))) (hw _ (List.mem_of_getElem? (i := 40) rfl)) (ty := .int) (by decide) rfl rfl (g := (mkF m 50 #[.val (.ref a0)] [(.int v4), (.ref a0)])) rfl rfl (hb hby d23_50)
  have f67 : Exa Z h13 a0 "com/example/amortine/amortine/CentAmounts" := f45.wr W13
  have f68 : FC Z h13 a0 "balloon" "J" (.long f_balloon) := f46.other W13 (Or.inr (slot_ne (Or.inr wl49) (Or.inl wl125) (by decide) (t := .long) (t' := .int) (by decide) (by decide)))
  have f69 : FC Z h13 a0 "balloonScale" "I" (.int f_balloonScale) := f47.other W13 (Or.inr (slot_ne (Or.inr wl51) (Or.inl wl125) (by decide) (t := .int) (t' := .int) (by decide) (by decide)))
  have f70 : FC Z h13 a0 "closing" "J" (.long f_closing) := f48.other W13 (Or.inr (slot_ne (Or.inl wl53) (Or.inl wl125) (by decide) (t := .long) (t' := .int) (by decide) (by decide)))
  have f71 : FC Z h13 a0 "closingScale" "I" (.int f_closingScale) := f49.other W13 (Or.inr (slot_ne (Or.inl wl55) (Or.inl wl125) (by decide) (t := .int) (t' := .int) (by decide) (by decide)))
  have f72 : FC Z h13 a0 "opening" "J" (.long f_opening) := f50.other W13 (Or.inr (slot_ne (Or.inl wl96) (Or.inl wl125) (by decide) (t := .long) (t' := .int) (by decide) (by decide)))
  have f73 : FC Z h13 a0 "interest" "J" (.long f_interest) := f51.other W13 (Or.inr (slot_ne (Or.inl wl98) (Or.inl wl125) (by decide) (t := .long) (t' := .int) (by decide) (by decide)))
  have f74 : FC Z h13 a0 "owedBefore" "J" (.long f_owedBefore) := f52.other W13 (Or.inr (slot_ne (Or.inl wl100) (Or.inl wl125) (by decide) (t := .long) (t' := .int) (by decide) (by decide)))
  have f75 : FC Z h13 a0 "openingScale" "I" (.int f_openingScale) := f53.other W13 (Or.inr (slot_ne (Or.inl wl121) (Or.inl wl125) (by decide) (t := .int) (t' := .int) (by decide) (by decide)))
  have f76 : FC Z h13 a0 "madePaid" "J" (.long f_madePaid) := f55.other W13 (Or.inr (slot_ne (Or.inl wl131) (Or.inl wl125) (by decide) (t := .long) (t' := .int) (by decide) (by decide)))
  have f77 : FC Z h13 a0 "madeScale" "I" (.int f_madeScale) := f56.other W13 (Or.inr (slot_ne (Or.inl wl133) (Or.inl wl125) (by decide) (t := .int) (t' := .int) (by decide) (by decide)))
  have f78 : FC Z h13 a0 "raised" "J" (.long f_raised) := f57.other W13 (Or.inr (slot_ne (Or.inl wl135) (Or.inl wl125) (by decide) (t := .long) (t' := .int) (by decide) (by decide)))
  have f79 : FC Z h13 a0 "raisedScale" "I" (.int f_raisedScale) := f58.other W13 (Or.inr (slot_ne (Or.inl wl137) (Or.inl wl125) (by decide) (t := .int) (t' := .int) (by decide) (by decide)))
  have f80 : FC Z h13 a0 "settled" "Z" (.int f_settled) := f59.other W13 (Or.inr (slot_ne (Or.inl wl139) (Or.inl wl125) (by decide) (t := .boolean) (t' := .int) (by decide) (by decide)))
  have f81 : FC Z h13 a0 "tallied" "J" (.long f_tallied) := f60.other W13 (Or.inr (slot_ne (Or.inl wl161) (Or.inl wl125) (by decide) (t := .long) (t' := .int) (by decide) (by decide)))
  have f82 : FC Z h13 a0 "talliedScale" "I" (.int f_talliedScale) := f61.other W13 (Or.inr (slot_ne (Or.inl wl163) (Or.inl wl125) (by decide) (t := .int) (t' := .int) (by decide) (by decide)))
  have f83 : FC Z h13 a0 "indexation" "J" (.long f_indexation) := f62.other W13 (Or.inr (slot_ne (Or.inl wl165) (Or.inl wl125) (by decide) (t := .long) (t' := .int) (by decide) (by decide)))
  have f84 : FC Z h13 a0 "indexationScale" "I" (.int f_indexationScale) := f63.other W13 (Or.inr (slot_ne (Or.inl wl167) (Or.inl wl125) (by decide) (t := .int) (t' := .int) (by decide) (by decide)))
  have f85 : FC Z h13 a0 "principal" "J" (.long v1) := f64.other W13 (Or.inr (slot_ne (Or.inl wl127) (Or.inl wl125) (by decide) (t := .long) (t' := .int) (by decide) (by decide)))
  have f86 : FC Z h13 a0 "principalScale" "I" (.int v2) := f65.other W13 (Or.inr (slot_ne (Or.inl wl129) (Or.inl wl125) (by decide) (t := .int) (t' := .int) (by decide) (by decide)))
  have f87 : FC Z h13 a0 "payment" "J" (.long v3) := f66.other W13 (Or.inr (slot_ne (Or.inl wl123) (Or.inl wl125) (by decide) (t := .long) (t' := .int) (by decide) (by decide)))
  have Zp13 : n0 ≤ h13.size := Nat.le_trans Zp10 (Keep.of_wr W13).1
  have K13 : Keep h0 h13 [a0] := K10.wr W13 (Or.inl (List.mem_of_getElem? (i := 0) rfl))
  have N13 := Fr.snoc X13 N12 r1
  have f88 : FC Z h13 a0 "paymentScale" "I" (.int v4) := f54.same W13
  obtain ⟨T14, X14, e14, st14⟩ := getF X13 hx hZ hown (host := "") (Or.inl (hw _ (List.mem_of_getElem? (i := 48) rfl))) Via.refl e13 f68 (g := (mkF m 55 #[.val (.ref a0)] [(.ref a0), (.ref a0)])) rfl rfl (hb hby d23_55)
  have go11 : Go p e below A0 (T14.setTop (mkF m 58 #[.val (.ref a0)] [(.long f_balloon), (.ref a0)])) := by
    intro t k
    refine go10 t ?_
    refine st13 _ ?_
    show Steps p.tables e below (T13.setTop (mkF m 53 #[.val (.ref a0)] [])) _
    refine o_aloadN X13 hx hby d23_53 54 rfl rfl rfl ?_
    refine o_aloadN X13 hx hby d23_54 55 rfl rfl rfl ?_
    refine st14 _ ?_
    show Steps p.tables e below (T14.setTop (mkF m 58 #[.val (.ref a0)] [(.long f_balloon), (.ref a0)])) _
    exact k
  obtain ⟨T15, h15, X15, e15, W15, st15⟩ := putF X14 hx hZ hown (host := "") (Or.inl (hw _ (List.mem_of_getElem? (i := 52) rfl))) Via.refl e14 f70 f67 (Or.inl (hw _ (List.mem_of_getElem? (i := 53) rfl))) (hw _ (List.mem_of_getElem? (i := 40) rfl)) (ty := .long) (by decide) rfl rfl (g := (mkF m 58 #[.val (.ref a0)] [(.long f_balloon), (.ref a0)])) rfl rfl (hb hby d23_58)
  have f89 : Exa Z h15 a0 "com/example/amortine/amortine/CentAmounts" := f67.wr W15
  have f90 : FC Z h15 a0 "balloon" "J" (.long f_balloon) := f68.other W15 (Or.inr (slot_ne (Or.inr wl49) (Or.inl wl53) (by decide) (t := .long) (t' := .long) (by decide) (by decide)))
  have f91 : FC Z h15 a0 "balloonScale" "I" (.int f_balloonScale) := f69.other W15 (Or.inr (slot_ne (Or.inr wl51) (Or.inl wl53) (by decide) (t := .int) (t' := .long) (by decide) (by decide)))
  have f92 : FC Z h15 a0 "closingScale" "I" (.int f_closingScale) := f71.other W15 (Or.inr (slot_ne (Or.inl wl55) (Or.inl wl53) (by decide) (t := .int) (t' := .long) (by decide) (by decide)))
  have f93 : FC Z h15 a0 "opening" "J" (.long f_opening) := f72.other W15 (Or.inr (slot_ne (Or.inl wl96) (Or.inl wl53) (by decide) (t := .long) (t' := .long) (by decide) (by decide)))
  have f94 : FC Z h15 a0 "interest" "J" (.long f_interest) := f73.other W15 (Or.inr (slot_ne (Or.inl wl98) (Or.inl wl53) (by decide) (t := .long) (t' := .long) (by decide) (by decide)))
  have f95 : FC Z h15 a0 "owedBefore" "J" (.long f_owedBefore) := f74.other W15 (Or.inr (slot_ne (Or.inl wl100) (Or.inl wl53) (by decide) (t := .long) (t' := .long) (by decide) (by decide)))
  have f96 : FC Z h15 a0 "openingScale" "I" (.int f_openingScale) := f75.other W15 (Or.inr (slot_ne (Or.inl wl121) (Or.inl wl53) (by decide) (t := .int) (t' := .long) (by decide) (by decide)))
  have f97 : FC Z h15 a0 "madePaid" "J" (.long f_madePaid) := f76.other W15 (Or.inr (slot_ne (Or.inl wl131) (Or.inl wl53) (by decide) (t := .long) (t' := .long) (by decide) (by decide)))
  have f98 : FC Z h15 a0 "madeScale" "I" (.int f_madeScale) := f77.other W15 (Or.inr (slot_ne (Or.inl wl133) (Or.inl wl53) (by decide) (t := .int) (t' := .long) (by decide) (by decide)))
  have f99 : FC Z h15 a0 "raised" "J" (.long f_raised) := f78.other W15 (Or.inr (slot_ne (Or.inl wl135) (Or.inl wl53) (by decide) (t := .long) (t' := .long) (by decide) (by decide)))
  have f100 : FC Z h15 a0 "raisedScale" "I" (.int f_raisedScale) := f79.other W15 (Or.inr (slot_ne (Or.inl wl137) (Or.inl wl53) (by decide) (t := .int) (t' := .long) (by decide) (by decide)))
  have f101 : FC Z h15 a0 "settled" "Z" (.int f_settled) := f80.other W15 (Or.inr (slot_ne (Or.inl wl139) (Or.inl wl53) (by decide) (t := .boolean) (t' := .long) (by decide) (by decide)))
  have f102 : FC Z h15 a0 "tallied" "J" (.long f_tallied) := f81.other W15 (Or.inr (slot_ne (Or.inl wl161) (Or.inl wl53) (by decide) (t := .long) (t' := .long) (by decide) (by decide)))
  have f103 : FC Z h15 a0 "talliedScale" "I" (.int f_talliedScale) := f82.other W15 (Or.inr (slot_ne (Or.inl wl163) (Or.inl wl53) (by decide) (t := .int) (t' := .long) (by decide) (by decide)))
  have f104 : FC Z h15 a0 "indexation" "J" (.long f_indexation) := f83.other W15 (Or.inr (slot_ne (Or.inl wl165) (Or.inl wl53) (by decide) (t := .long) (t' := .long) (by decide) (by decide)))
  have f105 : FC Z h15 a0 "indexationScale" "I" (.int f_indexationScale) := f84.other W15 (Or.inr (slot_ne (Or.inl wl167) (Or.inl wl53) (by decide) (t := .int) (t' := .long) (by decide) (by decide)))
  have f106 : FC Z h15 a0 "principal" "J" (.long v1) := f85.other W15 (Or.inr (slot_ne (Or.inl wl127) (Or.inl wl53) (by decide) (t := .long) (t' := .long) (by decide) (by decide)))
  have f107 : FC Z h15 a0 "principalScale" "I" (.int v2) := f86.other W15 (Or.inr (slot_ne (Or.inl wl129) (Or.inl wl53) (by decide) (t := .int) (t' := .long) (by decide) (by decide)))
  have f108 : FC Z h15 a0 "payment" "J" (.long v3) := f87.other W15 (Or.inr (slot_ne (Or.inl wl123) (Or.inl wl53) (by decide) (t := .long) (t' := .long) (by decide) (by decide)))
  have f109 : FC Z h15 a0 "paymentScale" "I" (.int v4) := f88.other W15 (Or.inr (slot_ne (Or.inl wl125) (Or.inl wl53) (by decide) (t := .int) (t' := .long) (by decide) (by decide)))
  have Zp15 : n0 ≤ h15.size := Nat.le_trans Zp13 (Keep.of_wr W15).1
  have K15 : Keep h0 h15 [a0] := K13.wr W15 (Or.inl (List.mem_of_getElem? (i := 0) rfl))
  have N15 := Fr.snoc X15 N13 r1
  have f110 : FC Z h15 a0 "closing" "J" (.long f_balloon) := f70.same W15
  obtain ⟨T16, X16, e16, st16⟩ := getF X15 hx hZ hown (host := "") (Or.inl (hw _ (List.mem_of_getElem? (i := 50) rfl))) Via.refl e15 f91 (g := (mkF m 63 #[.val (.ref a0)] [(.ref a0), (.ref a0)])) rfl rfl (hb hby d23_63)
  have go12 : Go p e below A0 (T16.setTop (mkF m 66 #[.val (.ref a0)] [(.int f_balloonScale), (.ref a0)])) := by
    intro t k
    refine go11 t ?_
    refine st15 _ ?_
    show Steps p.tables e below (T15.setTop (mkF m 61 #[.val (.ref a0)] [])) _
    refine o_aloadN X15 hx hby d23_61 62 rfl rfl rfl ?_
    refine o_aloadN X15 hx hby d23_62 63 rfl rfl rfl ?_
    refine st16 _ ?_
    show Steps p.tables e below (T16.setTop (mkF m 66 #[.val (.ref a0)] [(.int f_balloonScale), (.ref a0)])) _
    exact k
  obtain ⟨T17, h17, X17, e17, W17, st17⟩ := putF X16 hx hZ hown (host := "") (Or.inl (hw _ (List.mem_of_getElem? (i := 54) rfl))) Via.refl e16 f92 f89 (Or.inl (hw _ (List.mem_of_getElem? (i := 55) rfl))) (hw _ (List.mem_of_getElem? (i := 40) rfl)) (ty := .int) (by decide) rfl rfl (g := (mkF m 66 #[.val (.ref a0)] [(.int f_balloonScale), (.ref a0)])) rfl rfl (hb hby d23_66)
  have f111 : Exa Z h17 a0 "com/example/amortine/amortine/CentAmounts" := f89.wr W17
  have f112 : FC Z h17 a0 "balloon" "J" (.long f_balloon) := f90.other W17 (Or.inr (slot_ne (Or.inr wl49) (Or.inl wl55) (by decide) (t := .long) (t' := .int) (by decide) (by decide)))
  have f113 : FC Z h17 a0 "balloonScale" "I" (.int f_balloonScale) := f91.other W17 (Or.inr (slot_ne (Or.inr wl51) (Or.inl wl55) (by decide) (t := .int) (t' := .int) (by decide) (by decide)))
  have f114 : FC Z h17 a0 "opening" "J" (.long f_opening) := f93.other W17 (Or.inr (slot_ne (Or.inl wl96) (Or.inl wl55) (by decide) (t := .long) (t' := .int) (by decide) (by decide)))
  have f115 : FC Z h17 a0 "interest" "J" (.long f_interest) := f94.other W17 (Or.inr (slot_ne (Or.inl wl98) (Or.inl wl55) (by decide) (t := .long) (t' := .int) (by decide) (by decide)))
  have f116 : FC Z h17 a0 "owedBefore" "J" (.long f_owedBefore) := f95.other W17 (Or.inr (slot_ne (Or.inl wl100) (Or.inl wl55) (by decide) (t := .long) (t' := .int) (by decide) (by decide)))
  have f117 : FC Z h17 a0 "openingScale" "I" (.int f_openingScale) := f96.other W17 (Or.inr (slot_ne (Or.inl wl121) (Or.inl wl55) (by decide) (t := .int) (t' := .int) (by decide) (by decide)))
  have f118 : FC Z h17 a0 "madePaid" "J" (.long f_madePaid) := f97.other W17 (Or.inr (slot_ne (Or.inl wl131) (Or.inl wl55) (by decide) (t := .long) (t' := .int) (by decide) (by decide)))
  have f119 : FC Z h17 a0 "madeScale" "I" (.int f_madeScale) := f98.other W17 (Or.inr (slot_ne (Or.inl wl133) (Or.inl wl55) (by decide) (t := .int) (t' := .int) (by decide) (by decide)))
  have f120 : FC Z h17 a0 "raised" "J" (.long f_raised) := f99.other W17 (Or.inr (slot_ne (Or.inl wl135) (Or.inl wl55) (by decide) (t := .long) (t' := .int) (by decide) (by decide)))
  have f121 : FC Z h17 a0 "raisedScale" "I" (.int f_raisedScale) := f100.other W17 (Or.inr (slot_ne (Or.inl wl137) (Or.inl wl55) (by decide) (t := .int) (t' := .int) (by decide) (by decide)))
  have f122 : FC Z h17 a0 "settled" "Z" (.int f_settled) := f101.other W17 (Or.inr (slot_ne (Or.inl wl139) (Or.inl wl55) (by decide) (t := .boolean) (t' := .int) (by decide) (by decide)))
  have f123 : FC Z h17 a0 "tallied" "J" (.long f_tallied) := f102.other W17 (Or.inr (slot_ne (Or.inl wl161) (Or.inl wl55) (by decide) (t := .long) (t' := .int) (by decide) (by decide)))
  have f124 : FC Z h17 a0 "talliedScale" "I" (.int f_talliedScale) := f103.other W17 (Or.inr (slot_ne (Or.inl wl163) (Or.inl wl55) (by decide) (t := .int) (t' := .int) (by decide) (by decide)))
  have f125 : FC Z h17 a0 "indexation" "J" (.long f_indexation) := f104.other W17 (Or.inr (slot_ne (Or.inl wl165) (Or.inl wl55) (by decide) (t := .long) (t' := .int) (by decide) (by decide)))
  have f126 : FC Z h17 a0 "indexationScale" "I" (.int f_indexationScale) := f105.other W17 (Or.inr (slot_ne (Or.inl wl167) (Or.inl wl55) (by decide) (t := .int) (t' := .int) (by decide) (by decide)))
  have f127 : FC Z h17 a0 "principal" "J" (.long v1) := f106.other W17 (Or.inr (slot_ne (Or.inl wl127) (Or.inl wl55) (by decide) (t := .long) (t' := .int) (by decide) (by decide)))
  have f128 : FC Z h17 a0 "principalScale" "I" (.int v2) := f107.other W17 (Or.inr (slot_ne (Or.inl wl129) (Or.inl wl55) (by decide) (t := .int) (t' := .int) (by decide) (by decide)))
  have f129 : FC Z h17 a0 "payment" "J" (.long v3) := f108.other W17 (Or.inr (slot_ne (Or.inl wl123) (Or.inl wl55) (by decide) (t := .long) (t' := .int) (by decide) (by decide)))
  have f130 : FC Z h17 a0 "paymentScale" "I" (.int v4) := f109.other W17 (Or.inr (slot_ne (Or.inl wl125) (Or.inl wl55) (by decide) (t := .int) (t' := .int) (by decide) (by decide)))
  have f131 : FC Z h17 a0 "closing" "J" (.long f_balloon) := f110.other W17 (Or.inr (slot_ne (Or.inl wl53) (Or.inl wl55) (by decide) (t := .long) (t' := .int) (by decide) (by decide)))
  have Zp17 : n0 ≤ h17.size := Nat.le_trans Zp15 (Keep.of_wr W17).1
  have K17 : Keep h0 h17 [a0] := K15.wr W17 (Or.inl (List.mem_of_getElem? (i := 0) rfl))
  have N17 := Fr.snoc X17 N15 r1
  have f132 : FC Z h17 a0 "closingScale" "I" (.int f_balloonScale) := f92.same W17
  obtain ⟨T18, X18, e18, st18⟩ := getF X17 hx hZ hown (host := "") (Or.inl (hw _ (List.mem_of_getElem? (i := 122) rfl))) Via.refl e17 f129 (g := (mkF m 71 #[.val (.ref a0)] [(.ref a0), (.ref a0)])) rfl rfl (hb hby d23_71)
  have go13 : Go p e below A0 (T18.setTop (mkF m 74 #[.val (.ref a0)] [(.long v3), (.ref a0)])) := by
    intro t k
    refine go12 t ?_
    refine st17 _ ?_
    show Steps p.tables e below (T17.setTop (mkF m 69 #[.val (.ref a0)] [])) _
    refine o_aloadN X17 hx hby d23_69 70 rfl rfl rfl ?_
    refine o_aloadN X17 hx hby d23_70 71 rfl rfl rfl ?_
    refine st18 _ ?_
    show Steps p.tables e below (T18.setTop (mkF m 74 #[.val (.ref a0)] [(.long v3), (.ref a0)])) _
    exact k
  obtain ⟨T19, h19, X19, e19, W19, st19⟩ := putF X18 hx hZ hown (host := "") (Or.inl (hw _ (List.mem_of_getElem? (i := 130) rfl))) Via.refl e18 f118 f111 (Or.inl (hw _ (List.mem_of_getElem? (i := 131) rfl))) (hw _ (List.mem_of_getElem? (i := 40) rfl)) (ty := .long) (by decide) rfl rfl (g := (mkF m 74 #[.val (.ref a0)] [(.long v3), (.ref a0)])) rfl rfl (hb hby d23_74)
  have f133 : Exa Z h19 a0 "com/example/amortine/amortine/CentAmounts" := f111.wr W19
  have f134 : FC Z h19 a0 "balloon" "J" (.long f_balloon) := f112.other W19 (Or.inr (slot_ne (Or.inr wl49) (Or.inl wl131) (by decide) (t := .long) (t' := .long) (by decide) (by decide)))
  have f135 : FC Z h19 a0 "balloonScale" "I" (.int f_balloonScale) := f113.other W19 (Or.inr (slot_ne (Or.inr wl51) (Or.inl wl131) (by decide) (t := .int) (t' := .long) (by decide) (by decide)))
  have f136 : FC Z h19 a0 "opening" "J" (.long f_opening) := f114.other W19 (Or.inr (slot_ne (Or.inl wl96) (Or.inl wl131) (by decide) (t := .long) (t' := .long) (by decide) (by decide)))
  have f137 : FC Z h19 a0 "interest" "J" (.long f_interest) := f115.other W19 (Or.inr (slot_ne (Or.inl wl98) (Or.inl wl131) (by decide) (t := .long) (t' := .long) (by decide) (by decide)))
  have f138 : FC Z h19 a0 "owedBefore" "J" (.long f_owedBefore) := f116.other W19 (Or.inr (slot_ne (Or.inl wl100) (Or.inl wl131) (by decide) (t := .long) (t' := .long) (by decide) (by decide)))
  have f139 : FC Z h19 a0 "openingScale" "I" (.int f_openingScale) := f117.other W19 (Or.inr (slot_ne (Or.inl wl121) (Or.inl wl131) (by decide) (t := .int) (t' := .long) (by decide) (by decide)))
  have f140 : FC Z h19 a0 "madeScale" "I" (.int f_madeScale) := f119.other W19 (Or.inr (slot_ne (Or.inl wl133) (Or.inl wl131) (by decide) (t := .int) (t' := .long) (by decide) (by decide)))
  have f141 : FC Z h19 a0 "raised" "J" (.long f_raised) := f120.other W19 (Or.inr (slot_ne (Or.inl wl135) (Or.inl wl131) (by decide) (t := .long) (t' := .long) (by decide) (by decide)))
  have f142 : FC Z h19 a0 "raisedScale" "I" (.int f_raisedScale) := f121.other W19 (Or.inr (slot_ne (Or.inl wl137) (Or.inl wl131) (by decide) (t := .int) (t' := .long) (by decide) (by decide)))
  have f143 : FC Z h19 a0 "settled" "Z" (.int f_settled) := f122.other W19 (Or.inr (slot_ne (Or.inl wl139) (Or.inl wl131) (by decide) (t := .boolean) (t' := .long) (by decide) (by decide)))
  have f144 : FC Z h19 a0 "tallied" "J" (.long f_tallied) := f123.other W19 (Or.inr (slot_ne (Or.inl wl161) (Or.inl wl131) (by decide) (t := .long) (t' := .long) (by decide) (by decide)))
  have f145 : FC Z h19 a0 "talliedScale" "I" (.int f_talliedScale) := f124.other W19 (Or.inr (slot_ne (Or.inl wl163) (Or.inl wl131) (by decide) (t := .int) (t' := .long) (by decide) (by decide)))
  have f146 : FC Z h19 a0 "indexation" "J" (.long f_indexation) := f125.other W19 (Or.inr (slot_ne (Or.inl wl165) (Or.inl wl131) (by decide) (t := .long) (t' := .long) (by decide) (by decide)))
  have f147 : FC Z h19 a0 "indexationScale" "I" (.int f_indexationScale) := f126.other W19 (Or.inr (slot_ne (Or.inl wl167) (Or.inl wl131) (by decide) (t := .int) (t' := .long) (by decide) (by decide)))
  have f148 : FC Z h19 a0 "principal" "J" (.long v1) := f127.other W19 (Or.inr (slot_ne (Or.inl wl127) (Or.inl wl131) (by decide) (t := .long) (t' := .long) (by decide) (by decide)))
  have f149 : FC Z h19 a0 "principalScale" "I" (.int v2) := f128.other W19 (Or.inr (slot_ne (Or.inl wl129) (Or.inl wl131) (by decide) (t := .int) (t' := .long) (by decide) (by decide)))
  have f150 : FC Z h19 a0 "payment" "J" (.long v3) := f129.other W19 (Or.inr (slot_ne (Or.inl wl123) (Or.inl wl131) (by decide) (t := .long) (t' := .long) (by decide) (by decide)))
  have f151 : FC Z h19 a0 "paymentScale" "I" (.int v4) := f130.other W19 (Or.inr (slot_ne (Or.inl wl125) (Or.inl wl131) (by decide) (t := .int) (t' := .long) (by decide) (by decide)))
  have f152 : FC Z h19 a0 "closing" "J" (.long f_balloon) := f131.other W19 (Or.inr (slot_ne (Or.inl wl53) (Or.inl wl131) (by decide) (t := .long) (t' := .long) (by decide) (by decide)))
  have f153 : FC Z h19 a0 "closingScale" "I" (.int f_balloonScale) := f132.other W19 (Or.inr (slot_ne (Or.inl wl55) (Or.inl wl131) (by decide) (t := .int) (t' := .long) (by decide) (by decide)))
  have Zp19 : n0 ≤ h19.size := Nat.le_trans Zp17 (Keep.of_wr W19).1
  have K19 : Keep h0 h19 [a0] := K17.wr W19 (Or.inl (List.mem_of_getElem? (i := 0) rfl))
  have N19 := Fr.snoc X19 N17 r1
  have f154 : FC Z h19 a0 "madePaid" "J" (.long v3) := f118.same W19
  obtain ⟨T20, X20, e20, st20⟩ := getF X19 hx hZ hown (host := "") (Or.inl (hw _ (List.mem_of_getElem? (i := 124) rfl))) Via.refl e19 f151 (g := (mkF m 79 #[.val (.ref a0)] [(.ref a0), (.ref a0)])) rfl rfl (hb hby d23_79)
  have go14 : Go p e below A0 (T20.setTop (mkF m 82 #[.val (.ref a0)] [(.int v4), (.ref a0)])) := by
    intro t k
    refine go13 t ?_
    refine st19 _ ?_
    show Steps p.tables e below (T19.setTop (mkF m 77 #[.val (.ref a0)] [])) _
    refine o_aloadN X19 hx hby d23_77 78 rfl rfl rfl ?_
    refine o_aloadN X19 hx hby d23_78 79 rfl rfl rfl ?_
    refine st20 _ ?_
    show Steps p.tables e below (T20.setTop (mkF m 82 #[.val (.ref a0)] [(.int v4), (.ref a0)])) _
    exact k
  obtain ⟨T21, h21, X21, e21, W21, st21⟩ := putF X20 hx hZ hown (host := "") (Or.inl (hw _ (List.mem_of_getElem? (i := 132) rfl))) Via.refl e20 f140 f133 (Or.inl (hw _ (List.mem_of_getElem? (i := 133) rfl))) (hw _ (List.mem_of_getElem? (i := 40) rfl)) (ty := .int) (by decide) rfl rfl (g := (mkF m 82 #[.val (.ref a0)] [(.int v4), (.ref a0)])) rfl rfl (hb hby d23_82)
  have f155 : Exa Z h21 a0 "com/example/amortine/amortine/CentAmounts" := f133.wr W21
  have f156 : FC Z h21 a0 "balloon" "J" (.long f_balloon) := f134.other W21 (Or.inr (slot_ne (Or.inr wl49) (Or.inl wl133) (by decide) (t := .long) (t' := .int) (by decide) (by decide)))
  have f157 : FC Z h21 a0 "balloonScale" "I" (.int f_balloonScale) := f135.other W21 (Or.inr (slot_ne (Or.inr wl51) (Or.inl wl133) (by decide) (t := .int) (t' := .int) (by decide) (by decide)))
  have f158 : FC Z h21 a0 "opening" "J" (.long f_opening) := f136.other W21 (Or.inr (slot_ne (Or.inl wl96) (Or.inl wl133) (by decide) (t := .long) (t' := .int) (by decide) (by decide)))
  have f159 : FC Z h21 a0 "interest" "J" (.long f_interest) := f137.other W21 (Or.inr (slot_ne (Or.inl wl98) (Or.inl wl133) (by decide) (t := .long) (t' := .int) (by decide) (by decide)))
  have f160 : FC Z h21 a0 "owedBefore" "J" (.long f_owedBefore) := f138.other W21 (Or.inr (slot_ne (Or.inl wl100) (Or.inl wl133) (by decide) (t := .long) (t' := .int) (by decide) (by decide)))
  have f161 : FC Z h21 a0 "openingScale" "I" (.int f_openingScale) := f139.other W21 (Or.inr (slot_ne (Or.inl wl121) (Or.inl wl133) (by decide) (t := .int) (t' := .int) (by decide) (by decide)))
  have f162 : FC Z h21 a0 "raised" "J" (.long f_raised) := f141.other W21 (Or.inr (slot_ne (Or.inl wl135) (Or.inl wl133) (by decide) (t := .long) (t' := .int) (by decide) (by decide)))
  have f163 : FC Z h21 a0 "raisedScale" "I" (.int f_raisedScale) := f142.other W21 (Or.inr (slot_ne (Or.inl wl137) (Or.inl wl133) (by decide) (t := .int) (t' := .int) (by decide) (by decide)))
  have f164 : FC Z h21 a0 "settled" "Z" (.int f_settled) := f143.other W21 (Or.inr (slot_ne (Or.inl wl139) (Or.inl wl133) (by decide) (t := .boolean) (t' := .int) (by decide) (by decide)))
  have f165 : FC Z h21 a0 "tallied" "J" (.long f_tallied) := f144.other W21 (Or.inr (slot_ne (Or.inl wl161) (Or.inl wl133) (by decide) (t := .long) (t' := .int) (by decide) (by decide)))
  have f166 : FC Z h21 a0 "talliedScale" "I" (.int f_talliedScale) := f145.other W21 (Or.inr (slot_ne (Or.inl wl163) (Or.inl wl133) (by decide) (t := .int) (t' := .int) (by decide) (by decide)))
  have f167 : FC Z h21 a0 "indexation" "J" (.long f_indexation) := f146.other W21 (Or.inr (slot_ne (Or.inl wl165) (Or.inl wl133) (by decide) (t := .long) (t' := .int) (by decide) (by decide)))
  have f168 : FC Z h21 a0 "indexationScale" "I" (.int f_indexationScale) := f147.other W21 (Or.inr (slot_ne (Or.inl wl167) (Or.inl wl133) (by decide) (t := .int) (t' := .int) (by decide) (by decide)))
  have f169 : FC Z h21 a0 "principal" "J" (.long v1) := f148.other W21 (Or.inr (slot_ne (Or.inl wl127) (Or.inl wl133) (by decide) (t := .long) (t' := .int) (by decide) (by decide)))
  have f170 : FC Z h21 a0 "principalScale" "I" (.int v2) := f149.other W21 (Or.inr (slot_ne (Or.inl wl129) (Or.inl wl133) (by decide) (t := .int) (t' := .int) (by decide) (by decide)))
  have f171 : FC Z h21 a0 "payment" "J" (.long v3) := f150.other W21 (Or.inr (slot_ne (Or.inl wl123) (Or.inl wl133) (by decide) (t := .long) (t' := .int) (by decide) (by decide)))
  have f172 : FC Z h21 a0 "paymentScale" "I" (.int v4) := f151.other W21 (Or.inr (slot_ne (Or.inl wl125) (Or.inl wl133) (by decide) (t := .int) (t' := .int) (by decide) (by decide)))
  have f173 : FC Z h21 a0 "closing" "J" (.long f_balloon) := f152.other W21 (Or.inr (slot_ne (Or.inl wl53) (Or.inl wl133) (by decide) (t := .long) (t' := .int) (by decide) (by decide)))
  have f174 : FC Z h21 a0 "closingScale" "I" (.int f_balloonScale) := f153.other W21 (Or.inr (slot_ne (Or.inl wl55) (Or.inl wl133) (by decide) (t := .int) (t' := .int) (by decide) (by decide)))
  have f175 : FC Z h21 a0 "madePaid" "J" (.long v3) := f154.other W21 (Or.inr (slot_ne (Or.inl wl131) (Or.inl wl133) (by decide) (t := .long) (t' := .int) (by decide) (by decide)))
  have Zp21 : n0 ≤ h21.size := Nat.le_trans Zp19 (Keep.of_wr W21).1
  have K21 : Keep h0 h21 [a0] := K19.wr W21 (Or.inl (List.mem_of_getElem? (i := 0) rfl))
  have N21 := Fr.snoc X21 N19 r1
  have f176 : FC Z h21 a0 "madeScale" "I" (.int v4) := f140.same W21
  have go15 : Go p e below A0 (T21.setTop (mkF m 87 #[.val (.ref a0)] [(.int (1 : Int32)), (.ref a0)])) := by
    intro t k
    refine go14 t ?_
    refine st21 _ ?_
    show Steps p.tables e below (T21.setTop (mkF m 85 #[.val (.ref a0)] [])) _
    refine o_aloadN X21 hx hby d23_85 86 rfl rfl rfl ?_
    refine o_iconst X21 hx hby d23_86 87 rfl (v := (1 : Int32)) rfl ?_
    exact k
  obtain ⟨T22, h22, X22, e22, W22, st22⟩ := putF X21 hx hZ hown (host := "") (Or.inl (hw _ (List.mem_of_getElem? (i := 138) rfl))) Via.refl e21 f164 f155 (Or.inl (hw _ (List.mem_of_getElem? (i := 139) rfl))) (hw _ (List.mem_of_getElem? (i := 40) rfl)) (ty := .boolean) (by decide) (by decide) (by decide) (g := (mkF m 87 #[.val (.ref a0)] [(.int (1 : Int32)), (.ref a0)])) rfl rfl (hb hby d23_87)
  have f177 : Exa Z h22 a0 "com/example/amortine/amortine/CentAmounts" := f155.wr W22
  have f178 : FC Z h22 a0 "balloon" "J" (.long f_balloon) := f156.other W22 (Or.inr (slot_ne (Or.inr wl49) (Or.inl wl139) (by decide) (t := .long) (t' := .boolean) (by decide) (by decide)))
  have f179 : FC Z h22 a0 "balloonScale" "I" (.int f_balloonScale) := f157.other W22 (Or.inr (slot_ne (Or.inr wl51) (Or.inl wl139) (by decide) (t := .int) (t' := .boolean) (by decide) (by decide)))
  have f180 : FC Z h22 a0 "opening" "J" (.long f_opening) := f158.other W22 (Or.inr (slot_ne (Or.inl wl96) (Or.inl wl139) (by decide) (t := .long) (t' := .boolean) (by decide) (by decide)))
  have f181 : FC Z h22 a0 "interest" "J" (.long f_interest) := f159.other W22 (Or.inr (slot_ne (Or.inl wl98) (Or.inl wl139) (by decide) (t := .long) (t' := .boolean) (by decide) (by decide)))
  have f182 : FC Z h22 a0 "owedBefore" "J" (.long f_owedBefore) := f160.other W22 (Or.inr (slot_ne (Or.inl wl100) (Or.inl wl139) (by decide) (t := .long) (t' := .boolean) (by decide) (by decide)))
  have f183 : FC Z h22 a0 "openingScale" "I" (.int f_openingScale) := f161.other W22 (Or.inr (slot_ne (Or.inl wl121) (Or.inl wl139) (by decide) (t := .int) (t' := .boolean) (by decide) (by decide)))
  have f184 : FC Z h22 a0 "raised" "J" (.long f_raised) := f162.other W22 (Or.inr (slot_ne (Or.inl wl135) (Or.inl wl139) (by decide) (t := .long) (t' := .boolean) (by decide) (by decide)))
  have f185 : FC Z h22 a0 "raisedScale" "I" (.int f_raisedScale) := f163.other W22 (Or.inr (slot_ne (Or.inl wl137) (Or.inl wl139) (by decide) (t := .int) (t' := .boolean) (by decide) (by decide)))
  have f186 : FC Z h22 a0 "tallied" "J" (.long f_tallied) := f165.other W22 (Or.inr (slot_ne (Or.inl wl161) (Or.inl wl139) (by decide) (t := .long) (t' := .boolean) (by decide) (by decide)))
  have f187 : FC Z h22 a0 "talliedScale" "I" (.int f_talliedScale) := f166.other W22 (Or.inr (slot_ne (Or.inl wl163) (Or.inl wl139) (by decide) (t := .int) (t' := .boolean) (by decide) (by decide)))
  have f188 : FC Z h22 a0 "indexation" "J" (.long f_indexation) := f167.other W22 (Or.inr (slot_ne (Or.inl wl165) (Or.inl wl139) (by decide) (t := .long) (t' := .boolean) (by decide) (by decide)))
  have f189 : FC Z h22 a0 "indexationScale" "I" (.int f_indexationScale) := f168.other W22 (Or.inr (slot_ne (Or.inl wl167) (Or.inl wl139) (by decide) (t := .int) (t' := .boolean) (by decide) (by decide)))
  have f190 : FC Z h22 a0 "principal" "J" (.long v1) := f169.other W22 (Or.inr (slot_ne (Or.inl wl127) (Or.inl wl139) (by decide) (t := .long) (t' := .boolean) (by decide) (by decide)))
  have f191 : FC Z h22 a0 "principalScale" "I" (.int v2) := f170.other W22 (Or.inr (slot_ne (Or.inl wl129) (Or.inl wl139) (by decide) (t := .int) (t' := .boolean) (by decide) (by decide)))
  have f192 : FC Z h22 a0 "payment" "J" (.long v3) := f171.other W22 (Or.inr (slot_ne (Or.inl wl123) (Or.inl wl139) (by decide) (t := .long) (t' := .boolean) (by decide) (by decide)))
  have f193 : FC Z h22 a0 "paymentScale" "I" (.int v4) := f172.other W22 (Or.inr (slot_ne (Or.inl wl125) (Or.inl wl139) (by decide) (t := .int) (t' := .boolean) (by decide) (by decide)))
  have f194 : FC Z h22 a0 "closing" "J" (.long f_balloon) := f173.other W22 (Or.inr (slot_ne (Or.inl wl53) (Or.inl wl139) (by decide) (t := .long) (t' := .boolean) (by decide) (by decide)))
  have f195 : FC Z h22 a0 "closingScale" "I" (.int f_balloonScale) := f174.other W22 (Or.inr (slot_ne (Or.inl wl55) (Or.inl wl139) (by decide) (t := .int) (t' := .boolean) (by decide) (by decide)))
  have f196 : FC Z h22 a0 "madePaid" "J" (.long v3) := f175.other W22 (Or.inr (slot_ne (Or.inl wl131) (Or.inl wl139) (by decide) (t := .long) (t' := .boolean) (by decide) (by decide)))
  have f197 : FC Z h22 a0 "madeScale" "I" (.int v4) := f176.other W22 (Or.inr (slot_ne (Or.inl wl133) (Or.inl wl139) (by decide) (t := .int) (t' := .boolean) (by decide) (by decide)))
  have Zp22 : n0 ≤ h22.size := Nat.le_trans Zp21 (Keep.of_wr W22).1
  have K22 : Keep h0 h22 [a0] := K21.wr W22 (Or.inl (List.mem_of_getElem? (i := 0) rfl))
  have N22 := Fr.snoc X22 N21 r1
  have f198 : FC Z h22 a0 "settled" "Z" (.int (1 : Int32)) := f164.same W22
  have go16 : Go p e below A0 (T22.setTop (mkF m 90 #[.val (.ref a0)] [])) := by
    intro t k
    refine go15 t ?_
    refine st22 _ ?_
    show Steps p.tables e below (T22.setTop (mkF m 90 #[.val (.ref a0)] [])) _
    exact k
  subst hv1
  subst hv2
  subst hv3
  subst hv4
  rw [hA0] at go16
  obtain ⟨fs, hr, hrun, hended, hW, hsame⟩ := X22.leave (v := none) (fun _ => rfl)
  refine ⟨_, _, go16 _ (X22.returnOut hx Bd.returns (hb hby d23_90) hr), hrun, hended, _, _, rfl, ?_, ⟨_, rfl⟩, hW, hsame.mono (by decide) (by decide)⟩
  show Q23 Z a0 f_balloon f_balloonScale f_closing f_closingScale f_opening f_interest f_owedBefore f_openingScale f_payment f_paymentScale f_principal f_principalScale f_madePaid f_madeScale f_raised f_raisedScale f_settled f_tallied f_talliedScale f_indexation f_indexationScale h0 n0 _ T22.heap _
  rw [e22]
  exact ⟨rfl, N22, K22, f178, f179, f194, f195, f180, f181, f182, f183, f192, f193, f190, f191, f196, f197, f184, f185, f198, f186, f187, f188, f189, trivial⟩
theorem d18_0 : decode prog_12_method_17_code 0 = .ok (.aload_n 0, 1) := by decide +kernel
theorem d18_1 : decode prog_12_method_17_code 1 = .ok (.getfield 57, 3) := by decide +kernel
theorem d18_4 : decode prog_12_method_17_code 4 = .ok (.lreturn, 1) := by decide +kernel
theorem ef_18 (m : MethodId) (x0 : Addr) : entryFrame m #[(.ref x0)] 1 = mkF m 0 #[.val (.ref x0)] [] := by first | (simp [entryFrame, mkF, argsToLocals, Value.category]; done) | rfl
def Q18 (Z : State) (a0 : Addr) (f_closing : Int64) (h0 : Heap) (n0 : Nat) (v : Option Value) (h : Heap) (L : List Loc) : Prop := v = some (.long f_closing) ∧ Fr n0 L ∧ h = h0
set_option maxRecDepth 65536 in
set_option maxHeartbeats 40000000 in
theorem rm18 (l : Launch) (Z : State) (aw : Array Value) (hw : ∀ d ∈ tables_1, d.before aw Z = true) (ws : List Jvm.Cond) (a0 : Addr) (f_closing : Int64) (h0 : Heap) (n0 : Nat) (Z0 : n0 ≤ h0.size) (r0 : Exa Z h0 a0 "com/example/amortine/amortine/CentAmounts") (r1 : FC Z h0 a0 "closing" "J" (.long f_closing)) :
    MetFree l (⟨"com/example/amortine/amortine/CentAmounts", "closingCents", "()J"⟩ : MethodName) (head1 (Jvm.Cond.code (⟨"com/example/amortine/amortine/CentAmounts", "closingCents", "()J"⟩ : MethodName) prog_12_method_17_code 1 (some .long) :: ws) ({ frames := 0, cells := 0, slots := 0, locals := 0 } : Room)) (fun a U => a = #[(.ref a0)] ∧ Z.Warmed39 U.vm ∧ U.heap = h0) (fun _ _ _ _ _ => True) (fun _ U o U' => ∃ v L, o = .returned v ∧ Q18 Z a0 f_closing h0 n0 v U'.heap L ∧ FrameEnd U o U' L ({ frames := 0, cells := 0, slots := 0, locals := 0 } : Room).cells ({ frames := 0, cells := 0, slots := 0, locals := 0 } : Room).slots) := by
  refine MetFree.of_bodySF (plainFor_of_name pn_7) hisR ?_
  intro p e s m args below meth c s₁ Bd hml0 hP hK
  obtain ⟨rfl, hZ, hh⟩ := hP
  have hx := Bd.exec
  have hby := Bd.bytes
  have hml : c.maxLocals = 1 := hml0
  have hown : s.vm.findClass "com/example/amortine/amortine/CentAmounts" = some m.cls := findClass_of_methodNamed Bd.named
  have hnm := (name_of_methodNamed Bd.named Bd.method).1
  have X0 : Stand p l e ({ frames := 0, cells := 0, slots := 0, locals := 0 } : Room) s m #[(.ref a0)] below meth c s₁ [] 0 0 := Stand.of_body Bd
  have e0 : s₁.heap = h0 := by rw [← hh, Bd.state]; rfl
  have N0 := Fr.nil n0
  obtain ⟨A0, hA0⟩ : ∃ A0, A0 = s₁.setTop (entryFrame m #[(.ref a0)] 1) := ⟨_, rfl⟩
  have go0 : Go p e below A0 (s₁.setTop (mkF m 0 #[.val (.ref a0)] [])) := fun t k => by rw [hA0]; exact castTop (ef_18 m a0) k
  obtain ⟨T1, X1, e1, st1⟩ := getF X0 hx hZ hown (host := "") (Or.inl (hw _ (List.mem_of_getElem? (i := 52) rfl))) Via.refl e0 r1 (g := (mkF m 1 #[.val (.ref a0)] [(.ref a0)])) rfl rfl (hb hby d18_1)
  have go1 : Go p e below A0 (T1.setTop (mkF m 4 #[.val (.ref a0)] [(.long f_closing)])) := by
    intro t k
    refine go0 t ?_
    refine o_aloadN X0 hx hby d18_0 1 rfl rfl rfl ?_
    refine st1 _ ?_
    show Steps p.tables e below (T1.setTop (mkF m 4 #[.val (.ref a0)] [(.long f_closing)])) _
    exact k
  have hF : f_closing = f_closing := by first | rfl | simp only [*]
  rw [hA0] at go1
  obtain ⟨fs, hr, hrun, hended, hW, hsame⟩ := X1.leave (v := some (.long f_closing)) (fun h => by rw [Bd.returns] at h; cases h)
  refine ⟨_, _, go1 _ (o_retJ X1 hx Bd.returns (hb hby d18_4) hr), hrun, hended, _, _, rfl, ?_, ⟨_, rfl⟩, hW, hsame.mono (by decide) (by decide)⟩
  show Q18 Z a0 f_closing h0 n0 _ T1.heap _
  rw [e1]
  exact ⟨by rw [← hF], N0, rfl⟩
theorem d22_0 : decode prog_12_method_16_code 0 = .ok (.aload_n 0, 1) := by decide +kernel
theorem d22_1 : decode prog_12_method_16_code 1 = .ok (.getfield 195, 3) := by decide +kernel
theorem d22_4 : decode prog_12_method_16_code 4 = .ok (.lreturn, 1) := by decide +kernel
theorem ef_22 (m : MethodId) (x0 : Addr) : entryFrame m #[(.ref x0)] 1 = mkF m 0 #[.val (.ref x0)] [] := by first | (simp [entryFrame, mkF, argsToLocals, Value.category]; done) | rfl
def Q22 (Z : State) (a0 : Addr) (f_tallied : Int64) (h0 : Heap) (n0 : Nat) (v : Option Value) (h : Heap) (L : List Loc) : Prop := v = some (.long f_tallied) ∧ Fr n0 L ∧ h = h0
set_option maxRecDepth 65536 in
set_option maxHeartbeats 40000000 in
theorem rm22 (l : Launch) (Z : State) (aw : Array Value) (hw : ∀ d ∈ tables_1, d.before aw Z = true) (ws : List Jvm.Cond) (a0 : Addr) (f_tallied : Int64) (h0 : Heap) (n0 : Nat) (Z0 : n0 ≤ h0.size) (r0 : Exa Z h0 a0 "com/example/amortine/amortine/CentAmounts") (r1 : FC Z h0 a0 "tallied" "J" (.long f_tallied)) :
    MetFree l (⟨"com/example/amortine/amortine/CentAmounts", "talliedCents", "()J"⟩ : MethodName) (head1 (Jvm.Cond.code (⟨"com/example/amortine/amortine/CentAmounts", "talliedCents", "()J"⟩ : MethodName) prog_12_method_16_code 1 (some .long) :: ws) ({ frames := 0, cells := 0, slots := 0, locals := 0 } : Room)) (fun a U => a = #[(.ref a0)] ∧ Z.Warmed39 U.vm ∧ U.heap = h0) (fun _ _ _ _ _ => True) (fun _ U o U' => ∃ v L, o = .returned v ∧ Q22 Z a0 f_tallied h0 n0 v U'.heap L ∧ FrameEnd U o U' L ({ frames := 0, cells := 0, slots := 0, locals := 0 } : Room).cells ({ frames := 0, cells := 0, slots := 0, locals := 0 } : Room).slots) := by
  refine MetFree.of_bodySF (plainFor_of_name pn_7) hisR ?_
  intro p e s m args below meth c s₁ Bd hml0 hP hK
  obtain ⟨rfl, hZ, hh⟩ := hP
  have hx := Bd.exec
  have hby := Bd.bytes
  have hml : c.maxLocals = 1 := hml0
  have hown : s.vm.findClass "com/example/amortine/amortine/CentAmounts" = some m.cls := findClass_of_methodNamed Bd.named
  have hnm := (name_of_methodNamed Bd.named Bd.method).1
  have X0 : Stand p l e ({ frames := 0, cells := 0, slots := 0, locals := 0 } : Room) s m #[(.ref a0)] below meth c s₁ [] 0 0 := Stand.of_body Bd
  have e0 : s₁.heap = h0 := by rw [← hh, Bd.state]; rfl
  have N0 := Fr.nil n0
  obtain ⟨A0, hA0⟩ : ∃ A0, A0 = s₁.setTop (entryFrame m #[(.ref a0)] 1) := ⟨_, rfl⟩
  have go0 : Go p e below A0 (s₁.setTop (mkF m 0 #[.val (.ref a0)] [])) := fun t k => by rw [hA0]; exact castTop (ef_22 m a0) k
  obtain ⟨T1, X1, e1, st1⟩ := getF X0 hx hZ hown (host := "") (Or.inl (hw _ (List.mem_of_getElem? (i := 160) rfl))) Via.refl e0 r1 (g := (mkF m 1 #[.val (.ref a0)] [(.ref a0)])) rfl rfl (hb hby d22_1)
  have go1 : Go p e below A0 (T1.setTop (mkF m 4 #[.val (.ref a0)] [(.long f_tallied)])) := by
    intro t k
    refine go0 t ?_
    refine o_aloadN X0 hx hby d22_0 1 rfl rfl rfl ?_
    refine st1 _ ?_
    show Steps p.tables e below (T1.setTop (mkF m 4 #[.val (.ref a0)] [(.long f_tallied)])) _
    exact k
  have hF : f_tallied = f_tallied := by first | rfl | simp only [*]
  rw [hA0] at go1
  obtain ⟨fs, hr, hrun, hended, hW, hsame⟩ := X1.leave (v := some (.long f_tallied)) (fun h => by rw [Bd.returns] at h; cases h)
  refine ⟨_, _, go1 _ (o_retJ X1 hx Bd.returns (hb hby d22_4) hr), hrun, hended, _, _, rfl, ?_, ⟨_, rfl⟩, hW, hsame.mono (by decide) (by decide)⟩
  show Q22 Z a0 f_tallied h0 n0 _ T1.heap _
  rw [e1]
  exact ⟨by rw [← hF], N0, rfl⟩
theorem own_end {v1 v2 v6 r v8 v9 v10 v11 v13 v14 v15 v16 : Int64} {v7 v12 v20 : Int32} (hv8 : v8 = (v1 - (v6 - r))) (hv9 : v9 = (v1 - v8)) (hv10 : v10 = (v6 - v9)) (hv11 : v11 = (((v1 - (v6 - r)) - ((v6 - r) * ((v7.toInt64) - (1 : Int64)))) - (v6 - r))) (hv12 : v12 = (Fst r r)) (hv13 : v13 = ((0 : Int64) + ((v6 * ((1 : Int32).toInt64)) + (v6 * (v7.toInt64)))))
    (hv14 : v14 = (((0 : Int64) + ((v6 * ((1 : Int32).toInt64)) + (v6 * (v7.toInt64)))) + (r + (((v1 - (v6 - r)) - ((v6 - r) * ((v7.toInt64) - (1 : Int64)))) - v2)))) (hv15 : v15 = (v8 - (v9 * ((v7.toInt64) - (1 : Int64))))) (hv16 : v16 = (v8 - (v9 * (v7.toInt64))))
    (hv20 : v20 = (if v11 = v16 then (if v12 = (0 : Int32) then (0 : Int32) else (if v13 = (v6 * ((v7.toInt64) + (1 : Int64))) then (if (v14 - v13) = ((v10 + v15) - v2) then (1 : Int32) else (0 : Int32)) else (0 : Int32))) else (0 : Int32))) : v20 = 1 := by
  have e9 : v9 = v6 - r := by rw [hv9, hv8, own_i1]
  have e10 : v10 = r := by rw [hv10, e9, own_i1]
  have c1 : v11 = v16 := by rw [hv11, hv16, hv8, e9, Int64.mul_sub, Int64.mul_one, own_i2]
  have c2 : ¬ v12 = 0 := by rw [hv12]; unfold Fst; rw [if_pos rfl]; decide
  have c3 : v13 = (v6 * ((v7.toInt64) + (1 : Int64))) := by
    rw [hv13, Int64.zero_add, show (1 : Int32).toInt64 = 1 from by decide, Int64.mul_one, Int64.mul_add, Int64.mul_one, Int64.add_comm]
  have c4 : (v14 - v13) = ((v10 + v15) - v2) := by rw [hv14, ← hv13, own_i3, e10, hv15, hv8, e9, own_i4]
  rw [hv20, if_pos c1, if_neg c2, if_pos c3, if_pos c4]
theorem own_Tlit : own_T [(.long (1 : Int64)), (.long (10 : Int64)), (.long (100 : Int64)), (.long (1000 : Int64)), (.long (10000 : Int64)), (.long (100000 : Int64)), (.long (1000000 : Int64)), (.long (10000000 : Int64)), (.long (100000000 : Int64)), (.long (1000000000 : Int64)), (.long (10000000000 : Int64)), (.long (100000000000 : Int64)), (.long (1000000000000 : Int64)), (.long (10000000000000 : Int64)), (.long (100000000000000 : Int64)), (.long (1000000000000000 : Int64)), (.long (10000000000000000 : Int64)), (.long (100000000000000000 : Int64)), (.long (1000000000000000000 : Int64))] := fun j h => by rcases own_three h with rfl | rfl | rfl <;> rfl
theorem own_Flit : own_F [(.long (9223372036854775807 : Int64)), (.long (922337203685477580 : Int64)), (.long (92233720368547758 : Int64)), (.long (9223372036854775 : Int64)), (.long (922337203685477 : Int64)), (.long (92233720368547 : Int64)), (.long (9223372036854 : Int64)), (.long (922337203685 : Int64)), (.long (92233720368 : Int64)), (.long (9223372036 : Int64)), (.long (922337203 : Int64)), (.long (92233720 : Int64)), (.long (9223372 : Int64)), (.long (922337 : Int64)), (.long (92233 : Int64)), (.long (9223 : Int64)), (.long (922 : Int64)), (.long (92 : Int64)), (.long (9 : Int64))] := fun j h => by rcases own_three h with rfl | rfl | rfl <;> rfl
theorem own_len {args : Array Value} {Z : State} {t : Term} {a : Addr} {cl : Cell} {z : Int32} (ht : t.eval args Z none [] Z = some (.ref a)) (ha : Z.arrayAt? a = some cl) (h : (Term.length t).eval args Z none [] Z = some (.int z)) : cl.slots.size < 2 ^ 31 ∧ cl.slots.size.toInt32 = z := by
  by_cases q : cl.slots.size < 2 ^ 31
  · rw [len_f ht ha q] at h; cases h; exact ⟨q, rfl⟩
  · simp [Term.eval, ht, ha, q] at h
theorem pn_0 : plainName "com/example/amortine/amortine/CentAmountsRepeatPinLaw" = true := by first | (simp [plainName, overriddenIn]; done) | decide +kernel
theorem pd_16 : parseMethodDescriptor "(JII)V" = some ⟨[.long, .int, .int], none⟩ := by decide +kernel
theorem pd_17 : parseMethodDescriptor "(JIJIILcom/example/amortine/amortine/PeriodRate;)V" = some ⟨[.long, .int, .long, .int, .int, (.object "com/example/amortine/amortine/PeriodRate")], none⟩ := by decide +kernel
theorem pd_18 : parseMethodDescriptor "(JIIZ)I" = some ⟨[.long, .int, .int, .boolean], some .int⟩ := by decide +kernel
theorem pd_19 : parseMethodDescriptor "()J" = some ⟨[], some .long⟩ := by decide +kernel
theorem pd_20 : parseMethodDescriptor "(I)V" = some ⟨[.int], none⟩ := by decide +kernel
theorem pd_21 : parseMethodDescriptor "()Z" = some ⟨[], some .boolean⟩ := by decide +kernel
theorem pd_22 : parseMethodDescriptor "()V" = some ⟨[], none⟩ := by decide +kernel
theorem ef_0 (m : MethodId) (x0 : Int64) (x1 : Int64) (x2 : Int32) (x3 : Int64) (x4 : Int32) : entryFrame m #[(.long x0), (.long x1), (.int x2), (.long x3), (.int x4)] maxLocals = mkF m 0 #[.val (.long x0), .second, .val (.long x1), .second, .val (.int x2), .val (.long x3), .second, .val (.int x4), .unset, .unset, .unset, .unset, .unset, .unset, .unset, .unset, .unset, .unset, .unset, .unset, .unset, .unset, .unset, .unset, .unset, .unset, .unset, .unset, .unset, .unset, .unset, .unset, .unset, .unset, .unset, .unset, .unset, .unset, .unset] [] := by first | (simp [entryFrame, mkF, argsToLocals, Value.category, maxLocals]; done) | rfl
set_option maxRecDepth 65536 in
set_option maxHeartbeats 4000000 in
theorem pf0_nz18_0 (q0 : Int64) (q1 : Int64) (p2 : Int32) (q3 : Int64) (p4 : Int32) (lt : Addr) (lf : Addr) (kt : ClassId) (kf : ClassId) (tL : List Value) (fL : List Value) (v1 : Int64) (hv1 : v1 = ((120000 : Int64) + (q0 &&& (68719476735 : Int64)))) : ¬ (v1 = (0 : Int64)) := by
  exact own_nz1 (by have := own_am hv1; omega)
set_option maxRecDepth 65536 in
set_option maxHeartbeats 4000000 in
theorem pf0_pa2_1 (q0 : Int64) (q1 : Int64) (p2 : Int32) (q3 : Int64) (p4 : Int32) (lt : Addr) (lf : Addr) (kt : ClassId) (kf : ClassId) (tL : List Value) (fL : List Value) (v1 : Int64) (v2 : Int64) (v3 : Int64) (v4 : Int32) (v5 : Int32) (v6 : Int64) (v7 : Int32) (hv1 : v1 = ((120000 : Int64) + (q0 &&& (68719476735 : Int64)))) (hv2 : v2 = ((q1 &&& (68719476735 : Int64)) % v1)) (hv3 : v3 = ((1 : Int64) + ((p2 &&& (4095 : Int32)).toInt64))) (hv4 : v4 = ((((p2.toUInt32 >>> ((12 : Int32) &&& 31).toUInt32).toInt32) &&& (3 : Int32)) % (3 : Int32))) (hv5 : v5 = ((1 : Int32) + ((((p2.toUInt32 >>> ((14 : Int32) &&& 31).toUInt32).toInt32) &&& (15 : Int32)) % (12 : Int32)))) (hv6 : v6 = (((v1 - v2) - (1 : Int64)) - (q3 &&& (4294967295 : Int64)))) (hv7 : v7 = ((1 : Int32) + (p4 &&& (65535 : Int32)))) : ¬ v4 < 0 ∧ v4 < 3 := by
  exact own_de hv4
set_option maxRecDepth 65536 in
set_option maxHeartbeats 4000000 in
theorem pf0_hp_2 (q0 : Int64) (q1 : Int64) (p2 : Int32) (q3 : Int64) (p4 : Int32) (lt : Addr) (lf : Addr) (kt : ClassId) (kf : ClassId) (tL : List Value) (fL : List Value) (v1 : Int64) (v2 : Int64) (v3 : Int64) (v4 : Int32) (v5 : Int32) (v6 : Int64) (v7 : Int32) (hv1 : v1 = ((120000 : Int64) + (q0 &&& (68719476735 : Int64)))) (hv2 : v2 = ((q1 &&& (68719476735 : Int64)) % v1)) (hv3 : v3 = ((1 : Int64) + ((p2 &&& (4095 : Int32)).toInt64))) (hv4 : v4 = ((((p2.toUInt32 >>> ((12 : Int32) &&& 31).toUInt32).toInt32) &&& (3 : Int32)) % (3 : Int32))) (hv5 : v5 = ((1 : Int32) + ((((p2.toUInt32 >>> ((14 : Int32) &&& 31).toUInt32).toInt32) &&& (15 : Int32)) % (12 : Int32)))) (hv6 : v6 = (((v1 - v2) - (1 : Int64)) - (q3 &&& (4294967295 : Int64)))) (hv7 : v7 = ((1 : Int32) + (p4 &&& (65535 : Int32)))) : 0 < v5.toInt ∧ v5.toInt ≤ 12 := by
  exact own_py hv5
set_option maxRecDepth 65536 in
set_option maxHeartbeats 4000000 in
theorem pf0_hd_3 (q0 : Int64) (q1 : Int64) (p2 : Int32) (q3 : Int64) (p4 : Int32) (lt : Addr) (lf : Addr) (kt : ClassId) (kf : ClassId) (tL : List Value) (fL : List Value) (v1 : Int64) (v2 : Int64) (v3 : Int64) (v4 : Int32) (v5 : Int32) (v6 : Int64) (v7 : Int32) (hv1 : v1 = ((120000 : Int64) + (q0 &&& (68719476735 : Int64)))) (hv2 : v2 = ((q1 &&& (68719476735 : Int64)) % v1)) (hv3 : v3 = ((1 : Int64) + ((p2 &&& (4095 : Int32)).toInt64))) (hv4 : v4 = ((((p2.toUInt32 >>> ((12 : Int32) &&& 31).toUInt32).toInt32) &&& (3 : Int32)) % (3 : Int32))) (hv5 : v5 = ((1 : Int32) + ((((p2.toUInt32 >>> ((14 : Int32) &&& 31).toUInt32).toInt32) &&& (15 : Int32)) % (12 : Int32)))) (hv6 : v6 = (((v1 - v2) - (1 : Int64)) - (q3 &&& (4294967295 : Int64)))) (hv7 : v7 = ((1 : Int32) + (p4 &&& (65535 : Int32)))) : 0 < v3.toInt ∧ v3.toInt ≤ 4096 := by
  exact own_dg hv3
set_option maxRecDepth 65536 in
set_option maxHeartbeats 4000000 in
theorem pf0_hd_4 (q0 : Int64) (q1 : Int64) (p2 : Int32) (q3 : Int64) (p4 : Int32) (lt : Addr) (lf : Addr) (kt : ClassId) (kf : ClassId) (tL : List Value) (fL : List Value) (v1 : Int64) (v2 : Int64) (v3 : Int64) (v4 : Int32) (v5 : Int32) (v6 : Int64) (v7 : Int32) (r2_dv : Int64) (hv1 : v1 = ((120000 : Int64) + (q0 &&& (68719476735 : Int64)))) (hv2 : v2 = ((q1 &&& (68719476735 : Int64)) % v1)) (hv3 : v3 = ((1 : Int64) + ((p2 &&& (4095 : Int32)).toInt64))) (hv4 : v4 = ((((p2.toUInt32 >>> ((12 : Int32) &&& 31).toUInt32).toInt32) &&& (3 : Int32)) % (3 : Int32))) (hv5 : v5 = ((1 : Int32) + ((((p2.toUInt32 >>> ((14 : Int32) &&& 31).toUInt32).toInt32) &&& (15 : Int32)) % (12 : Int32)))) (hv6 : v6 = (((v1 - v2) - (1 : Int64)) - (q3 &&& (4294967295 : Int64)))) (hv7 : v7 = ((1 : Int32) + (p4 &&& (65535 : Int32)))) (qf2_3 : 0 < r2_dv.toInt ∧ r2_dv.toInt ≤ 120000) : 0 < v3.toInt ∧ v3.toInt ≤ 4096 := by
  exact own_dg hv3
set_option maxRecDepth 65536 in
set_option maxHeartbeats 4000000 in
theorem pf0_hA_5 (q0 : Int64) (q1 : Int64) (p2 : Int32) (q3 : Int64) (p4 : Int32) (lt : Addr) (lf : Addr) (kt : ClassId) (kf : ClassId) (tL : List Value) (fL : List Value) (v1 : Int64) (v2 : Int64) (v3 : Int64) (v4 : Int32) (v5 : Int32) (v6 : Int64) (v7 : Int32) (r2_dv : Int64) (r4_n : Int64) (r4_d : Int64) (hv1 : v1 = ((120000 : Int64) + (q0 &&& (68719476735 : Int64)))) (hv2 : v2 = ((q1 &&& (68719476735 : Int64)) % v1)) (hv3 : v3 = ((1 : Int64) + ((p2 &&& (4095 : Int32)).toInt64))) (hv4 : v4 = ((((p2.toUInt32 >>> ((12 : Int32) &&& 31).toUInt32).toInt32) &&& (3 : Int32)) % (3 : Int32))) (hv5 : v5 = ((1 : Int32) + ((((p2.toUInt32 >>> ((14 : Int32) &&& 31).toUInt32).toInt32) &&& (15 : Int32)) % (12 : Int32)))) (hv6 : v6 = (((v1 - v2) - (1 : Int64)) - (q3 &&& (4294967295 : Int64)))) (hv7 : v7 = ((1 : Int32) + (p4 &&& (65535 : Int32)))) (qf2_3 : 0 < r2_dv.toInt ∧ r2_dv.toInt ≤ 120000) (qf4_26 : own_rate r4_n r4_d) : 120000 ≤ v1.toInt ∧ v1.toInt < 137438953472 := by
  exact own_am hv1
set_option maxRecDepth 65536 in
set_option maxHeartbeats 4000000 in
theorem pf0_hB_6 (q0 : Int64) (q1 : Int64) (p2 : Int32) (q3 : Int64) (p4 : Int32) (lt : Addr) (lf : Addr) (kt : ClassId) (kf : ClassId) (tL : List Value) (fL : List Value) (v1 : Int64) (v2 : Int64) (v3 : Int64) (v4 : Int32) (v5 : Int32) (v6 : Int64) (v7 : Int32) (r2_dv : Int64) (r4_n : Int64) (r4_d : Int64) (hv1 : v1 = ((120000 : Int64) + (q0 &&& (68719476735 : Int64)))) (hv2 : v2 = ((q1 &&& (68719476735 : Int64)) % v1)) (hv3 : v3 = ((1 : Int64) + ((p2 &&& (4095 : Int32)).toInt64))) (hv4 : v4 = ((((p2.toUInt32 >>> ((12 : Int32) &&& 31).toUInt32).toInt32) &&& (3 : Int32)) % (3 : Int32))) (hv5 : v5 = ((1 : Int32) + ((((p2.toUInt32 >>> ((14 : Int32) &&& 31).toUInt32).toInt32) &&& (15 : Int32)) % (12 : Int32)))) (hv6 : v6 = (((v1 - v2) - (1 : Int64)) - (q3 &&& (4294967295 : Int64)))) (hv7 : v7 = ((1 : Int32) + (p4 &&& (65535 : Int32)))) (qf2_3 : 0 < r2_dv.toInt ∧ r2_dv.toInt ≤ 120000) (qf4_26 : own_rate r4_n r4_d) : 0 ≤ v2.toInt ∧ v2.toInt < v1.toInt := by
  exact own_ba (own_am hv1) hv2
set_option maxRecDepth 65536 in
set_option maxHeartbeats 4000000 in
theorem pf0_hP_7 (q0 : Int64) (q1 : Int64) (p2 : Int32) (q3 : Int64) (p4 : Int32) (lt : Addr) (lf : Addr) (kt : ClassId) (kf : ClassId) (tL : List Value) (fL : List Value) (v1 : Int64) (v2 : Int64) (v3 : Int64) (v4 : Int32) (v5 : Int32) (v6 : Int64) (v7 : Int32) (r2_dv : Int64) (r4_n : Int64) (r4_d : Int64) (hv1 : v1 = ((120000 : Int64) + (q0 &&& (68719476735 : Int64)))) (hv2 : v2 = ((q1 &&& (68719476735 : Int64)) % v1)) (hv3 : v3 = ((1 : Int64) + ((p2 &&& (4095 : Int32)).toInt64))) (hv4 : v4 = ((((p2.toUInt32 >>> ((12 : Int32) &&& 31).toUInt32).toInt32) &&& (3 : Int32)) % (3 : Int32))) (hv5 : v5 = ((1 : Int32) + ((((p2.toUInt32 >>> ((14 : Int32) &&& 31).toUInt32).toInt32) &&& (15 : Int32)) % (12 : Int32)))) (hv6 : v6 = (((v1 - v2) - (1 : Int64)) - (q3 &&& (4294967295 : Int64)))) (hv7 : v7 = ((1 : Int32) + (p4 &&& (65535 : Int32)))) (qf2_3 : 0 < r2_dv.toInt ∧ r2_dv.toInt ≤ 120000) (qf4_26 : own_rate r4_n r4_d) : 1 ≤ v1.toInt - v6.toInt - v2.toInt ∧ v1.toInt - v6.toInt - v2.toInt ≤ 4294967296 := by
  exact own_pa (own_am hv1) (own_ba (own_am hv1) hv2) hv6
set_option maxRecDepth 65536 in
set_option maxHeartbeats 4000000 in
theorem pl_0_0 (q0 : Int64) (q1 : Int64) (p2 : Int32) (q3 : Int64) (p4 : Int32) (lt : Addr) (lf : Addr) (kt : ClassId) (kf : ClassId) (tL : List Value) (fL : List Value) (v1 : Int64) (v2 : Int64) (v3 : Int64) (v4 : Int32) (v5 : Int32) (v6 : Int64) (v7 : Int32) (r2_dv : Int64) (r4_n : Int64) (r4_d : Int64) (r5_r : Int64) (v8 : Int64) (v9 : Int64) (v10 : Int64) (v11 : Int64) (v12 : Int32) (v13 : Int64) (v14 : Int64) (v15 : Int64) (v16 : Int64) (v20 : Int32) (hv1 : v1 = ((120000 : Int64) + (q0 &&& (68719476735 : Int64)))) (hv2 : v2 = ((q1 &&& (68719476735 : Int64)) % v1)) (hv3 : v3 = ((1 : Int64) + ((p2 &&& (4095 : Int32)).toInt64))) (hv4 : v4 = ((((p2.toUInt32 >>> ((12 : Int32) &&& 31).toUInt32).toInt32) &&& (3 : Int32)) % (3 : Int32))) (hv5 : v5 = ((1 : Int32) + ((((p2.toUInt32 >>> ((14 : Int32) &&& 31).toUInt32).toInt32) &&& (15 : Int32)) % (12 : Int32)))) (hv6 : v6 = (((v1 - v2) - (1 : Int64)) - (q3 &&& (4294967295 : Int64)))) (hv7 : v7 = ((1 : Int32) + (p4 &&& (65535 : Int32)))) (hv8 : v8 = (v1 - (v6 - r5_r))) (hv9 : v9 = (v1 - v8)) (hv10 : v10 = (v6 - v9)) (hv11 : v11 = (((v1 - (v6 - r5_r)) - ((v6 - r5_r) * ((v7.toInt64) - (1 : Int64)))) - (v6 - r5_r))) (hv12 : v12 = (Fst r5_r r5_r)) (hv13 : v13 = ((0 : Int64) + ((v6 * ((1 : Int32).toInt64)) + (v6 * (v7.toInt64))))) (hv14 : v14 = (((0 : Int64) + ((v6 * ((1 : Int32).toInt64)) + (v6 * (v7.toInt64)))) + (r5_r + (((v1 - (v6 - r5_r)) - ((v6 - r5_r) * ((v7.toInt64) - (1 : Int64)))) - v2)))) (hv15 : v15 = (v8 - (v9 * ((v7.toInt64) - (1 : Int64))))) (hv16 : v16 = (v8 - (v9 * (v7.toInt64)))) (hv20 : v20 = (if v11 = v16 then (if v12 = (0 : Int32) then (0 : Int32) else (if v13 = (v6 * ((v7.toInt64) + (1 : Int64))) then (if (v14 - v13) = ((v10 + v15) - v2) then (1 : Int32) else (0 : Int32)) else (0 : Int32))) else (0 : Int32))) (qf2_3 : 0 < r2_dv.toInt ∧ r2_dv.toInt ≤ 120000) (qf4_26 : own_rate r4_n r4_d) (qf5_21 : 1 ≤ r5_r.toInt ∧ r5_r.toInt ≤ 1125899906842624) : v20 = (1 : Int32) := by
  exact own_end hv8 hv9 hv10 hv11 hv12 hv13 hv14 hv15 hv16 hv20
def Q0 (Z : State) (q0 : Int64) (q1 : Int64) (p2 : Int32) (q3 : Int64) (p4 : Int32) (lt : Addr) (lf : Addr) (kt : ClassId) (kf : ClassId) (tL : List Value) (fL : List Value) (h0 : Heap) (n0 : Nat) (v : Option Value) (h : Heap) (L : List Loc) : Prop := v = some (.int 1) ∧ Fr n0 L
set_option maxRecDepth 65536 in
set_option maxHeartbeats 40000000 in
theorem rm0 (l : Launch) (Z : State) (aw : Array Value) (hw : ∀ d ∈ tables_1, d.before aw Z = true) (ws : List Jvm.Cond) (q0 : Int64) (q1 : Int64) (p2 : Int32) (q3 : Int64) (p4 : Int32) (lt : Addr) (lf : Addr) (kt : ClassId) (kf : ClassId) (tL : List Value) (fL : List Value) (h0 : Heap) (n0 : Nat) (Z0 : n0 ≤ h0.size) (r0 : Sta Z Z.heap "com/example/amortine/amortine/Decimals" "LONG_TENS" "[J" (.ref lt)) (r1 : Sta Z Z.heap "com/example/amortine/amortine/Decimals" "LONG_FACTORS" "[J" (.ref lf)) (r2 : Old Z n0 h0) (r3 : Arv Z h0 lt kt .long (19 : Int32) tL (.long (0 : Int64))) (r4 : Arv Z h0 lf kf .long (19 : Int32) fL (.long (0 : Int64))) (hT : (own_T tL)) (hF : (own_F fL)) :
    MetFree l x (head1 (Jvm.Cond.code x code maxLocals ret :: ws) room_1) (fun a U => a = #[(.long q0), (.long q1), (.int p2), (.long q3), (.int p4)] ∧ Z.Warmed39 U.vm ∧ U.heap = h0) (fun _ _ _ _ _ => True) (fun _ U o U' => ∃ v L, o = .returned v ∧ Q0 Z q0 q1 p2 q3 p4 lt lf kt kf tL fL h0 n0 v U'.heap L ∧ FrameEnd U o U' L room_1.cells room_1.slots) := by
  refine MetFree.of_bodySF (plainFor_of_name pn_0) hisR ?_
  intro p e s m args below meth c s₁ Bd hml0 hP hK
  obtain ⟨rfl, hZ, hh⟩ := hP
  have hx := Bd.exec
  have hby := Bd.bytes
  have hml : c.maxLocals = 39 := hml0
  have hown : s.vm.findClass "com/example/amortine/amortine/CentAmountsRepeatPinLaw" = some m.cls := findClass_of_methodNamed Bd.named
  have hnm := (name_of_methodNamed Bd.named Bd.method).1
  have X0 : Stand p l e room_1 s m #[(.long q0), (.long q1), (.int p2), (.long q3), (.int p4)] below meth c s₁ [] 0 0 := Stand.of_body Bd
  have e0 : s₁.heap = h0 := by rw [← hh, Bd.state]; rfl
  have N0 := Fr.nil n0
  obtain ⟨A0, hA0⟩ : ∃ A0, A0 = s₁.setTop (entryFrame m #[(.long q0), (.long q1), (.int p2), (.long q3), (.int p4)] maxLocals) := ⟨_, rfl⟩
  have go0 : Go p e below A0 (s₁.setTop (mkF m 0 #[.val (.long q0), .second, .val (.long q1), .second, .val (.int p2), .val (.long q3), .second, .val (.int p4), .unset, .unset, .unset, .unset, .unset, .unset, .unset, .unset, .unset, .unset, .unset, .unset, .unset, .unset, .unset, .unset, .unset, .unset, .unset, .unset, .unset, .unset, .unset, .unset, .unset, .unset, .unset, .unset, .unset, .unset, .unset] [])) := fun t k => by rw [hA0]; exact castTop (ef_0 m q0 q1 p2 q3 p4) k
  have go1 : Go p e below A0 (s₁.setTop (mkF m 11 #[.val (.long q0), .second, .val (.long q1), .second, .val (.int p2), .val (.long q3), .second, .val (.int p4), .val (.long ((120000 : Int64) + (q0 &&& (68719476735 : Int64)))), .second, .unset, .unset, .unset, .unset, .unset, .unset, .unset, .unset, .unset, .unset, .unset, .unset, .unset, .unset, .unset, .unset, .unset, .unset, .unset, .unset, .unset, .unset, .unset, .unset, .unset, .unset, .unset, .unset, .unset] [])) := by
    intro t k
    refine go0 t ?_
    refine o_ldc2Long X0 hx hby hown (mvT hZ (hw _ (List.mem_of_getElem? (i := 0) rfl))) at_0 3 rfl ?_
    refine o_lloadN X0 hx hby at_3 4 rfl rfl ?_
    refine o_ldc2Long X0 hx hby hown (mvT hZ (hw _ (List.mem_of_getElem? (i := 1) rfl))) at_4 7 rfl ?_
    refine o_land X0 hx hby at_7 8 rfl ?_
    refine o_ladd X0 hx hby at_8 9 rfl ?_
    refine o_lstore X0 hx hby at_9 11 rfl (l' := #[.val (.long q0), .second, .val (.long q1), .second, .val (.int p2), .val (.long q3), .second, .val (.int p4), .val (.long ((120000 : Int64) + (q0 &&& (68719476735 : Int64)))), .second, .unset, .unset, .unset, .unset, .unset, .unset, .unset, .unset, .unset, .unset, .unset, .unset, .unset, .unset, .unset, .unset, .unset, .unset, .unset, .unset, .unset, .unset, .unset, .unset, .unset, .unset, .unset, .unset, .unset]) rfl ?_
    exact k
  obtain ⟨v1, hv1, go2⟩ : ∃ v1 : Int64, v1 = ((120000 : Int64) + (q0 &&& (68719476735 : Int64))) ∧ Go p e below A0 (s₁.setTop (mkF m 11 #[.val (.long q0), .second, .val (.long q1), .second, .val (.int p2), .val (.long q3), .second, .val (.int p4), .val (.long v1), .second, .unset, .unset, .unset, .unset, .unset, .unset, .unset, .unset, .unset, .unset, .unset, .unset, .unset, .unset, .unset, .unset, .unset, .unset, .unset, .unset, .unset, .unset, .unset, .unset, .unset, .unset, .unset, .unset, .unset] [])) := ⟨_, rfl, go1⟩
  have go3 : Go p e below A0 (s₁.setTop (mkF m 18 #[.val (.long q0), .second, .val (.long q1), .second, .val (.int p2), .val (.long q3), .second, .val (.int p4), .val (.long v1), .second, .unset, .unset, .unset, .unset, .unset, .unset, .unset, .unset, .unset, .unset, .unset, .unset, .unset, .unset, .unset, .unset, .unset, .unset, .unset, .unset, .unset, .unset, .unset, .unset, .unset, .unset, .unset, .unset, .unset] [(.long v1), (.long (q1 &&& (68719476735 : Int64)))])) := by
    intro t k
    refine go2 t ?_
    refine o_lloadN X0 hx hby at_11 12 rfl rfl ?_
    refine o_ldc2Long X0 hx hby hown (mvT hZ (hw _ (List.mem_of_getElem? (i := 1) rfl))) at_12 15 rfl ?_
    refine o_land X0 hx hby at_15 16 rfl ?_
    refine o_lload X0 hx hby at_16 18 rfl rfl ?_
    exact k
  have f_nz18_1 : ¬ (v1 = (0 : Int64)) := pf0_nz18_0 q0 q1 p2 q3 p4 lt lf kt kf tL fL v1 hv1
  have go4 : Go p e below A0 (s₁.setTop (mkF m 21 #[.val (.long q0), .second, .val (.long q1), .second, .val (.int p2), .val (.long q3), .second, .val (.int p4), .val (.long v1), .second, .val (.long ((q1 &&& (68719476735 : Int64)) % v1)), .second, .unset, .unset, .unset, .unset, .unset, .unset, .unset, .unset, .unset, .unset, .unset, .unset, .unset, .unset, .unset, .unset, .unset, .unset, .unset, .unset, .unset, .unset, .unset, .unset, .unset, .unset, .unset] [])) := by
    intro t k
    refine go3 t ?_
    refine o_lrem X0 hx hby at_18 19 rfl f_nz18_1 ?_
    refine o_lstore X0 hx hby at_19 21 rfl (l' := #[.val (.long q0), .second, .val (.long q1), .second, .val (.int p2), .val (.long q3), .second, .val (.int p4), .val (.long v1), .second, .val (.long ((q1 &&& (68719476735 : Int64)) % v1)), .second, .unset, .unset, .unset, .unset, .unset, .unset, .unset, .unset, .unset, .unset, .unset, .unset, .unset, .unset, .unset, .unset, .unset, .unset, .unset, .unset, .unset, .unset, .unset, .unset, .unset, .unset, .unset]) rfl ?_
    exact k
  obtain ⟨v2, hv2, go5⟩ : ∃ v2 : Int64, v2 = ((q1 &&& (68719476735 : Int64)) % v1) ∧ Go p e below A0 (s₁.setTop (mkF m 21 #[.val (.long q0), .second, .val (.long q1), .second, .val (.int p2), .val (.long q3), .second, .val (.int p4), .val (.long v1), .second, .val (.long v2), .second, .unset, .unset, .unset, .unset, .unset, .unset, .unset, .unset, .unset, .unset, .unset, .unset, .unset, .unset, .unset, .unset, .unset, .unset, .unset, .unset, .unset, .unset, .unset, .unset, .unset, .unset, .unset] [])) := ⟨_, rfl, go4⟩
  have go6 : Go p e below A0 (s₁.setTop (mkF m 32 #[.val (.long q0), .second, .val (.long q1), .second, .val (.int p2), .val (.long q3), .second, .val (.int p4), .val (.long v1), .second, .val (.long v2), .second, .val (.long ((1 : Int64) + ((p2 &&& (4095 : Int32)).toInt64))), .second, .unset, .unset, .unset, .unset, .unset, .unset, .unset, .unset, .unset, .unset, .unset, .unset, .unset, .unset, .unset, .unset, .unset, .unset, .unset, .unset, .unset, .unset, .unset, .unset, .unset] [])) := by
    intro t k
    refine go5 t ?_
    refine o_lconst X0 hx hby at_21 22 rfl (v := (1 : Int64)) rfl ?_
    refine o_iload X0 hx hby at_22 24 rfl rfl ?_
    refine o_sipush X0 hx hby at_24 27 rfl (v := (4095 : Int32)) rfl ?_
    refine o_iand X0 hx hby at_27 28 rfl ?_
    refine o_i2l X0 hx hby at_28 29 rfl ?_
    refine o_ladd X0 hx hby at_29 30 rfl ?_
    refine o_lstore X0 hx hby at_30 32 rfl (l' := #[.val (.long q0), .second, .val (.long q1), .second, .val (.int p2), .val (.long q3), .second, .val (.int p4), .val (.long v1), .second, .val (.long v2), .second, .val (.long ((1 : Int64) + ((p2 &&& (4095 : Int32)).toInt64))), .second, .unset, .unset, .unset, .unset, .unset, .unset, .unset, .unset, .unset, .unset, .unset, .unset, .unset, .unset, .unset, .unset, .unset, .unset, .unset, .unset, .unset, .unset, .unset, .unset, .unset]) rfl ?_
    exact k
  obtain ⟨v3, hv3, go7⟩ : ∃ v3 : Int64, v3 = ((1 : Int64) + ((p2 &&& (4095 : Int32)).toInt64)) ∧ Go p e below A0 (s₁.setTop (mkF m 32 #[.val (.long q0), .second, .val (.long q1), .second, .val (.int p2), .val (.long q3), .second, .val (.int p4), .val (.long v1), .second, .val (.long v2), .second, .val (.long v3), .second, .unset, .unset, .unset, .unset, .unset, .unset, .unset, .unset, .unset, .unset, .unset, .unset, .unset, .unset, .unset, .unset, .unset, .unset, .unset, .unset, .unset, .unset, .unset, .unset, .unset] [])) := ⟨_, rfl, go6⟩
  have go8 : Go p e below A0 (s₁.setTop (mkF m 43 #[.val (.long q0), .second, .val (.long q1), .second, .val (.int p2), .val (.long q3), .second, .val (.int p4), .val (.long v1), .second, .val (.long v2), .second, .val (.long v3), .second, .val (.int ((((p2.toUInt32 >>> ((12 : Int32) &&& 31).toUInt32).toInt32) &&& (3 : Int32)) % (3 : Int32))), .unset, .unset, .unset, .unset, .unset, .unset, .unset, .unset, .unset, .unset, .unset, .unset, .unset, .unset, .unset, .unset, .unset, .unset, .unset, .unset, .unset, .unset, .unset, .unset] [])) := by
    intro t k
    refine go7 t ?_
    refine o_iload X0 hx hby at_32 34 rfl rfl ?_
    refine o_bipush X0 hx hby at_34 36 rfl (v := (12 : Int32)) rfl ?_
    refine o_iushr X0 hx hby at_36 37 rfl ?_
    refine o_iconst X0 hx hby at_37 38 rfl (v := (3 : Int32)) rfl ?_
    refine o_iand X0 hx hby at_38 39 rfl ?_
    refine o_iconst X0 hx hby at_39 40 rfl (v := (3 : Int32)) rfl ?_
    refine o_irem X0 hx hby at_40 41 rfl (by decide) ?_
    refine o_istore X0 hx hby at_41 43 rfl (l' := #[.val (.long q0), .second, .val (.long q1), .second, .val (.int p2), .val (.long q3), .second, .val (.int p4), .val (.long v1), .second, .val (.long v2), .second, .val (.long v3), .second, .val (.int ((((p2.toUInt32 >>> ((12 : Int32) &&& 31).toUInt32).toInt32) &&& (3 : Int32)) % (3 : Int32))), .unset, .unset, .unset, .unset, .unset, .unset, .unset, .unset, .unset, .unset, .unset, .unset, .unset, .unset, .unset, .unset, .unset, .unset, .unset, .unset, .unset, .unset, .unset, .unset]) rfl ?_
    exact k
  obtain ⟨v4, hv4, go9⟩ : ∃ v4 : Int32, v4 = ((((p2.toUInt32 >>> ((12 : Int32) &&& 31).toUInt32).toInt32) &&& (3 : Int32)) % (3 : Int32)) ∧ Go p e below A0 (s₁.setTop (mkF m 43 #[.val (.long q0), .second, .val (.long q1), .second, .val (.int p2), .val (.long q3), .second, .val (.int p4), .val (.long v1), .second, .val (.long v2), .second, .val (.long v3), .second, .val (.int v4), .unset, .unset, .unset, .unset, .unset, .unset, .unset, .unset, .unset, .unset, .unset, .unset, .unset, .unset, .unset, .unset, .unset, .unset, .unset, .unset, .unset, .unset, .unset, .unset] [])) := ⟨_, rfl, go8⟩
  have go10 : Go p e below A0 (s₁.setTop (mkF m 58 #[.val (.long q0), .second, .val (.long q1), .second, .val (.int p2), .val (.long q3), .second, .val (.int p4), .val (.long v1), .second, .val (.long v2), .second, .val (.long v3), .second, .val (.int v4), .val (.int ((1 : Int32) + ((((p2.toUInt32 >>> ((14 : Int32) &&& 31).toUInt32).toInt32) &&& (15 : Int32)) % (12 : Int32)))), .unset, .unset, .unset, .unset, .unset, .unset, .unset, .unset, .unset, .unset, .unset, .unset, .unset, .unset, .unset, .unset, .unset, .unset, .unset, .unset, .unset, .unset, .unset] [])) := by
    intro t k
    refine go9 t ?_
    refine o_iconst X0 hx hby at_43 44 rfl (v := (1 : Int32)) rfl ?_
    refine o_iload X0 hx hby at_44 46 rfl rfl ?_
    refine o_bipush X0 hx hby at_46 48 rfl (v := (14 : Int32)) rfl ?_
    refine o_iushr X0 hx hby at_48 49 rfl ?_
    refine o_bipush X0 hx hby at_49 51 rfl (v := (15 : Int32)) rfl ?_
    refine o_iand X0 hx hby at_51 52 rfl ?_
    refine o_bipush X0 hx hby at_52 54 rfl (v := (12 : Int32)) rfl ?_
    refine o_irem X0 hx hby at_54 55 rfl (by decide) ?_
    refine o_iadd X0 hx hby at_55 56 rfl ?_
    refine o_istore X0 hx hby at_56 58 rfl (l' := #[.val (.long q0), .second, .val (.long q1), .second, .val (.int p2), .val (.long q3), .second, .val (.int p4), .val (.long v1), .second, .val (.long v2), .second, .val (.long v3), .second, .val (.int v4), .val (.int ((1 : Int32) + ((((p2.toUInt32 >>> ((14 : Int32) &&& 31).toUInt32).toInt32) &&& (15 : Int32)) % (12 : Int32)))), .unset, .unset, .unset, .unset, .unset, .unset, .unset, .unset, .unset, .unset, .unset, .unset, .unset, .unset, .unset, .unset, .unset, .unset, .unset, .unset, .unset, .unset, .unset]) rfl ?_
    exact k
  obtain ⟨v5, hv5, go11⟩ : ∃ v5 : Int32, v5 = ((1 : Int32) + ((((p2.toUInt32 >>> ((14 : Int32) &&& 31).toUInt32).toInt32) &&& (15 : Int32)) % (12 : Int32))) ∧ Go p e below A0 (s₁.setTop (mkF m 58 #[.val (.long q0), .second, .val (.long q1), .second, .val (.int p2), .val (.long q3), .second, .val (.int p4), .val (.long v1), .second, .val (.long v2), .second, .val (.long v3), .second, .val (.int v4), .val (.int v5), .unset, .unset, .unset, .unset, .unset, .unset, .unset, .unset, .unset, .unset, .unset, .unset, .unset, .unset, .unset, .unset, .unset, .unset, .unset, .unset, .unset, .unset, .unset] [])) := ⟨_, rfl, go10⟩
  have go12 : Go p e below A0 (s₁.setTop (mkF m 74 #[.val (.long q0), .second, .val (.long q1), .second, .val (.int p2), .val (.long q3), .second, .val (.int p4), .val (.long v1), .second, .val (.long v2), .second, .val (.long v3), .second, .val (.int v4), .val (.int v5), .val (.long (((v1 - v2) - (1 : Int64)) - (q3 &&& (4294967295 : Int64)))), .second, .unset, .unset, .unset, .unset, .unset, .unset, .unset, .unset, .unset, .unset, .unset, .unset, .unset, .unset, .unset, .unset, .unset, .unset, .unset, .unset, .unset] [])) := by
    intro t k
    refine go11 t ?_
    refine o_lload X0 hx hby at_58 60 rfl rfl ?_
    refine o_lload X0 hx hby at_60 62 rfl rfl ?_
    refine o_lsub X0 hx hby at_62 63 rfl ?_
    refine o_lconst X0 hx hby at_63 64 rfl (v := (1 : Int64)) rfl ?_
    refine o_lsub X0 hx hby at_64 65 rfl ?_
    refine o_lload X0 hx hby at_65 67 rfl rfl ?_
    refine o_ldc2Long X0 hx hby hown (mvT hZ (hw _ (List.mem_of_getElem? (i := 2) rfl))) at_67 70 rfl ?_
    refine o_land X0 hx hby at_70 71 rfl ?_
    refine o_lsub X0 hx hby at_71 72 rfl ?_
    refine o_lstore X0 hx hby at_72 74 rfl (l' := #[.val (.long q0), .second, .val (.long q1), .second, .val (.int p2), .val (.long q3), .second, .val (.int p4), .val (.long v1), .second, .val (.long v2), .second, .val (.long v3), .second, .val (.int v4), .val (.int v5), .val (.long (((v1 - v2) - (1 : Int64)) - (q3 &&& (4294967295 : Int64)))), .second, .unset, .unset, .unset, .unset, .unset, .unset, .unset, .unset, .unset, .unset, .unset, .unset, .unset, .unset, .unset, .unset, .unset, .unset, .unset, .unset, .unset]) rfl ?_
    exact k
  obtain ⟨v6, hv6, go13⟩ : ∃ v6 : Int64, v6 = (((v1 - v2) - (1 : Int64)) - (q3 &&& (4294967295 : Int64))) ∧ Go p e below A0 (s₁.setTop (mkF m 74 #[.val (.long q0), .second, .val (.long q1), .second, .val (.int p2), .val (.long q3), .second, .val (.int p4), .val (.long v1), .second, .val (.long v2), .second, .val (.long v3), .second, .val (.int v4), .val (.int v5), .val (.long v6), .second, .unset, .unset, .unset, .unset, .unset, .unset, .unset, .unset, .unset, .unset, .unset, .unset, .unset, .unset, .unset, .unset, .unset, .unset, .unset, .unset, .unset] [])) := ⟨_, rfl, go12⟩
  have go14 : Go p e below A0 (s₁.setTop (mkF m 83 #[.val (.long q0), .second, .val (.long q1), .second, .val (.int p2), .val (.long q3), .second, .val (.int p4), .val (.long v1), .second, .val (.long v2), .second, .val (.long v3), .second, .val (.int v4), .val (.int v5), .val (.long v6), .second, .val (.int ((1 : Int32) + (p4 &&& (65535 : Int32)))), .unset, .unset, .unset, .unset, .unset, .unset, .unset, .unset, .unset, .unset, .unset, .unset, .unset, .unset, .unset, .unset, .unset, .unset, .unset, .unset] [])) := by
    intro t k
    refine go13 t ?_
    refine o_iconst X0 hx hby at_74 75 rfl (v := (1 : Int32)) rfl ?_
    refine o_iload X0 hx hby at_75 77 rfl rfl ?_
    refine o_ldcInt X0 hx hby hown (mvT hZ (hw _ (List.mem_of_getElem? (i := 3) rfl))) at_77 79 rfl ?_
    refine o_iand X0 hx hby at_79 80 rfl ?_
    refine o_iadd X0 hx hby at_80 81 rfl ?_
    refine o_istore X0 hx hby at_81 83 rfl (l' := #[.val (.long q0), .second, .val (.long q1), .second, .val (.int p2), .val (.long q3), .second, .val (.int p4), .val (.long v1), .second, .val (.long v2), .second, .val (.long v3), .second, .val (.int v4), .val (.int v5), .val (.long v6), .second, .val (.int ((1 : Int32) + (p4 &&& (65535 : Int32)))), .unset, .unset, .unset, .unset, .unset, .unset, .unset, .unset, .unset, .unset, .unset, .unset, .unset, .unset, .unset, .unset, .unset, .unset, .unset, .unset]) rfl ?_
    exact k
  obtain ⟨v7, hv7, go15⟩ : ∃ v7 : Int32, v7 = ((1 : Int32) + (p4 &&& (65535 : Int32))) ∧ Go p e below A0 (s₁.setTop (mkF m 83 #[.val (.long q0), .second, .val (.long q1), .second, .val (.int p2), .val (.long q3), .second, .val (.int p4), .val (.long v1), .second, .val (.long v2), .second, .val (.long v3), .second, .val (.int v4), .val (.int v5), .val (.long v6), .second, .val (.int v7), .unset, .unset, .unset, .unset, .unset, .unset, .unset, .unset, .unset, .unset, .unset, .unset, .unset, .unset, .unset, .unset, .unset, .unset, .unset, .unset] [])) := ⟨_, rfl, go14⟩
  obtain ⟨T1, h1, X1, e1, E1, A1, D1, -, st1⟩ := newO X0 hx hZ hown (hw _ (List.mem_of_getElem? (i := 4) rfl)) (hw _ (List.mem_of_getElem? (i := 5) rfl)) (hw _ (List.mem_of_getElem? (i := 6) rfl)) e0 (g := (mkF m 83 #[.val (.long q0), .second, .val (.long q1), .second, .val (.int p2), .val (.long q3), .second, .val (.int p4), .val (.long v1), .second, .val (.long v2), .second, .val (.long v3), .second, .val (.int v4), .val (.int v5), .val (.long v6), .second, .val (.int v7), .unset, .unset, .unset, .unset, .unset, .unset, .unset, .unset, .unset, .unset, .unset, .unset, .unset, .unset, .unset, .unset, .unset, .unset, .unset, .unset] [])) rfl (hb hby at_83) (by decide) (by decide)
  obtain ⟨b1, g1⟩ : ∃ z, z = h0.size := ⟨_, rfl⟩
  rw [← g1] at A1 D1 st1
  have ne_lt_b1 : lt ≠ b1 := Nat.ne_of_lt (Nat.lt_of_lt_of_le r3.lt (Nat.le_of_eq g1.symm))
  have ne_lf_b1 : lf ≠ b1 := Nat.ne_of_lt (Nat.lt_of_lt_of_le r4.lt (Nat.le_of_eq g1.symm))
  have g_b1 : n0 ≤ b1 := Nat.le_trans Z0 (Nat.le_of_eq g1.symm)
  have f1 : Old Z n0 h1 := r2.ext E1
  have f2 : Arv Z h1 lt kt .long (19 : Int32) tL (.long (0 : Int64)) := r3.ext E1
  have f3 : Arv Z h1 lf kf .long (19 : Int32) fL (.long (0 : Int64)) := r4.ext E1
  have Zp1 : n0 ≤ h1.size := Nat.le_trans Z0 E1.1
  have f4 : Exa Z h1 b1 "com/example/amortine/amortine/PeriodRate" := A1
  have f5 : FP Z h1 b1 "wholeDivisor" "J" (.long (0 : Int64)) := D1 (Or.inr (hw _ (List.mem_of_getElem? (i := 18) rfl))) (ty := .long) (by decide)
  have f6 : FP Z h1 b1 "rateDigits" "J" (.long (0 : Int64)) := D1 (Or.inr (hw _ (List.mem_of_getElem? (i := 20) rfl))) (ty := .long) (by decide)
  have f7 : FP Z h1 b1 "rateDecimals" "I" (.int (0 : Int32)) := D1 (Or.inr (hw _ (List.mem_of_getElem? (i := 22) rfl))) (ty := .int) (by decide)
  have f8 : FP Z h1 b1 "wholeTermsAsked" "Z" (.int (0 : Int32)) := D1 (Or.inl (hw _ (List.mem_of_getElem? (i := 24) rfl))) (ty := .boolean) (by decide)
  have f9 : FP Z h1 b1 "wholeTerms" "[J" .null := D1 (Or.inl (hw _ (List.mem_of_getElem? (i := 38) rfl))) (ty := (.array .long)) (by decide)
  have go16 : Go p e below A0 (T1.setTop (mkF m 93 #[.val (.long q0), .second, .val (.long q1), .second, .val (.int p2), .val (.long q3), .second, .val (.int p4), .val (.long v1), .second, .val (.long v2), .second, .val (.long v3), .second, .val (.int v4), .val (.int v5), .val (.long v6), .second, .val (.int v7), .unset, .unset, .unset, .unset, .unset, .unset, .unset, .unset, .unset, .unset, .unset, .unset, .unset, .unset, .unset, .unset, .unset, .unset, .unset, .unset] [(.int v5), (.int v4), (.long v3), (.ref b1), (.ref b1)])) := by
    intro t k
    refine go15 t ?_
    refine st1 _ ?_
    show Steps p.tables e below (T1.setTop (mkF m 86 #[.val (.long q0), .second, .val (.long q1), .second, .val (.int p2), .val (.long q3), .second, .val (.int p4), .val (.long v1), .second, .val (.long v2), .second, .val (.long v3), .second, .val (.int v4), .val (.int v5), .val (.long v6), .second, .val (.int v7), .unset, .unset, .unset, .unset, .unset, .unset, .unset, .unset, .unset, .unset, .unset, .unset, .unset, .unset, .unset, .unset, .unset, .unset, .unset, .unset] [(.ref b1)])) _
    refine o_dup X1 hx hby at_86 87 rfl rfl ?_
    refine o_lload X1 hx hby at_87 89 rfl rfl ?_
    refine o_iload X1 hx hby at_89 91 rfl rfl ?_
    refine o_iload X1 hx hby at_91 93 rfl rfl ?_
    exact k
  have f_pa2_2 : ¬ v4 < 0 ∧ v4 < 3 := pf0_pa2_1 q0 q1 p2 q3 p4 lt lf kt kf tL fL v1 v2 v3 v4 v5 v6 v7 hv1 hv2 hv3 hv4 hv5 hv6 hv7
  have f_hp_3 : 0 < v5.toInt ∧ v5.toInt ≤ 12 := pf0_hp_2 q0 q1 p2 q3 p4 lt lf kt kf tL fL v1 v2 v3 v4 v5 v6 v7 hv1 hv2 hv3 hv4 hv5 hv6 hv7
  have f_hd_4 : 0 < v3.toInt ∧ v3.toInt ≤ 4096 := pf0_hd_3 q0 q1 p2 q3 p4 lt lf kt kf tL fL v1 v2 v3 v4 v5 v6 v7 hv1 hv2 hv3 hv4 hv5 hv6 hv7
  obtain ⟨_, _, ⟨T2, L2, k2, n2⟩, -, X2, ⟨Lc2, hQ2, l2, y2, z2⟩, st2⟩ := X1.specialBack hx (y := (⟨"com/example/amortine/amortine/PeriodRate", "<init>", "(JII)V"⟩ : MethodName)) rfl hown (mvT hZ (hw _ (List.mem_of_getElem? (i := 7) rfl))) (mvT hZ (hw _ (List.mem_of_getElem? (i := 8) rfl))) (mvT hZ (hw _ (List.mem_of_getElem? (i := 9) rfl))) (by decide) (backOf (W := 1) (rm1 l Z aw hw [] b1 v3 v4 v5 lt lf kt kf tL fL h1 n0 Zp1 (f4) (g_b1) (f5) (f6) (f7) (f8) (f9) (r0) (r1) (f1) (f2) (f3) (hT) (hF) (ne_lt_b1) (ne_lf_b1) (f_pa2_2) (f_hp_3) (f_hd_4)) hZ (hw _ (List.mem_of_getElem? (i := 9) rfl)) (hw _ (List.mem_of_getElem? (i := 6) rfl)) (by decide) (by decide)) (g := (mkF m 93 #[.val (.long q0), .second, .val (.long q1), .second, .val (.int p2), .val (.long q3), .second, .val (.int p4), .val (.long v1), .second, .val (.long v2), .second, .val (.long v3), .second, .val (.int v4), .val (.int v5), .val (.long v6), .second, .val (.int v7), .unset, .unset, .unset, .unset, .unset, .unset, .unset, .unset, .unset, .unset, .unset, .unset, .unset, .unset, .unset, .unset, .unset, .unset, .unset, .unset] [(.int v5), (.int v4), (.long v3), (.ref b1), (.ref b1)])) rfl (by rw [hml]; rfl) (Steps.refl _) (a := b1) (argsL := [(.long v3), (.int v4), (.int v5)]) (rest := [(.ref b1)]) (lenOf pd_16 rfl) rfl (by show 2 * 0 + _ ≤ _; exact Nat.le_of_eq rfl) (hb hby at_93) (fun _ _ => ⟨rfl, e1, (by decide : 1 + 1 ≤ _), (by decide : 7 + 2 ≤ _)⟩)
  dsimp only [Pt.U, Pt.locs, Pt.cells, Pt.slots] at X2 l2 y2 z2 st2 hQ2
  obtain rfl : k2 = 2 := y2
  obtain rfl : n2 = 9 := z2
  obtain ⟨r2_kb, r2_dv, b2_b, rfl, N2q, K2q, sz_b2_bq, qf2_0, qf2_1, qf2_2, qf2_3, -⟩ := hQ2
  have ne_lt_b2_b : lt ≠ b2_b := Nat.ne_of_lt (Nat.lt_of_lt_of_le f2.lt sz_b2_bq)
  have ne_lf_b2_b : lf ≠ b2_b := Nat.ne_of_lt (Nat.lt_of_lt_of_le f3.lt sz_b2_bq)
  have ne_b1_b2_b : b1 ≠ b2_b := Nat.ne_of_lt (Nat.lt_of_lt_of_le f4.lt sz_b2_bq)
  have g_b2_b : n0 ≤ b2_b := Nat.le_trans Zp1 sz_b2_bq
  have f10 : Old Z n0 T2.heap := f1.keep K2q (allS g_b1 all0)
  have f11 : Arv Z T2.heap lt kt .long (19 : Int32) tL (.long (0 : Int64)) := f2.keep K2q (ninS ne_lt_b1 nin0)
  have f12 : Arv Z T2.heap lf kf .long (19 : Int32) fL (.long (0 : Int64)) := f3.keep K2q (ninS ne_lf_b1 nin0)
  have f13 : Exa Z T2.heap b1 "com/example/amortine/amortine/PeriodRate" := f4.keep K2q
  have Zp2 : n0 ≤ T2.heap.size := Nat.le_trans Zp1 K2q.1
  have f14 : FP Z T2.heap b1 "wholeTermsAsked" "Z" (.int (1 : Int32)) := qf2_0
  have f15 : FP Z T2.heap b1 "wholeTerms" "[J" (.ref b2_b) := qf2_1
  have f16 : Arv Z T2.heap b2_b r2_kb .long (2 : Int32) [(.long r2_dv), (.long v3)] (.long (0 : Int64)) := qf2_2
  have N2 : Fr n0 L2 := by rw [l2]; exact Fr.app N0 N2q
  obtain ⟨T3, h3, X3, e3, E3, A3, D3, -, st3⟩ := newO X2 hx hZ hown (hw _ (List.mem_of_getElem? (i := 39) rfl)) (hw _ (List.mem_of_getElem? (i := 40) rfl)) (hw _ (List.mem_of_getElem? (i := 41) rfl)) rfl (g := (mkF m 98 #[.val (.long q0), .second, .val (.long q1), .second, .val (.int p2), .val (.long q3), .second, .val (.int p4), .val (.long v1), .second, .val (.long v2), .second, .val (.long v3), .second, .val (.int v4), .val (.int v5), .val (.long v6), .second, .val (.int v7), .val (.ref b1), .unset, .unset, .unset, .unset, .unset, .unset, .unset, .unset, .unset, .unset, .unset, .unset, .unset, .unset, .unset, .unset, .unset, .unset, .unset] [])) rfl (hb hby at_98) (by decide) (by decide)
  obtain ⟨b3, g3⟩ : ∃ z, z = T2.heap.size := ⟨_, rfl⟩
  rw [← g3] at A3 D3 st3
  have ne_lt_b3 : lt ≠ b3 := Nat.ne_of_lt (Nat.lt_of_lt_of_le f11.lt (Nat.le_of_eq g3.symm))
  have ne_lf_b3 : lf ≠ b3 := Nat.ne_of_lt (Nat.lt_of_lt_of_le f12.lt (Nat.le_of_eq g3.symm))
  have ne_b1_b3 : b1 ≠ b3 := Nat.ne_of_lt (Nat.lt_of_lt_of_le f13.lt (Nat.le_of_eq g3.symm))
  have ne_b2_b_b3 : b2_b ≠ b3 := Nat.ne_of_lt (Nat.lt_of_lt_of_le f16.lt (Nat.le_of_eq g3.symm))
  have g_b3 : n0 ≤ b3 := Nat.le_trans Zp2 (Nat.le_of_eq g3.symm)
  have f17 : Old Z n0 h3 := f10.ext E3
  have f18 : Arv Z h3 lt kt .long (19 : Int32) tL (.long (0 : Int64)) := f11.ext E3
  have f19 : Arv Z h3 lf kf .long (19 : Int32) fL (.long (0 : Int64)) := f12.ext E3
  have f20 : Exa Z h3 b1 "com/example/amortine/amortine/PeriodRate" := f13.ext E3
  have f21 : FP Z h3 b1 "wholeTermsAsked" "Z" (.int (1 : Int32)) := f14.ext E3
  have f22 : FP Z h3 b1 "wholeTerms" "[J" (.ref b2_b) := f15.ext E3
  have f23 : Arv Z h3 b2_b r2_kb .long (2 : Int32) [(.long r2_dv), (.long v3)] (.long (0 : Int64)) := f16.ext E3
  have Zp3 : n0 ≤ h3.size := Nat.le_trans Zp2 E3.1
  have f24 : Exa Z h3 b3 "com/example/amortine/amortine/CentAmounts" := A3
  have f25 : FC Z h3 b3 "perYear" "I" (.int (0 : Int32)) := D3 (Or.inr (hw _ (List.mem_of_getElem? (i := 47) rfl))) (ty := .int) (by decide)
  have f26 : FC Z h3 b3 "balloon" "J" (.long (0 : Int64)) := D3 (Or.inr (hw _ (List.mem_of_getElem? (i := 49) rfl))) (ty := .long) (by decide)
  have f27 : FC Z h3 b3 "balloonScale" "I" (.int (0 : Int32)) := D3 (Or.inr (hw _ (List.mem_of_getElem? (i := 51) rfl))) (ty := .int) (by decide)
  have f28 : FC Z h3 b3 "closing" "J" (.long (0 : Int64)) := D3 (Or.inl (hw _ (List.mem_of_getElem? (i := 53) rfl))) (ty := .long) (by decide)
  have f29 : FC Z h3 b3 "closingScale" "I" (.int (0 : Int32)) := D3 (Or.inl (hw _ (List.mem_of_getElem? (i := 55) rfl))) (ty := .int) (by decide)
  have f30 : FC Z h3 b3 "rate" "Lcom/example/amortine/amortine/PeriodRate;" .null := D3 (Or.inl (hw _ (List.mem_of_getElem? (i := 61) rfl))) (ty := (.object "com/example/amortine/amortine/PeriodRate")) (by decide)
  have f31 : FC Z h3 b3 "perPeriodNumerator" "J" (.long (0 : Int64)) := D3 (Or.inl (hw _ (List.mem_of_getElem? (i := 76) rfl))) (ty := .long) (by decide)
  have f32 : FC Z h3 b3 "perPeriodDenominator" "J" (.long (0 : Int64)) := D3 (Or.inl (hw _ (List.mem_of_getElem? (i := 78) rfl))) (ty := .long) (by decide)
  have f33 : FC Z h3 b3 "reciprocal" "J" (.long (0 : Int64)) := D3 (Or.inl (hw _ (List.mem_of_getElem? (i := 86) rfl))) (ty := .long) (by decide)
  have f34 : FC Z h3 b3 "exactUpTo" "J" (.long (0 : Int64)) := D3 (Or.inl (hw _ (List.mem_of_getElem? (i := 89) rfl))) (ty := .long) (by decide)
  have f35 : FC Z h3 b3 "opening" "J" (.long (0 : Int64)) := D3 (Or.inl (hw _ (List.mem_of_getElem? (i := 96) rfl))) (ty := .long) (by decide)
  have f36 : FC Z h3 b3 "interest" "J" (.long (0 : Int64)) := D3 (Or.inl (hw _ (List.mem_of_getElem? (i := 98) rfl))) (ty := .long) (by decide)
  have f37 : FC Z h3 b3 "owedBefore" "J" (.long (0 : Int64)) := D3 (Or.inl (hw _ (List.mem_of_getElem? (i := 100) rfl))) (ty := .long) (by decide)
  have f38 : FC Z h3 b3 "openingScale" "I" (.int (0 : Int32)) := D3 (Or.inl (hw _ (List.mem_of_getElem? (i := 121) rfl))) (ty := .int) (by decide)
  have f39 : FC Z h3 b3 "payment" "J" (.long (0 : Int64)) := D3 (Or.inl (hw _ (List.mem_of_getElem? (i := 123) rfl))) (ty := .long) (by decide)
  have f40 : FC Z h3 b3 "paymentScale" "I" (.int (0 : Int32)) := D3 (Or.inl (hw _ (List.mem_of_getElem? (i := 125) rfl))) (ty := .int) (by decide)
  have f41 : FC Z h3 b3 "principal" "J" (.long (0 : Int64)) := D3 (Or.inl (hw _ (List.mem_of_getElem? (i := 127) rfl))) (ty := .long) (by decide)
  have f42 : FC Z h3 b3 "principalScale" "I" (.int (0 : Int32)) := D3 (Or.inl (hw _ (List.mem_of_getElem? (i := 129) rfl))) (ty := .int) (by decide)
  have f43 : FC Z h3 b3 "madePaid" "J" (.long (0 : Int64)) := D3 (Or.inl (hw _ (List.mem_of_getElem? (i := 131) rfl))) (ty := .long) (by decide)
  have f44 : FC Z h3 b3 "madeScale" "I" (.int (0 : Int32)) := D3 (Or.inl (hw _ (List.mem_of_getElem? (i := 133) rfl))) (ty := .int) (by decide)
  have f45 : FC Z h3 b3 "raised" "J" (.long (0 : Int64)) := D3 (Or.inl (hw _ (List.mem_of_getElem? (i := 135) rfl))) (ty := .long) (by decide)
  have f46 : FC Z h3 b3 "raisedScale" "I" (.int (0 : Int32)) := D3 (Or.inl (hw _ (List.mem_of_getElem? (i := 137) rfl))) (ty := .int) (by decide)
  have f47 : FC Z h3 b3 "settled" "Z" (.int (0 : Int32)) := D3 (Or.inl (hw _ (List.mem_of_getElem? (i := 139) rfl))) (ty := .boolean) (by decide)
  have f48 : FC Z h3 b3 "tallied" "J" (.long (0 : Int64)) := D3 (Or.inl (hw _ (List.mem_of_getElem? (i := 161) rfl))) (ty := .long) (by decide)
  have f49 : FC Z h3 b3 "talliedScale" "I" (.int (0 : Int32)) := D3 (Or.inl (hw _ (List.mem_of_getElem? (i := 163) rfl))) (ty := .int) (by decide)
  have f50 : FC Z h3 b3 "indexation" "J" (.long (0 : Int64)) := D3 (Or.inl (hw _ (List.mem_of_getElem? (i := 165) rfl))) (ty := .long) (by decide)
  have f51 : FC Z h3 b3 "indexationScale" "I" (.int (0 : Int32)) := D3 (Or.inl (hw _ (List.mem_of_getElem? (i := 167) rfl))) (ty := .int) (by decide)
  have go17 : Go p e below A0 (T3.setTop (mkF m 112 #[.val (.long q0), .second, .val (.long q1), .second, .val (.int p2), .val (.long q3), .second, .val (.int p4), .val (.long v1), .second, .val (.long v2), .second, .val (.long v3), .second, .val (.int v4), .val (.int v5), .val (.long v6), .second, .val (.int v7), .val (.ref b1), .unset, .unset, .unset, .unset, .unset, .unset, .unset, .unset, .unset, .unset, .unset, .unset, .unset, .unset, .unset, .unset, .unset, .unset, .unset] [(.ref b1), (.int v5), (.int (2 : Int32)), (.long v2), (.int (2 : Int32)), (.long v1), (.ref b3), (.ref b3)])) := by
    intro t k
    refine go16 t ?_
    refine st2.trans ?_
    show Steps p.tables e below (T2.setTop (mkF m 96 #[.val (.long q0), .second, .val (.long q1), .second, .val (.int p2), .val (.long q3), .second, .val (.int p4), .val (.long v1), .second, .val (.long v2), .second, .val (.long v3), .second, .val (.int v4), .val (.int v5), .val (.long v6), .second, .val (.int v7), .unset, .unset, .unset, .unset, .unset, .unset, .unset, .unset, .unset, .unset, .unset, .unset, .unset, .unset, .unset, .unset, .unset, .unset, .unset, .unset] [(.ref b1)])) _
    refine o_astore X2 hx hby at_96 98 rfl rfl (l' := #[.val (.long q0), .second, .val (.long q1), .second, .val (.int p2), .val (.long q3), .second, .val (.int p4), .val (.long v1), .second, .val (.long v2), .second, .val (.long v3), .second, .val (.int v4), .val (.int v5), .val (.long v6), .second, .val (.int v7), .val (.ref b1), .unset, .unset, .unset, .unset, .unset, .unset, .unset, .unset, .unset, .unset, .unset, .unset, .unset, .unset, .unset, .unset, .unset, .unset, .unset]) rfl ?_
    refine st3 _ ?_
    show Steps p.tables e below (T3.setTop (mkF m 101 #[.val (.long q0), .second, .val (.long q1), .second, .val (.int p2), .val (.long q3), .second, .val (.int p4), .val (.long v1), .second, .val (.long v2), .second, .val (.long v3), .second, .val (.int v4), .val (.int v5), .val (.long v6), .second, .val (.int v7), .val (.ref b1), .unset, .unset, .unset, .unset, .unset, .unset, .unset, .unset, .unset, .unset, .unset, .unset, .unset, .unset, .unset, .unset, .unset, .unset, .unset] [(.ref b3)])) _
    refine o_dup X3 hx hby at_101 102 rfl rfl ?_
    refine o_lload X3 hx hby at_102 104 rfl rfl ?_
    refine o_iconst X3 hx hby at_104 105 rfl (v := (2 : Int32)) rfl ?_
    refine o_lload X3 hx hby at_105 107 rfl rfl ?_
    refine o_iconst X3 hx hby at_107 108 rfl (v := (2 : Int32)) rfl ?_
    refine o_iload X3 hx hby at_108 110 rfl rfl ?_
    refine o_aload X3 hx hby at_110 112 rfl rfl rfl ?_
    exact k
  have f_hd_5 : 0 < v3.toInt ∧ v3.toInt ≤ 4096 := pf0_hd_4 q0 q1 p2 q3 p4 lt lf kt kf tL fL v1 v2 v3 v4 v5 v6 v7 r2_dv hv1 hv2 hv3 hv4 hv5 hv6 hv7 qf2_3
  obtain ⟨_, _, ⟨T4, L4, k4, n4⟩, -, X4, ⟨Lc4, hQ4, l4, y4, z4⟩, st4⟩ := X3.specialBack hx (y := (⟨"com/example/amortine/amortine/CentAmounts", "<init>", "(JIJIILcom/example/amortine/amortine/PeriodRate;)V"⟩ : MethodName)) rfl hown (mvT hZ (hw _ (List.mem_of_getElem? (i := 42) rfl))) (mvT hZ (hw _ (List.mem_of_getElem? (i := 43) rfl))) (mvT hZ (hw _ (List.mem_of_getElem? (i := 44) rfl))) (by decide) (backOf (W := 1) (rm6 l Z aw hw [] b3 v1 (2 : Int32) v2 (2 : Int32) v5 b1 b2_b r2_kb r2_dv v3 h3 n0 Zp3 (f24) (g_b3) (f25) (f26) (f27) (f28) (f29) (f30) (f31) (f32) (f33) (f34) (f35) (f36) (f37) (f38) (f39) (f40) (f41) (f42) (f43) (f44) (f45) (f46) (f47) (f48) (f49) (f50) (f51) (f20) (f21) (f22) (f23) (qf2_3) (f_hd_5) ((Ne.symm ne_b1_b3)) ((Ne.symm ne_b2_b_b3))) hZ (hw _ (List.mem_of_getElem? (i := 44) rfl)) (hw _ (List.mem_of_getElem? (i := 41) rfl)) (by decide) (by decide)) (g := (mkF m 112 #[.val (.long q0), .second, .val (.long q1), .second, .val (.int p2), .val (.long q3), .second, .val (.int p4), .val (.long v1), .second, .val (.long v2), .second, .val (.long v3), .second, .val (.int v4), .val (.int v5), .val (.long v6), .second, .val (.int v7), .val (.ref b1), .unset, .unset, .unset, .unset, .unset, .unset, .unset, .unset, .unset, .unset, .unset, .unset, .unset, .unset, .unset, .unset, .unset, .unset, .unset] [(.ref b1), (.int v5), (.int (2 : Int32)), (.long v2), (.int (2 : Int32)), (.long v1), (.ref b3), (.ref b3)])) rfl (by rw [hml]; rfl) (Steps.refl _) (a := b3) (argsL := [(.long v1), (.int (2 : Int32)), (.long v2), (.int (2 : Int32)), (.int v5), (.ref b1)]) (rest := [(.ref b3)]) (lenOf pd_17 rfl) rfl (by show 2 * 0 + _ ≤ _; exact Nat.le_of_eq rfl) (hb hby at_112) (fun _ _ => ⟨rfl, e3, (by decide : 3 + 1 ≤ _), (by decide : 38 + 2 ≤ _)⟩)
  dsimp only [Pt.U, Pt.locs, Pt.cells, Pt.slots] at X4 l4 y4 z4 st4 hQ4
  obtain rfl : k4 = 4 := y4
  obtain rfl : n4 = 40 := z4
  obtain ⟨r4_n, r4_d, rfl, N4q, K4q, qf4_0, qf4_1, qf4_2, qf4_3, qf4_4, qf4_5, qf4_6, qf4_7, qf4_8, qf4_9, qf4_10, qf4_11, qf4_12, qf4_13, qf4_14, qf4_15, qf4_16, qf4_17, qf4_18, qf4_19, qf4_20, qf4_21, qf4_22, qf4_23, qf4_24, qf4_25, qf4_26, -⟩ := hQ4
  have f52 : Old Z n0 T4.heap := f17.keep K4q (allS g_b3 all0)
  have f53 : Arv Z T4.heap lt kt .long (19 : Int32) tL (.long (0 : Int64)) := f18.keep K4q (ninS ne_lt_b3 nin0)
  have f54 : Arv Z T4.heap lf kf .long (19 : Int32) fL (.long (0 : Int64)) := f19.keep K4q (ninS ne_lf_b3 nin0)
  have f55 : Exa Z T4.heap b1 "com/example/amortine/amortine/PeriodRate" := f20.keep K4q
  have f56 : FP Z T4.heap b1 "wholeTermsAsked" "Z" (.int (1 : Int32)) := f21.keep K4q (ninS ne_b1_b3 nin0)
  have f57 : FP Z T4.heap b1 "wholeTerms" "[J" (.ref b2_b) := f22.keep K4q (ninS ne_b1_b3 nin0)
  have f58 : Arv Z T4.heap b2_b r2_kb .long (2 : Int32) [(.long r2_dv), (.long v3)] (.long (0 : Int64)) := f23.keep K4q (ninS ne_b2_b_b3 nin0)
  have f59 : Exa Z T4.heap b3 "com/example/amortine/amortine/CentAmounts" := f24.keep K4q
  have Zp4 : n0 ≤ T4.heap.size := Nat.le_trans Zp3 K4q.1
  have f60 : FC Z T4.heap b3 "perYear" "I" (.int v5) := qf4_0
  have f61 : FC Z T4.heap b3 "balloon" "J" (.long v2) := qf4_1
  have f62 : FC Z T4.heap b3 "balloonScale" "I" (.int (2 : Int32)) := qf4_2
  have f63 : FC Z T4.heap b3 "closing" "J" (.long v1) := qf4_3
  have f64 : FC Z T4.heap b3 "closingScale" "I" (.int (2 : Int32)) := qf4_4
  have f65 : FC Z T4.heap b3 "perPeriodNumerator" "J" (.long r4_n) := qf4_5
  have f66 : FC Z T4.heap b3 "perPeriodDenominator" "J" (.long r4_d) := qf4_6
  have f67 : FC Z T4.heap b3 "reciprocal" "J" (.long (Fdu (-1 : Int64) r4_d)) := qf4_7
  have f68 : FC Z T4.heap b3 "exactUpTo" "J" (.long ((9223372036854775807 : Int64) / r4_n)) := qf4_8
  have f69 : FC Z T4.heap b3 "opening" "J" (.long (0 : Int64)) := qf4_9
  have f70 : FC Z T4.heap b3 "interest" "J" (.long (0 : Int64)) := qf4_10
  have f71 : FC Z T4.heap b3 "owedBefore" "J" (.long (0 : Int64)) := qf4_11
  have f72 : FC Z T4.heap b3 "openingScale" "I" (.int (0 : Int32)) := qf4_12
  have f73 : FC Z T4.heap b3 "payment" "J" (.long (0 : Int64)) := qf4_13
  have f74 : FC Z T4.heap b3 "paymentScale" "I" (.int (0 : Int32)) := qf4_14
  have f75 : FC Z T4.heap b3 "principal" "J" (.long (0 : Int64)) := qf4_15
  have f76 : FC Z T4.heap b3 "principalScale" "I" (.int (0 : Int32)) := qf4_16
  have f77 : FC Z T4.heap b3 "madePaid" "J" (.long (0 : Int64)) := qf4_17
  have f78 : FC Z T4.heap b3 "madeScale" "I" (.int (0 : Int32)) := qf4_18
  have f79 : FC Z T4.heap b3 "raised" "J" (.long (0 : Int64)) := qf4_19
  have f80 : FC Z T4.heap b3 "raisedScale" "I" (.int (0 : Int32)) := qf4_20
  have f81 : FC Z T4.heap b3 "settled" "Z" (.int (0 : Int32)) := qf4_21
  have f82 : FC Z T4.heap b3 "tallied" "J" (.long (0 : Int64)) := qf4_22
  have f83 : FC Z T4.heap b3 "talliedScale" "I" (.int (0 : Int32)) := qf4_23
  have f84 : FC Z T4.heap b3 "indexation" "J" (.long (0 : Int64)) := qf4_24
  have f85 : FC Z T4.heap b3 "indexationScale" "I" (.int (0 : Int32)) := qf4_25
  have N4 : Fr n0 L4 := by rw [l4]; exact Fr.app N2 N4q
  have go18 : Go p e below A0 (T4.setTop (mkF m 124 #[.val (.long q0), .second, .val (.long q1), .second, .val (.int p2), .val (.long q3), .second, .val (.int p4), .val (.long v1), .second, .val (.long v2), .second, .val (.long v3), .second, .val (.int v4), .val (.int v5), .val (.long v6), .second, .val (.int v7), .val (.ref b1), .val (.ref b3), .unset, .unset, .unset, .unset, .unset, .unset, .unset, .unset, .unset, .unset, .unset, .unset, .unset, .unset, .unset, .unset, .unset, .unset] [(.int (0 : Int32)), (.int (1 : Int32)), (.int (2 : Int32)), (.long v6), (.ref b3)])) := by
    intro t k
    refine go17 t ?_
    refine st4.trans ?_
    show Steps p.tables e below (T4.setTop (mkF m 115 #[.val (.long q0), .second, .val (.long q1), .second, .val (.int p2), .val (.long q3), .second, .val (.int p4), .val (.long v1), .second, .val (.long v2), .second, .val (.long v3), .second, .val (.int v4), .val (.int v5), .val (.long v6), .second, .val (.int v7), .val (.ref b1), .unset, .unset, .unset, .unset, .unset, .unset, .unset, .unset, .unset, .unset, .unset, .unset, .unset, .unset, .unset, .unset, .unset, .unset, .unset] [(.ref b3)])) _
    refine o_astore X4 hx hby at_115 117 rfl rfl (l' := #[.val (.long q0), .second, .val (.long q1), .second, .val (.int p2), .val (.long q3), .second, .val (.int p4), .val (.long v1), .second, .val (.long v2), .second, .val (.long v3), .second, .val (.int v4), .val (.int v5), .val (.long v6), .second, .val (.int v7), .val (.ref b1), .val (.ref b3), .unset, .unset, .unset, .unset, .unset, .unset, .unset, .unset, .unset, .unset, .unset, .unset, .unset, .unset, .unset, .unset, .unset, .unset]) rfl ?_
    refine o_aload X4 hx hby at_117 119 rfl rfl rfl ?_
    refine o_lload X4 hx hby at_119 121 rfl rfl ?_
    refine o_iconst X4 hx hby at_121 122 rfl (v := (2 : Int32)) rfl ?_
    refine o_iconst X4 hx hby at_122 123 rfl (v := (1 : Int32)) rfl ?_
    refine o_iconst X4 hx hby at_123 124 rfl (v := (0 : Int32)) rfl ?_
    exact k
  have f_hA_6 : 120000 ≤ v1.toInt ∧ v1.toInt < 137438953472 := pf0_hA_5 q0 q1 p2 q3 p4 lt lf kt kf tL fL v1 v2 v3 v4 v5 v6 v7 r2_dv r4_n r4_d hv1 hv2 hv3 hv4 hv5 hv6 hv7 qf2_3 qf4_26
  have f_hB_7 : 0 ≤ v2.toInt ∧ v2.toInt < v1.toInt := pf0_hB_6 q0 q1 p2 q3 p4 lt lf kt kf tL fL v1 v2 v3 v4 v5 v6 v7 r2_dv r4_n r4_d hv1 hv2 hv3 hv4 hv5 hv6 hv7 qf2_3 qf4_26
  have f_hP_8 : 1 ≤ v1.toInt - v6.toInt - v2.toInt ∧ v1.toInt - v6.toInt - v2.toInt ≤ 4294967296 := pf0_hP_7 q0 q1 p2 q3 p4 lt lf kt kf tL fL v1 v2 v3 v4 v5 v6 v7 r2_dv r4_n r4_d hv1 hv2 hv3 hv4 hv5 hv6 hv7 qf2_3 qf4_26
  obtain ⟨cq5, kq5, q5a, q5b, q5c⟩ := isOf hZ rfl f59
  obtain ⟨_, _, ⟨T5, L5, k5, n5⟩, -, X5, ⟨Lc5, hQ5, l5, y5, z5⟩, st5⟩ := X4.virtualBack hx (y := (⟨"com/example/amortine/amortine/CentAmounts", "payInTurn", "(JIIZ)I"⟩ : MethodName)) (z := (⟨"com/example/amortine/amortine/CentAmounts", "payInTurn", "(JIIZ)I"⟩ : MethodName)) hown (mvT hZ (hw _ (List.mem_of_getElem? (i := 90) rfl))) (mvT hZ (hw _ (List.mem_of_getElem? (i := 91) rfl))) (notFace_of_selects (args := #[]) (mvT hZ (hw _ (List.mem_of_getElem? (i := 93) rfl)))) (mvT hZ (hw _ (List.mem_of_getElem? (i := 93) rfl))) (mvT hZ (hw _ (List.mem_of_getElem? (i := 92) rfl))) (by decide) (backOf (W := 0) (rm12 l Z aw hw [] b3 v6 v2 (2 : Int32) v1 (2 : Int32) r4_n r4_d ((Fdu (-1 : Int64) r4_d)) (((9223372036854775807 : Int64) / r4_n)) (0 : Int64) (0 : Int64) (0 : Int64) (0 : Int32) (0 : Int64) (0 : Int32) (0 : Int64) (0 : Int32) (0 : Int64) (0 : Int32) (0 : Int64) (0 : Int32) (0 : Int32) (0 : Int64) (0 : Int32) (0 : Int64) (0 : Int32) T4.heap n0 Zp4 (f59) (g_b3) (f61) (f62) (f63) (f64) (f65) (f66) (f67) (f68) (f69) (f70) (f71) (f72) (f73) (f74) (f75) (f76) (f77) (f78) (f79) (f80) (f81) (f82) (f83) (f84) (f85) (f_hA_6) (qf4_26) (rfl) (rfl) (f_hB_7) (f_hP_8) (rfl)) hZ (hw _ (List.mem_of_getElem? (i := 94) rfl)) (hw _ (List.mem_of_getElem? (i := 41) rfl)) (by decide) (by decide)) q5a q5c (g := (mkF m 124 #[.val (.long q0), .second, .val (.long q1), .second, .val (.int p2), .val (.long q3), .second, .val (.int p4), .val (.long v1), .second, .val (.long v2), .second, .val (.long v3), .second, .val (.int v4), .val (.int v5), .val (.long v6), .second, .val (.int v7), .val (.ref b1), .val (.ref b3), .unset, .unset, .unset, .unset, .unset, .unset, .unset, .unset, .unset, .unset, .unset, .unset, .unset, .unset, .unset, .unset, .unset, .unset] [(.int (0 : Int32)), (.int (1 : Int32)), (.int (2 : Int32)), (.long v6), (.ref b3)])) rfl (by rw [hml]; rfl) (Steps.refl _) (argsL := [(.long v6), (.int (2 : Int32)), (.int (1 : Int32)), (.int (0 : Int32))]) (rest := []) (lenOf pd_18 rfl) rfl (by show 2 * 0 + _ ≤ _; exact Nat.le_of_eq rfl) (hb hby at_124) (fun _ _ => ⟨rfl, rfl, (by decide : 4 + 0 ≤ _), (by decide : 40 + 0 ≤ _)⟩)
  dsimp only [Pt.U, Pt.locs, Pt.cells, Pt.slots] at X5 l5 y5 z5 st5 hQ5
  obtain rfl : k5 = 4 := y5
  obtain rfl : n5 = 40 := z5
  obtain ⟨r5_r, rfl, N5q, K5q, qf5_0, qf5_1, qf5_2, qf5_3, qf5_4, qf5_5, qf5_6, qf5_7, qf5_8, qf5_9, qf5_10, qf5_11, qf5_12, qf5_13, qf5_14, qf5_15, qf5_16, qf5_17, qf5_18, qf5_19, qf5_20, qf5_21, -⟩ := hQ5
  have f86 : Old Z n0 T5.heap := f52.keep K5q (allS g_b3 all0)
  have f87 : Arv Z T5.heap lt kt .long (19 : Int32) tL (.long (0 : Int64)) := f53.keep K5q (ninS ne_lt_b3 nin0)
  have f88 : Arv Z T5.heap lf kf .long (19 : Int32) fL (.long (0 : Int64)) := f54.keep K5q (ninS ne_lf_b3 nin0)
  have f89 : Exa Z T5.heap b1 "com/example/amortine/amortine/PeriodRate" := f55.keep K5q
  have f90 : FP Z T5.heap b1 "wholeTermsAsked" "Z" (.int (1 : Int32)) := f56.keep K5q (ninS ne_b1_b3 nin0)
  have f91 : FP Z T5.heap b1 "wholeTerms" "[J" (.ref b2_b) := f57.keep K5q (ninS ne_b1_b3 nin0)
  have f92 : Arv Z T5.heap b2_b r2_kb .long (2 : Int32) [(.long r2_dv), (.long v3)] (.long (0 : Int64)) := f58.keep K5q (ninS ne_b2_b_b3 nin0)
  have f93 : Exa Z T5.heap b3 "com/example/amortine/amortine/CentAmounts" := f59.keep K5q
  have Zp5 : n0 ≤ T5.heap.size := Nat.le_trans Zp4 K5q.1
  have f94 : FC Z T5.heap b3 "balloon" "J" (.long v2) := qf5_0
  have f95 : FC Z T5.heap b3 "balloonScale" "I" (.int (2 : Int32)) := qf5_1
  have f96 : FC Z T5.heap b3 "closing" "J" (.long (v1 - (v6 - r5_r))) := qf5_2
  have f97 : FC Z T5.heap b3 "closingScale" "I" (.int (Fmax (2 : Int32) (Fmax (2 : Int32) (2 : Int32)))) := qf5_3
  have f98 : FC Z T5.heap b3 "opening" "J" (.long v1) := qf5_4
  have f99 : FC Z T5.heap b3 "interest" "J" (.long r5_r) := qf5_5
  have f100 : FC Z T5.heap b3 "owedBefore" "J" (.long (0 : Int64)) := qf5_6
  have f101 : FC Z T5.heap b3 "openingScale" "I" (.int (2 : Int32)) := qf5_7
  have f102 : FC Z T5.heap b3 "payment" "J" (.long v6) := qf5_8
  have f103 : FC Z T5.heap b3 "paymentScale" "I" (.int (2 : Int32)) := qf5_9
  have f104 : FC Z T5.heap b3 "principal" "J" (.long (v6 - r5_r)) := qf5_10
  have f105 : FC Z T5.heap b3 "principalScale" "I" (.int (Fmax (2 : Int32) (2 : Int32))) := qf5_11
  have f106 : FC Z T5.heap b3 "madePaid" "J" (.long (v6 * ((1 : Int32).toInt64))) := qf5_12
  have f107 : FC Z T5.heap b3 "madeScale" "I" (.int (2 : Int32)) := qf5_13
  have f108 : FC Z T5.heap b3 "raised" "J" (.long (0 : Int64)) := qf5_14
  have f109 : FC Z T5.heap b3 "raisedScale" "I" (.int (0 : Int32)) := qf5_15
  have f110 : FC Z T5.heap b3 "settled" "Z" (.int (0 : Int32)) := qf5_16
  have f111 : FC Z T5.heap b3 "tallied" "J" (.long (0 : Int64)) := qf5_17
  have f112 : FC Z T5.heap b3 "talliedScale" "I" (.int (0 : Int32)) := qf5_18
  have f113 : FC Z T5.heap b3 "indexation" "J" (.long (0 : Int64)) := qf5_19
  have f114 : FC Z T5.heap b3 "indexationScale" "I" (.int (0 : Int32)) := qf5_20
  have N5 : Fr n0 L5 := by rw [l5]; exact Fr.app N4 N5q
  have go19 : Go p e below A0 (T5.setTop (mkF m 127 #[.val (.long q0), .second, .val (.long q1), .second, .val (.int p2), .val (.long q3), .second, .val (.int p4), .val (.long v1), .second, .val (.long v2), .second, .val (.long v3), .second, .val (.int v4), .val (.int v5), .val (.long v6), .second, .val (.int v7), .val (.ref b1), .val (.ref b3), .unset, .unset, .unset, .unset, .unset, .unset, .unset, .unset, .unset, .unset, .unset, .unset, .unset, .unset, .unset, .unset, .unset, .unset] [(.int (1 : Int32))])) := by
    intro t k
    refine go18 t ?_
    refine st5.trans ?_
    show Steps p.tables e below (T5.setTop (mkF m 127 #[.val (.long q0), .second, .val (.long q1), .second, .val (.int p2), .val (.long q3), .second, .val (.int p4), .val (.long v1), .second, .val (.long v2), .second, .val (.long v3), .second, .val (.int v4), .val (.int v5), .val (.long v6), .second, .val (.int v7), .val (.ref b1), .val (.ref b3), .unset, .unset, .unset, .unset, .unset, .unset, .unset, .unset, .unset, .unset, .unset, .unset, .unset, .unset, .unset, .unset, .unset, .unset] [(.int (1 : Int32))])) _
    exact k
  have go20 : Go p e below A0 (T5.setTop (mkF m 129 #[.val (.long q0), .second, .val (.long q1), .second, .val (.int p2), .val (.long q3), .second, .val (.int p4), .val (.long v1), .second, .val (.long v2), .second, .val (.long v3), .second, .val (.int v4), .val (.int v5), .val (.long v6), .second, .val (.int v7), .val (.ref b1), .val (.ref b3), .val (.int (1 : Int32)), .unset, .unset, .unset, .unset, .unset, .unset, .unset, .unset, .unset, .unset, .unset, .unset, .unset, .unset, .unset, .unset, .unset] [])) := by
    intro t k
    refine go19 t ?_
    refine o_istore X5 hx hby at_127 129 rfl (l' := #[.val (.long q0), .second, .val (.long q1), .second, .val (.int p2), .val (.long q3), .second, .val (.int p4), .val (.long v1), .second, .val (.long v2), .second, .val (.long v3), .second, .val (.int v4), .val (.int v5), .val (.long v6), .second, .val (.int v7), .val (.ref b1), .val (.ref b3), .val (.int (1 : Int32)), .unset, .unset, .unset, .unset, .unset, .unset, .unset, .unset, .unset, .unset, .unset, .unset, .unset, .unset, .unset, .unset, .unset]) rfl ?_
    exact k
  obtain ⟨cq6, kq6, q6a, q6b, q6c⟩ := isOf hZ rfl f93
  obtain ⟨_, _, ⟨T6, L6, k6, n6⟩, -, X6, ⟨Lc6, hQ6, l6, y6, z6⟩, st6⟩ := X5.virtualBack hx (y := (⟨"com/example/amortine/amortine/CentAmounts", "closingCents", "()J"⟩ : MethodName)) (z := (⟨"com/example/amortine/amortine/CentAmounts", "closingCents", "()J"⟩ : MethodName)) hown (mvT hZ (hw _ (List.mem_of_getElem? (i := 140) rfl))) (mvT hZ (hw _ (List.mem_of_getElem? (i := 141) rfl))) (notFace_of_selects (args := #[]) (mvT hZ (hw _ (List.mem_of_getElem? (i := 143) rfl)))) (mvT hZ (hw _ (List.mem_of_getElem? (i := 143) rfl))) (mvT hZ (hw _ (List.mem_of_getElem? (i := 142) rfl))) (by decide) (backOf (W := 0) (rm18 l Z aw hw [] b3 ((v1 - (v6 - r5_r))) T5.heap n0 Zp5 (f93) (f96)) hZ (hw _ (List.mem_of_getElem? (i := 144) rfl)) (hw _ (List.mem_of_getElem? (i := 41) rfl)) (by decide) (by decide)) q6a q6c (g := (mkF m 131 #[.val (.long q0), .second, .val (.long q1), .second, .val (.int p2), .val (.long q3), .second, .val (.int p4), .val (.long v1), .second, .val (.long v2), .second, .val (.long v3), .second, .val (.int v4), .val (.int v5), .val (.long v6), .second, .val (.int v7), .val (.ref b1), .val (.ref b3), .val (.int (1 : Int32)), .unset, .unset, .unset, .unset, .unset, .unset, .unset, .unset, .unset, .unset, .unset, .unset, .unset, .unset, .unset, .unset, .unset] [(.ref b3)])) rfl (by rw [hml]; rfl) (Steps.refl _) (argsL := []) (rest := []) (lenOf pd_19 rfl) rfl (by show 2 * 0 + _ ≤ _; exact Nat.le_of_eq rfl) (hb hby at_131) (fun _ _ => ⟨rfl, rfl, (by decide : 4 + 0 ≤ _), (by decide : 40 + 0 ≤ _)⟩)
  dsimp only [Pt.U, Pt.locs, Pt.cells, Pt.slots] at X6 l6 y6 z6 st6 hQ6
  obtain rfl : k6 = 4 := y6
  obtain rfl : n6 = 40 := z6
  obtain ⟨rfl, N6q, e6⟩ := hQ6
  have N6 : Fr n0 L6 := by rw [l6]; exact Fr.app N5 N6q
  have go21 : Go p e below A0 (T6.setTop (mkF m 134 #[.val (.long q0), .second, .val (.long q1), .second, .val (.int p2), .val (.long q3), .second, .val (.int p4), .val (.long v1), .second, .val (.long v2), .second, .val (.long v3), .second, .val (.int v4), .val (.int v5), .val (.long v6), .second, .val (.int v7), .val (.ref b1), .val (.ref b3), .val (.int (1 : Int32)), .unset, .unset, .unset, .unset, .unset, .unset, .unset, .unset, .unset, .unset, .unset, .unset, .unset, .unset, .unset, .unset, .unset] [(.long (v1 - (v6 - r5_r)))])) := by
    intro t k
    refine go20 t ?_
    refine o_aload X5 hx hby at_129 131 rfl rfl rfl ?_
    refine st6.trans ?_
    show Steps p.tables e below (T6.setTop (mkF m 134 #[.val (.long q0), .second, .val (.long q1), .second, .val (.int p2), .val (.long q3), .second, .val (.int p4), .val (.long v1), .second, .val (.long v2), .second, .val (.long v3), .second, .val (.int v4), .val (.int v5), .val (.long v6), .second, .val (.int v7), .val (.ref b1), .val (.ref b3), .val (.int (1 : Int32)), .unset, .unset, .unset, .unset, .unset, .unset, .unset, .unset, .unset, .unset, .unset, .unset, .unset, .unset, .unset, .unset, .unset] [(.long (v1 - (v6 - r5_r)))])) _
    exact k
  obtain ⟨v8, hv8, go22⟩ : ∃ v8 : Int64, v8 = (v1 - (v6 - r5_r)) ∧ Go p e below A0 (T6.setTop (mkF m 134 #[.val (.long q0), .second, .val (.long q1), .second, .val (.int p2), .val (.long q3), .second, .val (.int p4), .val (.long v1), .second, .val (.long v2), .second, .val (.long v3), .second, .val (.int v4), .val (.int v5), .val (.long v6), .second, .val (.int v7), .val (.ref b1), .val (.ref b3), .val (.int (1 : Int32)), .unset, .unset, .unset, .unset, .unset, .unset, .unset, .unset, .unset, .unset, .unset, .unset, .unset, .unset, .unset, .unset, .unset] [(.long v8)])) := ⟨_, rfl, go21⟩
  have go23 : Go p e below A0 (T6.setTop (mkF m 136 #[.val (.long q0), .second, .val (.long q1), .second, .val (.int p2), .val (.long q3), .second, .val (.int p4), .val (.long v1), .second, .val (.long v2), .second, .val (.long v3), .second, .val (.int v4), .val (.int v5), .val (.long v6), .second, .val (.int v7), .val (.ref b1), .val (.ref b3), .val (.int (1 : Int32)), .val (.long v8), .second, .unset, .unset, .unset, .unset, .unset, .unset, .unset, .unset, .unset, .unset, .unset, .unset, .unset, .unset, .unset] [])) := by
    intro t k
    refine go22 t ?_
    refine o_lstore X6 hx hby at_134 136 rfl (l' := #[.val (.long q0), .second, .val (.long q1), .second, .val (.int p2), .val (.long q3), .second, .val (.int p4), .val (.long v1), .second, .val (.long v2), .second, .val (.long v3), .second, .val (.int v4), .val (.int v5), .val (.long v6), .second, .val (.int v7), .val (.ref b1), .val (.ref b3), .val (.int (1 : Int32)), .val (.long v8), .second, .unset, .unset, .unset, .unset, .unset, .unset, .unset, .unset, .unset, .unset, .unset, .unset, .unset, .unset, .unset]) rfl ?_
    exact k
  have go24 : Go p e below A0 (T6.setTop (mkF m 143 #[.val (.long q0), .second, .val (.long q1), .second, .val (.int p2), .val (.long q3), .second, .val (.int p4), .val (.long v1), .second, .val (.long v2), .second, .val (.long v3), .second, .val (.int v4), .val (.int v5), .val (.long v6), .second, .val (.int v7), .val (.ref b1), .val (.ref b3), .val (.int (1 : Int32)), .val (.long v8), .second, .val (.long (v1 - v8)), .second, .unset, .unset, .unset, .unset, .unset, .unset, .unset, .unset, .unset, .unset, .unset, .unset, .unset] [])) := by
    intro t k
    refine go23 t ?_
    refine o_lload X6 hx hby at_136 138 rfl rfl ?_
    refine o_lload X6 hx hby at_138 140 rfl rfl ?_
    refine o_lsub X6 hx hby at_140 141 rfl ?_
    refine o_lstore X6 hx hby at_141 143 rfl (l' := #[.val (.long q0), .second, .val (.long q1), .second, .val (.int p2), .val (.long q3), .second, .val (.int p4), .val (.long v1), .second, .val (.long v2), .second, .val (.long v3), .second, .val (.int v4), .val (.int v5), .val (.long v6), .second, .val (.int v7), .val (.ref b1), .val (.ref b3), .val (.int (1 : Int32)), .val (.long v8), .second, .val (.long (v1 - v8)), .second, .unset, .unset, .unset, .unset, .unset, .unset, .unset, .unset, .unset, .unset, .unset, .unset, .unset]) rfl ?_
    exact k
  obtain ⟨v9, hv9, go25⟩ : ∃ v9 : Int64, v9 = (v1 - v8) ∧ Go p e below A0 (T6.setTop (mkF m 143 #[.val (.long q0), .second, .val (.long q1), .second, .val (.int p2), .val (.long q3), .second, .val (.int p4), .val (.long v1), .second, .val (.long v2), .second, .val (.long v3), .second, .val (.int v4), .val (.int v5), .val (.long v6), .second, .val (.int v7), .val (.ref b1), .val (.ref b3), .val (.int (1 : Int32)), .val (.long v8), .second, .val (.long v9), .second, .unset, .unset, .unset, .unset, .unset, .unset, .unset, .unset, .unset, .unset, .unset, .unset, .unset] [])) := ⟨_, rfl, go24⟩
  have go26 : Go p e below A0 (T6.setTop (mkF m 150 #[.val (.long q0), .second, .val (.long q1), .second, .val (.int p2), .val (.long q3), .second, .val (.int p4), .val (.long v1), .second, .val (.long v2), .second, .val (.long v3), .second, .val (.int v4), .val (.int v5), .val (.long v6), .second, .val (.int v7), .val (.ref b1), .val (.ref b3), .val (.int (1 : Int32)), .val (.long v8), .second, .val (.long v9), .second, .val (.long (v6 - v9)), .second, .unset, .unset, .unset, .unset, .unset, .unset, .unset, .unset, .unset, .unset, .unset] [])) := by
    intro t k
    refine go25 t ?_
    refine o_lload X6 hx hby at_143 145 rfl rfl ?_
    refine o_lload X6 hx hby at_145 147 rfl rfl ?_
    refine o_lsub X6 hx hby at_147 148 rfl ?_
    refine o_lstore X6 hx hby at_148 150 rfl (l' := #[.val (.long q0), .second, .val (.long q1), .second, .val (.int p2), .val (.long q3), .second, .val (.int p4), .val (.long v1), .second, .val (.long v2), .second, .val (.long v3), .second, .val (.int v4), .val (.int v5), .val (.long v6), .second, .val (.int v7), .val (.ref b1), .val (.ref b3), .val (.int (1 : Int32)), .val (.long v8), .second, .val (.long v9), .second, .val (.long (v6 - v9)), .second, .unset, .unset, .unset, .unset, .unset, .unset, .unset, .unset, .unset, .unset, .unset]) rfl ?_
    exact k
  obtain ⟨v10, hv10, go27⟩ : ∃ v10 : Int64, v10 = (v6 - v9) ∧ Go p e below A0 (T6.setTop (mkF m 150 #[.val (.long q0), .second, .val (.long q1), .second, .val (.int p2), .val (.long q3), .second, .val (.int p4), .val (.long v1), .second, .val (.long v2), .second, .val (.long v3), .second, .val (.int v4), .val (.int v5), .val (.long v6), .second, .val (.int v7), .val (.ref b1), .val (.ref b3), .val (.int (1 : Int32)), .val (.long v8), .second, .val (.long v9), .second, .val (.long v10), .second, .unset, .unset, .unset, .unset, .unset, .unset, .unset, .unset, .unset, .unset, .unset] [])) := ⟨_, rfl, go26⟩
  have go28 : Go p e below A0 (T6.setTop (mkF m 154 #[.val (.long q0), .second, .val (.long q1), .second, .val (.int p2), .val (.long q3), .second, .val (.int p4), .val (.long v1), .second, .val (.long v2), .second, .val (.long v3), .second, .val (.int v4), .val (.int v5), .val (.long v6), .second, .val (.int v7), .val (.ref b1), .val (.ref b3), .val (.int (1 : Int32)), .val (.long v8), .second, .val (.long v9), .second, .val (.long v10), .second, .unset, .unset, .unset, .unset, .unset, .unset, .unset, .unset, .unset, .unset, .unset] [(.int v7), (.ref b3)])) := by
    intro t k
    refine go27 t ?_
    refine o_aload X6 hx hby at_150 152 rfl rfl rfl ?_
    refine o_iload X6 hx hby at_152 154 rfl rfl ?_
    exact k
  obtain ⟨cq7, kq7, q7a, q7b, q7c⟩ := isOf hZ e6 f93
  obtain ⟨_, _, ⟨T7, L7, k7, n7⟩, -, X7, ⟨Lc7, hQ7, l7, y7, z7⟩, st7⟩ := X6.virtualBack hx (y := (⟨"com/example/amortine/amortine/CentAmounts", "repeat", "(I)V"⟩ : MethodName)) (z := (⟨"com/example/amortine/amortine/CentAmounts", "repeat", "(I)V"⟩ : MethodName)) hown (mvT hZ (hw _ (List.mem_of_getElem? (i := 145) rfl))) (mvT hZ (hw _ (List.mem_of_getElem? (i := 146) rfl))) (notFace_of_selects (args := #[]) (mvT hZ (hw _ (List.mem_of_getElem? (i := 148) rfl)))) (mvT hZ (hw _ (List.mem_of_getElem? (i := 148) rfl))) (mvT hZ (hw _ (List.mem_of_getElem? (i := 147) rfl))) (by decide) (backOf (W := 0) (rm19 l Z aw hw [] b3 v7 v2 (2 : Int32) ((v1 - (v6 - r5_r))) ((Fmax (2 : Int32) (Fmax (2 : Int32) (2 : Int32)))) v1 r5_r (0 : Int64) (2 : Int32) v6 (2 : Int32) ((v6 - r5_r)) ((Fmax (2 : Int32) (2 : Int32))) ((v6 * ((1 : Int32).toInt64))) (2 : Int32) (0 : Int64) (0 : Int32) (0 : Int32) (0 : Int64) (0 : Int32) (0 : Int64) (0 : Int32) T5.heap n0 Zp5 (f93) (g_b3) (f94) (f95) (f96) (f97) (f98) (f99) (f100) (f101) (f102) (f103) (f104) (f105) (f106) (f107) (f108) (f109) (f110) (f111) (f112) (f113) (f114)) hZ (hw _ (List.mem_of_getElem? (i := 149) rfl)) (hw _ (List.mem_of_getElem? (i := 41) rfl)) (by decide) (by decide)) q7a q7c (g := (mkF m 154 #[.val (.long q0), .second, .val (.long q1), .second, .val (.int p2), .val (.long q3), .second, .val (.int p4), .val (.long v1), .second, .val (.long v2), .second, .val (.long v3), .second, .val (.int v4), .val (.int v5), .val (.long v6), .second, .val (.int v7), .val (.ref b1), .val (.ref b3), .val (.int (1 : Int32)), .val (.long v8), .second, .val (.long v9), .second, .val (.long v10), .second, .unset, .unset, .unset, .unset, .unset, .unset, .unset, .unset, .unset, .unset, .unset] [(.int v7), (.ref b3)])) rfl (by rw [hml]; rfl) (Steps.refl _) (argsL := [(.int v7)]) (rest := []) (lenOf pd_20 rfl) rfl (by show 2 * 0 + _ ≤ _; exact Nat.le_of_eq rfl) (hb hby at_154) (fun _ _ => ⟨rfl, e6, (by decide : 4 + 0 ≤ _), (by decide : 40 + 0 ≤ _)⟩)
  dsimp only [Pt.U, Pt.locs, Pt.cells, Pt.slots] at X7 l7 y7 z7 st7 hQ7
  obtain rfl : k7 = 4 := y7
  obtain rfl : n7 = 40 := z7
  obtain ⟨rfl, N7q, K7q, qf7_0, qf7_1, qf7_2, qf7_3, qf7_4, qf7_5, qf7_6, qf7_7, qf7_8, qf7_9, qf7_10, qf7_11, qf7_12, qf7_13, qf7_14, qf7_15, qf7_16, qf7_17, qf7_18, qf7_19, qf7_20, -⟩ := hQ7
  have f115 : Old Z n0 T7.heap := f86.keep K7q (allS g_b3 all0)
  have f116 : Arv Z T7.heap lt kt .long (19 : Int32) tL (.long (0 : Int64)) := f87.keep K7q (ninS ne_lt_b3 nin0)
  have f117 : Arv Z T7.heap lf kf .long (19 : Int32) fL (.long (0 : Int64)) := f88.keep K7q (ninS ne_lf_b3 nin0)
  have f118 : Exa Z T7.heap b1 "com/example/amortine/amortine/PeriodRate" := f89.keep K7q
  have f119 : FP Z T7.heap b1 "wholeTermsAsked" "Z" (.int (1 : Int32)) := f90.keep K7q (ninS ne_b1_b3 nin0)
  have f120 : FP Z T7.heap b1 "wholeTerms" "[J" (.ref b2_b) := f91.keep K7q (ninS ne_b1_b3 nin0)
  have f121 : Arv Z T7.heap b2_b r2_kb .long (2 : Int32) [(.long r2_dv), (.long v3)] (.long (0 : Int64)) := f92.keep K7q (ninS ne_b2_b_b3 nin0)
  have f122 : Exa Z T7.heap b3 "com/example/amortine/amortine/CentAmounts" := f93.keep K7q
  have Zp7 : n0 ≤ T7.heap.size := Nat.le_trans Zp5 K7q.1
  have f123 : FC Z T7.heap b3 "balloon" "J" (.long v2) := qf7_0
  have f124 : FC Z T7.heap b3 "balloonScale" "I" (.int (2 : Int32)) := qf7_1
  have f125 : FC Z T7.heap b3 "closing" "J" (.long (((v1 - (v6 - r5_r)) - ((v6 - r5_r) * ((v7.toInt64) - (1 : Int64)))) - (v6 - r5_r))) := qf7_2
  have f126 : FC Z T7.heap b3 "closingScale" "I" (.int (Fmax (2 : Int32) (Fmax (2 : Int32) (2 : Int32)))) := qf7_3
  have f127 : FC Z T7.heap b3 "opening" "J" (.long ((v1 - (v6 - r5_r)) - ((v6 - r5_r) * ((v7.toInt64) - (1 : Int64))))) := qf7_4
  have f128 : FC Z T7.heap b3 "interest" "J" (.long r5_r) := qf7_5
  have f129 : FC Z T7.heap b3 "owedBefore" "J" (.long r5_r) := qf7_6
  have f130 : FC Z T7.heap b3 "openingScale" "I" (.int (Fmax (2 : Int32) (Fmax (2 : Int32) (2 : Int32)))) := qf7_7
  have f131 : FC Z T7.heap b3 "payment" "J" (.long v6) := qf7_8
  have f132 : FC Z T7.heap b3 "paymentScale" "I" (.int (2 : Int32)) := qf7_9
  have f133 : FC Z T7.heap b3 "principal" "J" (.long (v6 - r5_r)) := qf7_10
  have f134 : FC Z T7.heap b3 "principalScale" "I" (.int (Fmax (2 : Int32) (2 : Int32))) := qf7_11
  have f135 : FC Z T7.heap b3 "madePaid" "J" (.long ((v6 * ((1 : Int32).toInt64)) + (v6 * (v7.toInt64)))) := qf7_12
  have f136 : FC Z T7.heap b3 "madeScale" "I" (.int (2 : Int32)) := qf7_13
  have f137 : FC Z T7.heap b3 "raised" "J" (.long (0 : Int64)) := qf7_14
  have f138 : FC Z T7.heap b3 "raisedScale" "I" (.int (0 : Int32)) := qf7_15
  have f139 : FC Z T7.heap b3 "settled" "Z" (.int (0 : Int32)) := qf7_16
  have f140 : FC Z T7.heap b3 "tallied" "J" (.long (0 : Int64)) := qf7_17
  have f141 : FC Z T7.heap b3 "talliedScale" "I" (.int (0 : Int32)) := qf7_18
  have f142 : FC Z T7.heap b3 "indexation" "J" (.long (0 : Int64)) := qf7_19
  have f143 : FC Z T7.heap b3 "indexationScale" "I" (.int (0 : Int32)) := qf7_20
  have N7 : Fr n0 L7 := by rw [l7]; exact Fr.app N6 N7q
  obtain ⟨cq8, kq8, q8a, q8b, q8c⟩ := isOf hZ rfl f122
  obtain ⟨_, _, ⟨T8, L8, k8, n8⟩, -, X8, ⟨Lc8, hQ8, l8, y8, z8⟩, st8⟩ := X7.virtualBack hx (y := (⟨"com/example/amortine/amortine/CentAmounts", "closingCents", "()J"⟩ : MethodName)) (z := (⟨"com/example/amortine/amortine/CentAmounts", "closingCents", "()J"⟩ : MethodName)) hown (mvT hZ (hw _ (List.mem_of_getElem? (i := 140) rfl))) (mvT hZ (hw _ (List.mem_of_getElem? (i := 141) rfl))) (notFace_of_selects (args := #[]) (mvT hZ (hw _ (List.mem_of_getElem? (i := 143) rfl)))) (mvT hZ (hw _ (List.mem_of_getElem? (i := 143) rfl))) (mvT hZ (hw _ (List.mem_of_getElem? (i := 142) rfl))) (by decide) (backOf (W := 0) (rm18 l Z aw hw [] b3 ((((v1 - (v6 - r5_r)) - ((v6 - r5_r) * ((v7.toInt64) - (1 : Int64)))) - (v6 - r5_r))) T7.heap n0 Zp7 (f122) (f125)) hZ (hw _ (List.mem_of_getElem? (i := 144) rfl)) (hw _ (List.mem_of_getElem? (i := 41) rfl)) (by decide) (by decide)) q8a q8c (g := (mkF m 159 #[.val (.long q0), .second, .val (.long q1), .second, .val (.int p2), .val (.long q3), .second, .val (.int p4), .val (.long v1), .second, .val (.long v2), .second, .val (.long v3), .second, .val (.int v4), .val (.int v5), .val (.long v6), .second, .val (.int v7), .val (.ref b1), .val (.ref b3), .val (.int (1 : Int32)), .val (.long v8), .second, .val (.long v9), .second, .val (.long v10), .second, .unset, .unset, .unset, .unset, .unset, .unset, .unset, .unset, .unset, .unset, .unset] [(.ref b3)])) rfl (by rw [hml]; rfl) (Steps.refl _) (argsL := []) (rest := []) (lenOf pd_19 rfl) rfl (by show 2 * 0 + _ ≤ _; exact Nat.le_of_eq rfl) (hb hby at_159) (fun _ _ => ⟨rfl, rfl, (by decide : 4 + 0 ≤ _), (by decide : 40 + 0 ≤ _)⟩)
  dsimp only [Pt.U, Pt.locs, Pt.cells, Pt.slots] at X8 l8 y8 z8 st8 hQ8
  obtain rfl : k8 = 4 := y8
  obtain rfl : n8 = 40 := z8
  obtain ⟨rfl, N8q, e8⟩ := hQ8
  have N8 : Fr n0 L8 := by rw [l8]; exact Fr.app N7 N8q
  have go29 : Go p e below A0 (T8.setTop (mkF m 162 #[.val (.long q0), .second, .val (.long q1), .second, .val (.int p2), .val (.long q3), .second, .val (.int p4), .val (.long v1), .second, .val (.long v2), .second, .val (.long v3), .second, .val (.int v4), .val (.int v5), .val (.long v6), .second, .val (.int v7), .val (.ref b1), .val (.ref b3), .val (.int (1 : Int32)), .val (.long v8), .second, .val (.long v9), .second, .val (.long v10), .second, .unset, .unset, .unset, .unset, .unset, .unset, .unset, .unset, .unset, .unset, .unset] [(.long (((v1 - (v6 - r5_r)) - ((v6 - r5_r) * ((v7.toInt64) - (1 : Int64)))) - (v6 - r5_r)))])) := by
    intro t k
    refine go28 t ?_
    refine st7.trans ?_
    show Steps p.tables e below (T7.setTop (mkF m 157 #[.val (.long q0), .second, .val (.long q1), .second, .val (.int p2), .val (.long q3), .second, .val (.int p4), .val (.long v1), .second, .val (.long v2), .second, .val (.long v3), .second, .val (.int v4), .val (.int v5), .val (.long v6), .second, .val (.int v7), .val (.ref b1), .val (.ref b3), .val (.int (1 : Int32)), .val (.long v8), .second, .val (.long v9), .second, .val (.long v10), .second, .unset, .unset, .unset, .unset, .unset, .unset, .unset, .unset, .unset, .unset, .unset] [])) _
    refine o_aload X7 hx hby at_157 159 rfl rfl rfl ?_
    refine st8.trans ?_
    show Steps p.tables e below (T8.setTop (mkF m 162 #[.val (.long q0), .second, .val (.long q1), .second, .val (.int p2), .val (.long q3), .second, .val (.int p4), .val (.long v1), .second, .val (.long v2), .second, .val (.long v3), .second, .val (.int v4), .val (.int v5), .val (.long v6), .second, .val (.int v7), .val (.ref b1), .val (.ref b3), .val (.int (1 : Int32)), .val (.long v8), .second, .val (.long v9), .second, .val (.long v10), .second, .unset, .unset, .unset, .unset, .unset, .unset, .unset, .unset, .unset, .unset, .unset] [(.long (((v1 - (v6 - r5_r)) - ((v6 - r5_r) * ((v7.toInt64) - (1 : Int64)))) - (v6 - r5_r)))])) _
    exact k
  obtain ⟨v11, hv11, go30⟩ : ∃ v11 : Int64, v11 = (((v1 - (v6 - r5_r)) - ((v6 - r5_r) * ((v7.toInt64) - (1 : Int64)))) - (v6 - r5_r)) ∧ Go p e below A0 (T8.setTop (mkF m 162 #[.val (.long q0), .second, .val (.long q1), .second, .val (.int p2), .val (.long q3), .second, .val (.int p4), .val (.long v1), .second, .val (.long v2), .second, .val (.long v3), .second, .val (.int v4), .val (.int v5), .val (.long v6), .second, .val (.int v7), .val (.ref b1), .val (.ref b3), .val (.int (1 : Int32)), .val (.long v8), .second, .val (.long v9), .second, .val (.long v10), .second, .unset, .unset, .unset, .unset, .unset, .unset, .unset, .unset, .unset, .unset, .unset] [(.long v11)])) := ⟨_, rfl, go29⟩
  have go31 : Go p e below A0 (T8.setTop (mkF m 164 #[.val (.long q0), .second, .val (.long q1), .second, .val (.int p2), .val (.long q3), .second, .val (.int p4), .val (.long v1), .second, .val (.long v2), .second, .val (.long v3), .second, .val (.int v4), .val (.int v5), .val (.long v6), .second, .val (.int v7), .val (.ref b1), .val (.ref b3), .val (.int (1 : Int32)), .val (.long v8), .second, .val (.long v9), .second, .val (.long v10), .second, .val (.long v11), .second, .unset, .unset, .unset, .unset, .unset, .unset, .unset, .unset, .unset] [])) := by
    intro t k
    refine go30 t ?_
    refine o_lstore X8 hx hby at_162 164 rfl (l' := #[.val (.long q0), .second, .val (.long q1), .second, .val (.int p2), .val (.long q3), .second, .val (.int p4), .val (.long v1), .second, .val (.long v2), .second, .val (.long v3), .second, .val (.int v4), .val (.int v5), .val (.long v6), .second, .val (.int v7), .val (.ref b1), .val (.ref b3), .val (.int (1 : Int32)), .val (.long v8), .second, .val (.long v9), .second, .val (.long v10), .second, .val (.long v11), .second, .unset, .unset, .unset, .unset, .unset, .unset, .unset, .unset, .unset]) rfl ?_
    exact k
  obtain ⟨cq9, kq9, q9a, q9b, q9c⟩ := isOf hZ e8 f122
  obtain ⟨_, _, ⟨T9, L9, k9, n9⟩, -, X9, ⟨Lc9, hQ9, l9, y9, z9⟩, st9⟩ := X8.virtualBack hx (y := (⟨"com/example/amortine/amortine/CentAmounts", "steady", "()Z"⟩ : MethodName)) (z := (⟨"com/example/amortine/amortine/CentAmounts", "steady", "()Z"⟩ : MethodName)) hown (mvT hZ (hw _ (List.mem_of_getElem? (i := 150) rfl))) (mvT hZ (hw _ (List.mem_of_getElem? (i := 151) rfl))) (notFace_of_selects (args := #[]) (mvT hZ (hw _ (List.mem_of_getElem? (i := 153) rfl)))) (mvT hZ (hw _ (List.mem_of_getElem? (i := 153) rfl))) (mvT hZ (hw _ (List.mem_of_getElem? (i := 152) rfl))) (by decide) (backOf (W := 0) (rm20 l Z aw hw [] b3 r5_r r5_r T7.heap n0 Zp7 (f122) (f128) (f129)) hZ (hw _ (List.mem_of_getElem? (i := 154) rfl)) (hw _ (List.mem_of_getElem? (i := 41) rfl)) (by decide) (by decide)) q9a q9c (g := (mkF m 166 #[.val (.long q0), .second, .val (.long q1), .second, .val (.int p2), .val (.long q3), .second, .val (.int p4), .val (.long v1), .second, .val (.long v2), .second, .val (.long v3), .second, .val (.int v4), .val (.int v5), .val (.long v6), .second, .val (.int v7), .val (.ref b1), .val (.ref b3), .val (.int (1 : Int32)), .val (.long v8), .second, .val (.long v9), .second, .val (.long v10), .second, .val (.long v11), .second, .unset, .unset, .unset, .unset, .unset, .unset, .unset, .unset, .unset] [(.ref b3)])) rfl (by rw [hml]; rfl) (Steps.refl _) (argsL := []) (rest := []) (lenOf pd_21 rfl) rfl (by show 2 * 0 + _ ≤ _; exact Nat.le_of_eq rfl) (hb hby at_166) (fun _ _ => ⟨rfl, e8, (by decide : 4 + 0 ≤ _), (by decide : 40 + 0 ≤ _)⟩)
  dsimp only [Pt.U, Pt.locs, Pt.cells, Pt.slots] at X9 l9 y9 z9 st9 hQ9
  obtain rfl : k9 = 4 := y9
  obtain rfl : n9 = 40 := z9
  obtain ⟨rfl, N9q, e9⟩ := hQ9
  have N9 : Fr n0 L9 := by rw [l9]; exact Fr.app N8 N9q
  have go32 : Go p e below A0 (T9.setTop (mkF m 169 #[.val (.long q0), .second, .val (.long q1), .second, .val (.int p2), .val (.long q3), .second, .val (.int p4), .val (.long v1), .second, .val (.long v2), .second, .val (.long v3), .second, .val (.int v4), .val (.int v5), .val (.long v6), .second, .val (.int v7), .val (.ref b1), .val (.ref b3), .val (.int (1 : Int32)), .val (.long v8), .second, .val (.long v9), .second, .val (.long v10), .second, .val (.long v11), .second, .unset, .unset, .unset, .unset, .unset, .unset, .unset, .unset, .unset] [(.int (Fst r5_r r5_r))])) := by
    intro t k
    refine go31 t ?_
    refine o_aload X8 hx hby at_164 166 rfl rfl rfl ?_
    refine st9.trans ?_
    show Steps p.tables e below (T9.setTop (mkF m 169 #[.val (.long q0), .second, .val (.long q1), .second, .val (.int p2), .val (.long q3), .second, .val (.int p4), .val (.long v1), .second, .val (.long v2), .second, .val (.long v3), .second, .val (.int v4), .val (.int v5), .val (.long v6), .second, .val (.int v7), .val (.ref b1), .val (.ref b3), .val (.int (1 : Int32)), .val (.long v8), .second, .val (.long v9), .second, .val (.long v10), .second, .val (.long v11), .second, .unset, .unset, .unset, .unset, .unset, .unset, .unset, .unset, .unset] [(.int (Fst r5_r r5_r))])) _
    exact k
  obtain ⟨v12, hv12, go33⟩ : ∃ v12 : Int32, v12 = (Fst r5_r r5_r) ∧ Go p e below A0 (T9.setTop (mkF m 169 #[.val (.long q0), .second, .val (.long q1), .second, .val (.int p2), .val (.long q3), .second, .val (.int p4), .val (.long v1), .second, .val (.long v2), .second, .val (.long v3), .second, .val (.int v4), .val (.int v5), .val (.long v6), .second, .val (.int v7), .val (.ref b1), .val (.ref b3), .val (.int (1 : Int32)), .val (.long v8), .second, .val (.long v9), .second, .val (.long v10), .second, .val (.long v11), .second, .unset, .unset, .unset, .unset, .unset, .unset, .unset, .unset, .unset] [(.int v12)])) := ⟨_, rfl, go32⟩
  have go34 : Go p e below A0 (T9.setTop (mkF m 171 #[.val (.long q0), .second, .val (.long q1), .second, .val (.int p2), .val (.long q3), .second, .val (.int p4), .val (.long v1), .second, .val (.long v2), .second, .val (.long v3), .second, .val (.int v4), .val (.int v5), .val (.long v6), .second, .val (.int v7), .val (.ref b1), .val (.ref b3), .val (.int (1 : Int32)), .val (.long v8), .second, .val (.long v9), .second, .val (.long v10), .second, .val (.long v11), .second, .val (.int v12), .unset, .unset, .unset, .unset, .unset, .unset, .unset, .unset] [])) := by
    intro t k
    refine go33 t ?_
    refine o_istore X9 hx hby at_169 171 rfl (l' := #[.val (.long q0), .second, .val (.long q1), .second, .val (.int p2), .val (.long q3), .second, .val (.int p4), .val (.long v1), .second, .val (.long v2), .second, .val (.long v3), .second, .val (.int v4), .val (.int v5), .val (.long v6), .second, .val (.int v7), .val (.ref b1), .val (.ref b3), .val (.int (1 : Int32)), .val (.long v8), .second, .val (.long v9), .second, .val (.long v10), .second, .val (.long v11), .second, .val (.int v12), .unset, .unset, .unset, .unset, .unset, .unset, .unset, .unset]) rfl ?_
    exact k
  obtain ⟨cq10, kq10, q10a, q10b, q10c⟩ := isOf hZ e9 f122
  obtain ⟨_, _, ⟨T10, L10, k10, n10⟩, -, X10, ⟨Lc10, hQ10, l10, y10, z10⟩, st10⟩ := X9.virtualBack hx (y := (⟨"com/example/amortine/amortine/CentAmounts", "tally", "()V"⟩ : MethodName)) (z := (⟨"com/example/amortine/amortine/CentAmounts", "tally", "()V"⟩ : MethodName)) hown (mvT hZ (hw _ (List.mem_of_getElem? (i := 155) rfl))) (mvT hZ (hw _ (List.mem_of_getElem? (i := 156) rfl))) (notFace_of_selects (args := #[]) (mvT hZ (hw _ (List.mem_of_getElem? (i := 158) rfl)))) (mvT hZ (hw _ (List.mem_of_getElem? (i := 158) rfl))) (mvT hZ (hw _ (List.mem_of_getElem? (i := 157) rfl))) (by decide) (backOf (W := 0) (rm21 l Z aw hw [] b3 v2 (2 : Int32) ((((v1 - (v6 - r5_r)) - ((v6 - r5_r) * ((v7.toInt64) - (1 : Int64)))) - (v6 - r5_r))) ((Fmax (2 : Int32) (Fmax (2 : Int32) (2 : Int32)))) (((v1 - (v6 - r5_r)) - ((v6 - r5_r) * ((v7.toInt64) - (1 : Int64))))) r5_r r5_r ((Fmax (2 : Int32) (Fmax (2 : Int32) (2 : Int32)))) v6 (2 : Int32) ((v6 - r5_r)) ((Fmax (2 : Int32) (2 : Int32))) (((v6 * ((1 : Int32).toInt64)) + (v6 * (v7.toInt64)))) (2 : Int32) (0 : Int64) (0 : Int32) (0 : Int32) (0 : Int64) (0 : Int32) (0 : Int64) (0 : Int32) T7.heap n0 Zp7 (f122) (g_b3) (f123) (f124) (f125) (f126) (f127) (f128) (f129) (f130) (f131) (f132) (f133) (f134) (f135) (f136) (f137) (f138) (f139) (f140) (f141) (f142) (f143)) hZ (hw _ (List.mem_of_getElem? (i := 159) rfl)) (hw _ (List.mem_of_getElem? (i := 41) rfl)) (by decide) (by decide)) q10a q10c (g := (mkF m 173 #[.val (.long q0), .second, .val (.long q1), .second, .val (.int p2), .val (.long q3), .second, .val (.int p4), .val (.long v1), .second, .val (.long v2), .second, .val (.long v3), .second, .val (.int v4), .val (.int v5), .val (.long v6), .second, .val (.int v7), .val (.ref b1), .val (.ref b3), .val (.int (1 : Int32)), .val (.long v8), .second, .val (.long v9), .second, .val (.long v10), .second, .val (.long v11), .second, .val (.int v12), .unset, .unset, .unset, .unset, .unset, .unset, .unset, .unset] [(.ref b3)])) rfl (by rw [hml]; rfl) (Steps.refl _) (argsL := []) (rest := []) (lenOf pd_22 rfl) rfl (by show 2 * 0 + _ ≤ _; exact Nat.le_of_eq rfl) (hb hby at_173) (fun _ _ => ⟨rfl, e9, (by decide : 4 + 0 ≤ _), (by decide : 40 + 0 ≤ _)⟩)
  dsimp only [Pt.U, Pt.locs, Pt.cells, Pt.slots] at X10 l10 y10 z10 st10 hQ10
  obtain rfl : k10 = 4 := y10
  obtain rfl : n10 = 40 := z10
  obtain ⟨rfl, N10q, K10q, qf10_0, qf10_1, qf10_2, qf10_3, qf10_4, qf10_5, qf10_6, qf10_7, qf10_8, qf10_9, qf10_10, qf10_11, qf10_12, qf10_13, qf10_14, qf10_15, qf10_16, qf10_17, qf10_18, qf10_19, qf10_20, -⟩ := hQ10
  have f144 : Old Z n0 T10.heap := f115.keep K10q (allS g_b3 all0)
  have f145 : Arv Z T10.heap lt kt .long (19 : Int32) tL (.long (0 : Int64)) := f116.keep K10q (ninS ne_lt_b3 nin0)
  have f146 : Arv Z T10.heap lf kf .long (19 : Int32) fL (.long (0 : Int64)) := f117.keep K10q (ninS ne_lf_b3 nin0)
  have f147 : Exa Z T10.heap b1 "com/example/amortine/amortine/PeriodRate" := f118.keep K10q
  have f148 : FP Z T10.heap b1 "wholeTermsAsked" "Z" (.int (1 : Int32)) := f119.keep K10q (ninS ne_b1_b3 nin0)
  have f149 : FP Z T10.heap b1 "wholeTerms" "[J" (.ref b2_b) := f120.keep K10q (ninS ne_b1_b3 nin0)
  have f150 : Arv Z T10.heap b2_b r2_kb .long (2 : Int32) [(.long r2_dv), (.long v3)] (.long (0 : Int64)) := f121.keep K10q (ninS ne_b2_b_b3 nin0)
  have f151 : Exa Z T10.heap b3 "com/example/amortine/amortine/CentAmounts" := f122.keep K10q
  have Zp10 : n0 ≤ T10.heap.size := Nat.le_trans Zp7 K10q.1
  have f152 : FC Z T10.heap b3 "balloon" "J" (.long v2) := qf10_0
  have f153 : FC Z T10.heap b3 "balloonScale" "I" (.int (2 : Int32)) := qf10_1
  have f154 : FC Z T10.heap b3 "closing" "J" (.long (((v1 - (v6 - r5_r)) - ((v6 - r5_r) * ((v7.toInt64) - (1 : Int64)))) - (v6 - r5_r))) := qf10_2
  have f155 : FC Z T10.heap b3 "closingScale" "I" (.int (Fmax (2 : Int32) (Fmax (2 : Int32) (2 : Int32)))) := qf10_3
  have f156 : FC Z T10.heap b3 "opening" "J" (.long ((v1 - (v6 - r5_r)) - ((v6 - r5_r) * ((v7.toInt64) - (1 : Int64))))) := qf10_4
  have f157 : FC Z T10.heap b3 "interest" "J" (.long r5_r) := qf10_5
  have f158 : FC Z T10.heap b3 "owedBefore" "J" (.long r5_r) := qf10_6
  have f159 : FC Z T10.heap b3 "openingScale" "I" (.int (Fmax (2 : Int32) (Fmax (2 : Int32) (2 : Int32)))) := qf10_7
  have f160 : FC Z T10.heap b3 "payment" "J" (.long v6) := qf10_8
  have f161 : FC Z T10.heap b3 "paymentScale" "I" (.int (2 : Int32)) := qf10_9
  have f162 : FC Z T10.heap b3 "principal" "J" (.long (v6 - r5_r)) := qf10_10
  have f163 : FC Z T10.heap b3 "principalScale" "I" (.int (Fmax (2 : Int32) (2 : Int32))) := qf10_11
  have f164 : FC Z T10.heap b3 "madePaid" "J" (.long ((v6 * ((1 : Int32).toInt64)) + (v6 * (v7.toInt64)))) := qf10_12
  have f165 : FC Z T10.heap b3 "madeScale" "I" (.int (2 : Int32)) := qf10_13
  have f166 : FC Z T10.heap b3 "raised" "J" (.long (0 : Int64)) := qf10_14
  have f167 : FC Z T10.heap b3 "raisedScale" "I" (.int (0 : Int32)) := qf10_15
  have f168 : FC Z T10.heap b3 "settled" "Z" (.int (0 : Int32)) := qf10_16
  have f169 : FC Z T10.heap b3 "tallied" "J" (.long ((0 : Int64) + ((v6 * ((1 : Int32).toInt64)) + (v6 * (v7.toInt64))))) := qf10_17
  have f170 : FC Z T10.heap b3 "talliedScale" "I" (.int (Fmax (0 : Int32) (2 : Int32))) := qf10_18
  have f171 : FC Z T10.heap b3 "indexation" "J" (.long ((0 : Int64) + (0 : Int64))) := qf10_19
  have f172 : FC Z T10.heap b3 "indexationScale" "I" (.int (Fmax (0 : Int32) (0 : Int32))) := qf10_20
  have N10 : Fr n0 L10 := by rw [l10]; exact Fr.app N9 N10q
  obtain ⟨cq11, kq11, q11a, q11b, q11c⟩ := isOf hZ rfl f151
  obtain ⟨_, _, ⟨T11, L11, k11, n11⟩, -, X11, ⟨Lc11, hQ11, l11, y11, z11⟩, st11⟩ := X10.virtualBack hx (y := (⟨"com/example/amortine/amortine/CentAmounts", "talliedCents", "()J"⟩ : MethodName)) (z := (⟨"com/example/amortine/amortine/CentAmounts", "talliedCents", "()J"⟩ : MethodName)) hown (mvT hZ (hw _ (List.mem_of_getElem? (i := 168) rfl))) (mvT hZ (hw _ (List.mem_of_getElem? (i := 169) rfl))) (notFace_of_selects (args := #[]) (mvT hZ (hw _ (List.mem_of_getElem? (i := 171) rfl)))) (mvT hZ (hw _ (List.mem_of_getElem? (i := 171) rfl))) (mvT hZ (hw _ (List.mem_of_getElem? (i := 170) rfl))) (by decide) (backOf (W := 0) (rm22 l Z aw hw [] b3 (((0 : Int64) + ((v6 * ((1 : Int32).toInt64)) + (v6 * (v7.toInt64))))) T10.heap n0 Zp10 (f151) (f169)) hZ (hw _ (List.mem_of_getElem? (i := 172) rfl)) (hw _ (List.mem_of_getElem? (i := 41) rfl)) (by decide) (by decide)) q11a q11c (g := (mkF m 178 #[.val (.long q0), .second, .val (.long q1), .second, .val (.int p2), .val (.long q3), .second, .val (.int p4), .val (.long v1), .second, .val (.long v2), .second, .val (.long v3), .second, .val (.int v4), .val (.int v5), .val (.long v6), .second, .val (.int v7), .val (.ref b1), .val (.ref b3), .val (.int (1 : Int32)), .val (.long v8), .second, .val (.long v9), .second, .val (.long v10), .second, .val (.long v11), .second, .val (.int v12), .unset, .unset, .unset, .unset, .unset, .unset, .unset, .unset] [(.ref b3)])) rfl (by rw [hml]; rfl) (Steps.refl _) (argsL := []) (rest := []) (lenOf pd_19 rfl) rfl (by show 2 * 0 + _ ≤ _; exact Nat.le_of_eq rfl) (hb hby at_178) (fun _ _ => ⟨rfl, rfl, (by decide : 4 + 0 ≤ _), (by decide : 40 + 0 ≤ _)⟩)
  dsimp only [Pt.U, Pt.locs, Pt.cells, Pt.slots] at X11 l11 y11 z11 st11 hQ11
  obtain rfl : k11 = 4 := y11
  obtain rfl : n11 = 40 := z11
  obtain ⟨rfl, N11q, e11⟩ := hQ11
  have N11 : Fr n0 L11 := by rw [l11]; exact Fr.app N10 N11q
  have go35 : Go p e below A0 (T11.setTop (mkF m 181 #[.val (.long q0), .second, .val (.long q1), .second, .val (.int p2), .val (.long q3), .second, .val (.int p4), .val (.long v1), .second, .val (.long v2), .second, .val (.long v3), .second, .val (.int v4), .val (.int v5), .val (.long v6), .second, .val (.int v7), .val (.ref b1), .val (.ref b3), .val (.int (1 : Int32)), .val (.long v8), .second, .val (.long v9), .second, .val (.long v10), .second, .val (.long v11), .second, .val (.int v12), .unset, .unset, .unset, .unset, .unset, .unset, .unset, .unset] [(.long ((0 : Int64) + ((v6 * ((1 : Int32).toInt64)) + (v6 * (v7.toInt64)))))])) := by
    intro t k
    refine go34 t ?_
    refine o_aload X9 hx hby at_171 173 rfl rfl rfl ?_
    refine st10.trans ?_
    show Steps p.tables e below (T10.setTop (mkF m 176 #[.val (.long q0), .second, .val (.long q1), .second, .val (.int p2), .val (.long q3), .second, .val (.int p4), .val (.long v1), .second, .val (.long v2), .second, .val (.long v3), .second, .val (.int v4), .val (.int v5), .val (.long v6), .second, .val (.int v7), .val (.ref b1), .val (.ref b3), .val (.int (1 : Int32)), .val (.long v8), .second, .val (.long v9), .second, .val (.long v10), .second, .val (.long v11), .second, .val (.int v12), .unset, .unset, .unset, .unset, .unset, .unset, .unset, .unset] [])) _
    refine o_aload X10 hx hby at_176 178 rfl rfl rfl ?_
    refine st11.trans ?_
    show Steps p.tables e below (T11.setTop (mkF m 181 #[.val (.long q0), .second, .val (.long q1), .second, .val (.int p2), .val (.long q3), .second, .val (.int p4), .val (.long v1), .second, .val (.long v2), .second, .val (.long v3), .second, .val (.int v4), .val (.int v5), .val (.long v6), .second, .val (.int v7), .val (.ref b1), .val (.ref b3), .val (.int (1 : Int32)), .val (.long v8), .second, .val (.long v9), .second, .val (.long v10), .second, .val (.long v11), .second, .val (.int v12), .unset, .unset, .unset, .unset, .unset, .unset, .unset, .unset] [(.long ((0 : Int64) + ((v6 * ((1 : Int32).toInt64)) + (v6 * (v7.toInt64)))))])) _
    exact k
  obtain ⟨v13, hv13, go36⟩ : ∃ v13 : Int64, v13 = ((0 : Int64) + ((v6 * ((1 : Int32).toInt64)) + (v6 * (v7.toInt64)))) ∧ Go p e below A0 (T11.setTop (mkF m 181 #[.val (.long q0), .second, .val (.long q1), .second, .val (.int p2), .val (.long q3), .second, .val (.int p4), .val (.long v1), .second, .val (.long v2), .second, .val (.long v3), .second, .val (.int v4), .val (.int v5), .val (.long v6), .second, .val (.int v7), .val (.ref b1), .val (.ref b3), .val (.int (1 : Int32)), .val (.long v8), .second, .val (.long v9), .second, .val (.long v10), .second, .val (.long v11), .second, .val (.int v12), .unset, .unset, .unset, .unset, .unset, .unset, .unset, .unset] [(.long v13)])) := ⟨_, rfl, go35⟩
  have go37 : Go p e below A0 (T11.setTop (mkF m 183 #[.val (.long q0), .second, .val (.long q1), .second, .val (.int p2), .val (.long q3), .second, .val (.int p4), .val (.long v1), .second, .val (.long v2), .second, .val (.long v3), .second, .val (.int v4), .val (.int v5), .val (.long v6), .second, .val (.int v7), .val (.ref b1), .val (.ref b3), .val (.int (1 : Int32)), .val (.long v8), .second, .val (.long v9), .second, .val (.long v10), .second, .val (.long v11), .second, .val (.int v12), .val (.long v13), .second, .unset, .unset, .unset, .unset, .unset, .unset] [])) := by
    intro t k
    refine go36 t ?_
    refine o_lstore X11 hx hby at_181 183 rfl (l' := #[.val (.long q0), .second, .val (.long q1), .second, .val (.int p2), .val (.long q3), .second, .val (.int p4), .val (.long v1), .second, .val (.long v2), .second, .val (.long v3), .second, .val (.int v4), .val (.int v5), .val (.long v6), .second, .val (.int v7), .val (.ref b1), .val (.ref b3), .val (.int (1 : Int32)), .val (.long v8), .second, .val (.long v9), .second, .val (.long v10), .second, .val (.long v11), .second, .val (.int v12), .val (.long v13), .second, .unset, .unset, .unset, .unset, .unset, .unset]) rfl ?_
    exact k
  obtain ⟨cq12, kq12, q12a, q12b, q12c⟩ := isOf hZ e11 f151
  obtain ⟨_, _, ⟨T12, L12, k12, n12⟩, -, X12, ⟨Lc12, hQ12, l12, y12, z12⟩, st12⟩ := X11.virtualBack hx (y := (⟨"com/example/amortine/amortine/CentAmounts", "settle", "()V"⟩ : MethodName)) (z := (⟨"com/example/amortine/amortine/CentAmounts", "settle", "()V"⟩ : MethodName)) hown (mvT hZ (hw _ (List.mem_of_getElem? (i := 173) rfl))) (mvT hZ (hw _ (List.mem_of_getElem? (i := 174) rfl))) (notFace_of_selects (args := #[]) (mvT hZ (hw _ (List.mem_of_getElem? (i := 176) rfl)))) (mvT hZ (hw _ (List.mem_of_getElem? (i := 176) rfl))) (mvT hZ (hw _ (List.mem_of_getElem? (i := 175) rfl))) (by decide) (backOf (W := 0) (rm23 l Z aw hw [] b3 v2 (2 : Int32) ((((v1 - (v6 - r5_r)) - ((v6 - r5_r) * ((v7.toInt64) - (1 : Int64)))) - (v6 - r5_r))) ((Fmax (2 : Int32) (Fmax (2 : Int32) (2 : Int32)))) (((v1 - (v6 - r5_r)) - ((v6 - r5_r) * ((v7.toInt64) - (1 : Int64))))) r5_r r5_r ((Fmax (2 : Int32) (Fmax (2 : Int32) (2 : Int32)))) v6 (2 : Int32) ((v6 - r5_r)) ((Fmax (2 : Int32) (2 : Int32))) (((v6 * ((1 : Int32).toInt64)) + (v6 * (v7.toInt64)))) (2 : Int32) (0 : Int64) (0 : Int32) (0 : Int32) (((0 : Int64) + ((v6 * ((1 : Int32).toInt64)) + (v6 * (v7.toInt64))))) ((Fmax (0 : Int32) (2 : Int32))) (((0 : Int64) + (0 : Int64))) ((Fmax (0 : Int32) (0 : Int32))) T10.heap n0 Zp10 (f151) (g_b3) (f152) (f153) (f154) (f155) (f156) (f157) (f158) (f159) (f160) (f161) (f162) (f163) (f164) (f165) (f166) (f167) (f168) (f169) (f170) (f171) (f172)) hZ (hw _ (List.mem_of_getElem? (i := 177) rfl)) (hw _ (List.mem_of_getElem? (i := 41) rfl)) (by decide) (by decide)) q12a q12c (g := (mkF m 185 #[.val (.long q0), .second, .val (.long q1), .second, .val (.int p2), .val (.long q3), .second, .val (.int p4), .val (.long v1), .second, .val (.long v2), .second, .val (.long v3), .second, .val (.int v4), .val (.int v5), .val (.long v6), .second, .val (.int v7), .val (.ref b1), .val (.ref b3), .val (.int (1 : Int32)), .val (.long v8), .second, .val (.long v9), .second, .val (.long v10), .second, .val (.long v11), .second, .val (.int v12), .val (.long v13), .second, .unset, .unset, .unset, .unset, .unset, .unset] [(.ref b3)])) rfl (by rw [hml]; rfl) (Steps.refl _) (argsL := []) (rest := []) (lenOf pd_22 rfl) rfl (by show 2 * 0 + _ ≤ _; exact Nat.le_of_eq rfl) (hb hby at_185) (fun _ _ => ⟨rfl, e11, (by decide : 4 + 0 ≤ _), (by decide : 40 + 0 ≤ _)⟩)
  dsimp only [Pt.U, Pt.locs, Pt.cells, Pt.slots] at X12 l12 y12 z12 st12 hQ12
  obtain rfl : k12 = 4 := y12
  obtain rfl : n12 = 40 := z12
  obtain ⟨rfl, N12q, K12q, qf12_0, qf12_1, qf12_2, qf12_3, qf12_4, qf12_5, qf12_6, qf12_7, qf12_8, qf12_9, qf12_10, qf12_11, qf12_12, qf12_13, qf12_14, qf12_15, qf12_16, qf12_17, qf12_18, qf12_19, qf12_20, -⟩ := hQ12
  have f173 : Old Z n0 T12.heap := f144.keep K12q (allS g_b3 all0)
  have f174 : Arv Z T12.heap lt kt .long (19 : Int32) tL (.long (0 : Int64)) := f145.keep K12q (ninS ne_lt_b3 nin0)
  have f175 : Arv Z T12.heap lf kf .long (19 : Int32) fL (.long (0 : Int64)) := f146.keep K12q (ninS ne_lf_b3 nin0)
  have f176 : Exa Z T12.heap b1 "com/example/amortine/amortine/PeriodRate" := f147.keep K12q
  have f177 : FP Z T12.heap b1 "wholeTermsAsked" "Z" (.int (1 : Int32)) := f148.keep K12q (ninS ne_b1_b3 nin0)
  have f178 : FP Z T12.heap b1 "wholeTerms" "[J" (.ref b2_b) := f149.keep K12q (ninS ne_b1_b3 nin0)
  have f179 : Arv Z T12.heap b2_b r2_kb .long (2 : Int32) [(.long r2_dv), (.long v3)] (.long (0 : Int64)) := f150.keep K12q (ninS ne_b2_b_b3 nin0)
  have f180 : Exa Z T12.heap b3 "com/example/amortine/amortine/CentAmounts" := f151.keep K12q
  have Zp12 : n0 ≤ T12.heap.size := Nat.le_trans Zp10 K12q.1
  have f181 : FC Z T12.heap b3 "balloon" "J" (.long v2) := qf12_0
  have f182 : FC Z T12.heap b3 "balloonScale" "I" (.int (2 : Int32)) := qf12_1
  have f183 : FC Z T12.heap b3 "closing" "J" (.long v2) := qf12_2
  have f184 : FC Z T12.heap b3 "closingScale" "I" (.int (2 : Int32)) := qf12_3
  have f185 : FC Z T12.heap b3 "opening" "J" (.long ((v1 - (v6 - r5_r)) - ((v6 - r5_r) * ((v7.toInt64) - (1 : Int64))))) := qf12_4
  have f186 : FC Z T12.heap b3 "interest" "J" (.long r5_r) := qf12_5
  have f187 : FC Z T12.heap b3 "owedBefore" "J" (.long r5_r) := qf12_6
  have f188 : FC Z T12.heap b3 "openingScale" "I" (.int (Fmax (2 : Int32) (Fmax (2 : Int32) (2 : Int32)))) := qf12_7
  have f189 : FC Z T12.heap b3 "payment" "J" (.long (r5_r + (((v1 - (v6 - r5_r)) - ((v6 - r5_r) * ((v7.toInt64) - (1 : Int64)))) - v2))) := qf12_8
  have f190 : FC Z T12.heap b3 "paymentScale" "I" (.int (Fmax (2 : Int32) (Fmax (Fmax (2 : Int32) (Fmax (2 : Int32) (2 : Int32))) (2 : Int32)))) := qf12_9
  have f191 : FC Z T12.heap b3 "principal" "J" (.long (((v1 - (v6 - r5_r)) - ((v6 - r5_r) * ((v7.toInt64) - (1 : Int64)))) - v2)) := qf12_10
  have f192 : FC Z T12.heap b3 "principalScale" "I" (.int (Fmax (Fmax (2 : Int32) (Fmax (2 : Int32) (2 : Int32))) (2 : Int32))) := qf12_11
  have f193 : FC Z T12.heap b3 "madePaid" "J" (.long (r5_r + (((v1 - (v6 - r5_r)) - ((v6 - r5_r) * ((v7.toInt64) - (1 : Int64)))) - v2))) := qf12_12
  have f194 : FC Z T12.heap b3 "madeScale" "I" (.int (Fmax (2 : Int32) (Fmax (Fmax (2 : Int32) (Fmax (2 : Int32) (2 : Int32))) (2 : Int32)))) := qf12_13
  have f195 : FC Z T12.heap b3 "raised" "J" (.long (0 : Int64)) := qf12_14
  have f196 : FC Z T12.heap b3 "raisedScale" "I" (.int (0 : Int32)) := qf12_15
  have f197 : FC Z T12.heap b3 "settled" "Z" (.int (1 : Int32)) := qf12_16
  have f198 : FC Z T12.heap b3 "tallied" "J" (.long ((0 : Int64) + ((v6 * ((1 : Int32).toInt64)) + (v6 * (v7.toInt64))))) := qf12_17
  have f199 : FC Z T12.heap b3 "talliedScale" "I" (.int (Fmax (0 : Int32) (2 : Int32))) := qf12_18
  have f200 : FC Z T12.heap b3 "indexation" "J" (.long ((0 : Int64) + (0 : Int64))) := qf12_19
  have f201 : FC Z T12.heap b3 "indexationScale" "I" (.int (Fmax (0 : Int32) (0 : Int32))) := qf12_20
  have N12 : Fr n0 L12 := by rw [l12]; exact Fr.app N11 N12q
  obtain ⟨cq13, kq13, q13a, q13b, q13c⟩ := isOf hZ rfl f180
  obtain ⟨_, _, ⟨T13, L13, k13, n13⟩, -, X13, ⟨Lc13, hQ13, l13, y13, z13⟩, st13⟩ := X12.virtualBack hx (y := (⟨"com/example/amortine/amortine/CentAmounts", "tally", "()V"⟩ : MethodName)) (z := (⟨"com/example/amortine/amortine/CentAmounts", "tally", "()V"⟩ : MethodName)) hown (mvT hZ (hw _ (List.mem_of_getElem? (i := 155) rfl))) (mvT hZ (hw _ (List.mem_of_getElem? (i := 156) rfl))) (notFace_of_selects (args := #[]) (mvT hZ (hw _ (List.mem_of_getElem? (i := 158) rfl)))) (mvT hZ (hw _ (List.mem_of_getElem? (i := 158) rfl))) (mvT hZ (hw _ (List.mem_of_getElem? (i := 157) rfl))) (by decide) (backOf (W := 0) (rm21 l Z aw hw [] b3 v2 (2 : Int32) v2 (2 : Int32) (((v1 - (v6 - r5_r)) - ((v6 - r5_r) * ((v7.toInt64) - (1 : Int64))))) r5_r r5_r ((Fmax (2 : Int32) (Fmax (2 : Int32) (2 : Int32)))) ((r5_r + (((v1 - (v6 - r5_r)) - ((v6 - r5_r) * ((v7.toInt64) - (1 : Int64)))) - v2))) ((Fmax (2 : Int32) (Fmax (Fmax (2 : Int32) (Fmax (2 : Int32) (2 : Int32))) (2 : Int32)))) ((((v1 - (v6 - r5_r)) - ((v6 - r5_r) * ((v7.toInt64) - (1 : Int64)))) - v2)) ((Fmax (Fmax (2 : Int32) (Fmax (2 : Int32) (2 : Int32))) (2 : Int32))) ((r5_r + (((v1 - (v6 - r5_r)) - ((v6 - r5_r) * ((v7.toInt64) - (1 : Int64)))) - v2))) ((Fmax (2 : Int32) (Fmax (Fmax (2 : Int32) (Fmax (2 : Int32) (2 : Int32))) (2 : Int32)))) (0 : Int64) (0 : Int32) (1 : Int32) (((0 : Int64) + ((v6 * ((1 : Int32).toInt64)) + (v6 * (v7.toInt64))))) ((Fmax (0 : Int32) (2 : Int32))) (((0 : Int64) + (0 : Int64))) ((Fmax (0 : Int32) (0 : Int32))) T12.heap n0 Zp12 (f180) (g_b3) (f181) (f182) (f183) (f184) (f185) (f186) (f187) (f188) (f189) (f190) (f191) (f192) (f193) (f194) (f195) (f196) (f197) (f198) (f199) (f200) (f201)) hZ (hw _ (List.mem_of_getElem? (i := 159) rfl)) (hw _ (List.mem_of_getElem? (i := 41) rfl)) (by decide) (by decide)) q13a q13c (g := (mkF m 190 #[.val (.long q0), .second, .val (.long q1), .second, .val (.int p2), .val (.long q3), .second, .val (.int p4), .val (.long v1), .second, .val (.long v2), .second, .val (.long v3), .second, .val (.int v4), .val (.int v5), .val (.long v6), .second, .val (.int v7), .val (.ref b1), .val (.ref b3), .val (.int (1 : Int32)), .val (.long v8), .second, .val (.long v9), .second, .val (.long v10), .second, .val (.long v11), .second, .val (.int v12), .val (.long v13), .second, .unset, .unset, .unset, .unset, .unset, .unset] [(.ref b3)])) rfl (by rw [hml]; rfl) (Steps.refl _) (argsL := []) (rest := []) (lenOf pd_22 rfl) rfl (by show 2 * 0 + _ ≤ _; exact Nat.le_of_eq rfl) (hb hby at_190) (fun _ _ => ⟨rfl, rfl, (by decide : 4 + 0 ≤ _), (by decide : 40 + 0 ≤ _)⟩)
  dsimp only [Pt.U, Pt.locs, Pt.cells, Pt.slots] at X13 l13 y13 z13 st13 hQ13
  obtain rfl : k13 = 4 := y13
  obtain rfl : n13 = 40 := z13
  obtain ⟨rfl, N13q, K13q, qf13_0, qf13_1, qf13_2, qf13_3, qf13_4, qf13_5, qf13_6, qf13_7, qf13_8, qf13_9, qf13_10, qf13_11, qf13_12, qf13_13, qf13_14, qf13_15, qf13_16, qf13_17, qf13_18, qf13_19, qf13_20, -⟩ := hQ13
  have f202 : Old Z n0 T13.heap := f173.keep K13q (allS g_b3 all0)
  have f203 : Arv Z T13.heap lt kt .long (19 : Int32) tL (.long (0 : Int64)) := f174.keep K13q (ninS ne_lt_b3 nin0)
  have f204 : Arv Z T13.heap lf kf .long (19 : Int32) fL (.long (0 : Int64)) := f175.keep K13q (ninS ne_lf_b3 nin0)
  have f205 : Exa Z T13.heap b1 "com/example/amortine/amortine/PeriodRate" := f176.keep K13q
  have f206 : FP Z T13.heap b1 "wholeTermsAsked" "Z" (.int (1 : Int32)) := f177.keep K13q (ninS ne_b1_b3 nin0)
  have f207 : FP Z T13.heap b1 "wholeTerms" "[J" (.ref b2_b) := f178.keep K13q (ninS ne_b1_b3 nin0)
  have f208 : Arv Z T13.heap b2_b r2_kb .long (2 : Int32) [(.long r2_dv), (.long v3)] (.long (0 : Int64)) := f179.keep K13q (ninS ne_b2_b_b3 nin0)
  have f209 : Exa Z T13.heap b3 "com/example/amortine/amortine/CentAmounts" := f180.keep K13q
  have Zp13 : n0 ≤ T13.heap.size := Nat.le_trans Zp12 K13q.1
  have f210 : FC Z T13.heap b3 "balloon" "J" (.long v2) := qf13_0
  have f211 : FC Z T13.heap b3 "balloonScale" "I" (.int (2 : Int32)) := qf13_1
  have f212 : FC Z T13.heap b3 "closing" "J" (.long v2) := qf13_2
  have f213 : FC Z T13.heap b3 "closingScale" "I" (.int (2 : Int32)) := qf13_3
  have f214 : FC Z T13.heap b3 "opening" "J" (.long ((v1 - (v6 - r5_r)) - ((v6 - r5_r) * ((v7.toInt64) - (1 : Int64))))) := qf13_4
  have f215 : FC Z T13.heap b3 "interest" "J" (.long r5_r) := qf13_5
  have f216 : FC Z T13.heap b3 "owedBefore" "J" (.long r5_r) := qf13_6
  have f217 : FC Z T13.heap b3 "openingScale" "I" (.int (Fmax (2 : Int32) (Fmax (2 : Int32) (2 : Int32)))) := qf13_7
  have f218 : FC Z T13.heap b3 "payment" "J" (.long (r5_r + (((v1 - (v6 - r5_r)) - ((v6 - r5_r) * ((v7.toInt64) - (1 : Int64)))) - v2))) := qf13_8
  have f219 : FC Z T13.heap b3 "paymentScale" "I" (.int (Fmax (2 : Int32) (Fmax (Fmax (2 : Int32) (Fmax (2 : Int32) (2 : Int32))) (2 : Int32)))) := qf13_9
  have f220 : FC Z T13.heap b3 "principal" "J" (.long (((v1 - (v6 - r5_r)) - ((v6 - r5_r) * ((v7.toInt64) - (1 : Int64)))) - v2)) := qf13_10
  have f221 : FC Z T13.heap b3 "principalScale" "I" (.int (Fmax (Fmax (2 : Int32) (Fmax (2 : Int32) (2 : Int32))) (2 : Int32))) := qf13_11
  have f222 : FC Z T13.heap b3 "madePaid" "J" (.long (r5_r + (((v1 - (v6 - r5_r)) - ((v6 - r5_r) * ((v7.toInt64) - (1 : Int64)))) - v2))) := qf13_12
  have f223 : FC Z T13.heap b3 "madeScale" "I" (.int (Fmax (2 : Int32) (Fmax (Fmax (2 : Int32) (Fmax (2 : Int32) (2 : Int32))) (2 : Int32)))) := qf13_13
  have f224 : FC Z T13.heap b3 "raised" "J" (.long (0 : Int64)) := qf13_14
  have f225 : FC Z T13.heap b3 "raisedScale" "I" (.int (0 : Int32)) := qf13_15
  have f226 : FC Z T13.heap b3 "settled" "Z" (.int (1 : Int32)) := qf13_16
  have f227 : FC Z T13.heap b3 "tallied" "J" (.long (((0 : Int64) + ((v6 * ((1 : Int32).toInt64)) + (v6 * (v7.toInt64)))) + (r5_r + (((v1 - (v6 - r5_r)) - ((v6 - r5_r) * ((v7.toInt64) - (1 : Int64)))) - v2)))) := qf13_17
  have f228 : FC Z T13.heap b3 "talliedScale" "I" (.int (Fmax (Fmax (0 : Int32) (2 : Int32)) (Fmax (2 : Int32) (Fmax (Fmax (2 : Int32) (Fmax (2 : Int32) (2 : Int32))) (2 : Int32))))) := qf13_18
  have f229 : FC Z T13.heap b3 "indexation" "J" (.long (((0 : Int64) + (0 : Int64)) + (0 : Int64))) := qf13_19
  have f230 : FC Z T13.heap b3 "indexationScale" "I" (.int (Fmax (Fmax (0 : Int32) (0 : Int32)) (0 : Int32))) := qf13_20
  have N13 : Fr n0 L13 := by rw [l13]; exact Fr.app N12 N13q
  obtain ⟨cq14, kq14, q14a, q14b, q14c⟩ := isOf hZ rfl f209
  obtain ⟨_, _, ⟨T14, L14, k14, n14⟩, -, X14, ⟨Lc14, hQ14, l14, y14, z14⟩, st14⟩ := X13.virtualBack hx (y := (⟨"com/example/amortine/amortine/CentAmounts", "talliedCents", "()J"⟩ : MethodName)) (z := (⟨"com/example/amortine/amortine/CentAmounts", "talliedCents", "()J"⟩ : MethodName)) hown (mvT hZ (hw _ (List.mem_of_getElem? (i := 168) rfl))) (mvT hZ (hw _ (List.mem_of_getElem? (i := 169) rfl))) (notFace_of_selects (args := #[]) (mvT hZ (hw _ (List.mem_of_getElem? (i := 171) rfl)))) (mvT hZ (hw _ (List.mem_of_getElem? (i := 171) rfl))) (mvT hZ (hw _ (List.mem_of_getElem? (i := 170) rfl))) (by decide) (backOf (W := 0) (rm22 l Z aw hw [] b3 ((((0 : Int64) + ((v6 * ((1 : Int32).toInt64)) + (v6 * (v7.toInt64)))) + (r5_r + (((v1 - (v6 - r5_r)) - ((v6 - r5_r) * ((v7.toInt64) - (1 : Int64)))) - v2)))) T13.heap n0 Zp13 (f209) (f227)) hZ (hw _ (List.mem_of_getElem? (i := 172) rfl)) (hw _ (List.mem_of_getElem? (i := 41) rfl)) (by decide) (by decide)) q14a q14c (g := (mkF m 195 #[.val (.long q0), .second, .val (.long q1), .second, .val (.int p2), .val (.long q3), .second, .val (.int p4), .val (.long v1), .second, .val (.long v2), .second, .val (.long v3), .second, .val (.int v4), .val (.int v5), .val (.long v6), .second, .val (.int v7), .val (.ref b1), .val (.ref b3), .val (.int (1 : Int32)), .val (.long v8), .second, .val (.long v9), .second, .val (.long v10), .second, .val (.long v11), .second, .val (.int v12), .val (.long v13), .second, .unset, .unset, .unset, .unset, .unset, .unset] [(.ref b3)])) rfl (by rw [hml]; rfl) (Steps.refl _) (argsL := []) (rest := []) (lenOf pd_19 rfl) rfl (by show 2 * 0 + _ ≤ _; exact Nat.le_of_eq rfl) (hb hby at_195) (fun _ _ => ⟨rfl, rfl, (by decide : 4 + 0 ≤ _), (by decide : 40 + 0 ≤ _)⟩)
  dsimp only [Pt.U, Pt.locs, Pt.cells, Pt.slots] at X14 l14 y14 z14 st14 hQ14
  obtain rfl : k14 = 4 := y14
  obtain rfl : n14 = 40 := z14
  obtain ⟨rfl, N14q, e14⟩ := hQ14
  have N14 : Fr n0 L14 := by rw [l14]; exact Fr.app N13 N14q
  have go38 : Go p e below A0 (T14.setTop (mkF m 198 #[.val (.long q0), .second, .val (.long q1), .second, .val (.int p2), .val (.long q3), .second, .val (.int p4), .val (.long v1), .second, .val (.long v2), .second, .val (.long v3), .second, .val (.int v4), .val (.int v5), .val (.long v6), .second, .val (.int v7), .val (.ref b1), .val (.ref b3), .val (.int (1 : Int32)), .val (.long v8), .second, .val (.long v9), .second, .val (.long v10), .second, .val (.long v11), .second, .val (.int v12), .val (.long v13), .second, .unset, .unset, .unset, .unset, .unset, .unset] [(.long (((0 : Int64) + ((v6 * ((1 : Int32).toInt64)) + (v6 * (v7.toInt64)))) + (r5_r + (((v1 - (v6 - r5_r)) - ((v6 - r5_r) * ((v7.toInt64) - (1 : Int64)))) - v2))))])) := by
    intro t k
    refine go37 t ?_
    refine o_aload X11 hx hby at_183 185 rfl rfl rfl ?_
    refine st12.trans ?_
    show Steps p.tables e below (T12.setTop (mkF m 188 #[.val (.long q0), .second, .val (.long q1), .second, .val (.int p2), .val (.long q3), .second, .val (.int p4), .val (.long v1), .second, .val (.long v2), .second, .val (.long v3), .second, .val (.int v4), .val (.int v5), .val (.long v6), .second, .val (.int v7), .val (.ref b1), .val (.ref b3), .val (.int (1 : Int32)), .val (.long v8), .second, .val (.long v9), .second, .val (.long v10), .second, .val (.long v11), .second, .val (.int v12), .val (.long v13), .second, .unset, .unset, .unset, .unset, .unset, .unset] [])) _
    refine o_aload X12 hx hby at_188 190 rfl rfl rfl ?_
    refine st13.trans ?_
    show Steps p.tables e below (T13.setTop (mkF m 193 #[.val (.long q0), .second, .val (.long q1), .second, .val (.int p2), .val (.long q3), .second, .val (.int p4), .val (.long v1), .second, .val (.long v2), .second, .val (.long v3), .second, .val (.int v4), .val (.int v5), .val (.long v6), .second, .val (.int v7), .val (.ref b1), .val (.ref b3), .val (.int (1 : Int32)), .val (.long v8), .second, .val (.long v9), .second, .val (.long v10), .second, .val (.long v11), .second, .val (.int v12), .val (.long v13), .second, .unset, .unset, .unset, .unset, .unset, .unset] [])) _
    refine o_aload X13 hx hby at_193 195 rfl rfl rfl ?_
    refine st14.trans ?_
    show Steps p.tables e below (T14.setTop (mkF m 198 #[.val (.long q0), .second, .val (.long q1), .second, .val (.int p2), .val (.long q3), .second, .val (.int p4), .val (.long v1), .second, .val (.long v2), .second, .val (.long v3), .second, .val (.int v4), .val (.int v5), .val (.long v6), .second, .val (.int v7), .val (.ref b1), .val (.ref b3), .val (.int (1 : Int32)), .val (.long v8), .second, .val (.long v9), .second, .val (.long v10), .second, .val (.long v11), .second, .val (.int v12), .val (.long v13), .second, .unset, .unset, .unset, .unset, .unset, .unset] [(.long (((0 : Int64) + ((v6 * ((1 : Int32).toInt64)) + (v6 * (v7.toInt64)))) + (r5_r + (((v1 - (v6 - r5_r)) - ((v6 - r5_r) * ((v7.toInt64) - (1 : Int64)))) - v2))))])) _
    exact k
  obtain ⟨v14, hv14, go39⟩ : ∃ v14 : Int64, v14 = (((0 : Int64) + ((v6 * ((1 : Int32).toInt64)) + (v6 * (v7.toInt64)))) + (r5_r + (((v1 - (v6 - r5_r)) - ((v6 - r5_r) * ((v7.toInt64) - (1 : Int64)))) - v2))) ∧ Go p e below A0 (T14.setTop (mkF m 198 #[.val (.long q0), .second, .val (.long q1), .second, .val (.int p2), .val (.long q3), .second, .val (.int p4), .val (.long v1), .second, .val (.long v2), .second, .val (.long v3), .second, .val (.int v4), .val (.int v5), .val (.long v6), .second, .val (.int v7), .val (.ref b1), .val (.ref b3), .val (.int (1 : Int32)), .val (.long v8), .second, .val (.long v9), .second, .val (.long v10), .second, .val (.long v11), .second, .val (.int v12), .val (.long v13), .second, .unset, .unset, .unset, .unset, .unset, .unset] [(.long v14)])) := ⟨_, rfl, go38⟩
  have go40 : Go p e below A0 (T14.setTop (mkF m 200 #[.val (.long q0), .second, .val (.long q1), .second, .val (.int p2), .val (.long q3), .second, .val (.int p4), .val (.long v1), .second, .val (.long v2), .second, .val (.long v3), .second, .val (.int v4), .val (.int v5), .val (.long v6), .second, .val (.int v7), .val (.ref b1), .val (.ref b3), .val (.int (1 : Int32)), .val (.long v8), .second, .val (.long v9), .second, .val (.long v10), .second, .val (.long v11), .second, .val (.int v12), .val (.long v13), .second, .val (.long v14), .second, .unset, .unset, .unset, .unset] [])) := by
    intro t k
    refine go39 t ?_
    refine o_lstore X14 hx hby at_198 200 rfl (l' := #[.val (.long q0), .second, .val (.long q1), .second, .val (.int p2), .val (.long q3), .second, .val (.int p4), .val (.long v1), .second, .val (.long v2), .second, .val (.long v3), .second, .val (.int v4), .val (.int v5), .val (.long v6), .second, .val (.int v7), .val (.ref b1), .val (.ref b3), .val (.int (1 : Int32)), .val (.long v8), .second, .val (.long v9), .second, .val (.long v10), .second, .val (.long v11), .second, .val (.int v12), .val (.long v13), .second, .val (.long v14), .second, .unset, .unset, .unset, .unset]) rfl ?_
    exact k
  have go41 : Go p e below A0 (T14.setTop (mkF m 213 #[.val (.long q0), .second, .val (.long q1), .second, .val (.int p2), .val (.long q3), .second, .val (.int p4), .val (.long v1), .second, .val (.long v2), .second, .val (.long v3), .second, .val (.int v4), .val (.int v5), .val (.long v6), .second, .val (.int v7), .val (.ref b1), .val (.ref b3), .val (.int (1 : Int32)), .val (.long v8), .second, .val (.long v9), .second, .val (.long v10), .second, .val (.long v11), .second, .val (.int v12), .val (.long v13), .second, .val (.long v14), .second, .val (.long (v8 - (v9 * ((v7.toInt64) - (1 : Int64))))), .second, .unset, .unset] [])) := by
    intro t k
    refine go40 t ?_
    refine o_lload X14 hx hby at_200 202 rfl rfl ?_
    refine o_lload X14 hx hby at_202 204 rfl rfl ?_
    refine o_iload X14 hx hby at_204 206 rfl rfl ?_
    refine o_i2l X14 hx hby at_206 207 rfl ?_
    refine o_lconst X14 hx hby at_207 208 rfl (v := (1 : Int64)) rfl ?_
    refine o_lsub X14 hx hby at_208 209 rfl ?_
    refine o_lmul X14 hx hby at_209 210 rfl ?_
    refine o_lsub X14 hx hby at_210 211 rfl ?_
    refine o_lstore X14 hx hby at_211 213 rfl (l' := #[.val (.long q0), .second, .val (.long q1), .second, .val (.int p2), .val (.long q3), .second, .val (.int p4), .val (.long v1), .second, .val (.long v2), .second, .val (.long v3), .second, .val (.int v4), .val (.int v5), .val (.long v6), .second, .val (.int v7), .val (.ref b1), .val (.ref b3), .val (.int (1 : Int32)), .val (.long v8), .second, .val (.long v9), .second, .val (.long v10), .second, .val (.long v11), .second, .val (.int v12), .val (.long v13), .second, .val (.long v14), .second, .val (.long (v8 - (v9 * ((v7.toInt64) - (1 : Int64))))), .second, .unset, .unset]) rfl ?_
    exact k
  obtain ⟨v15, hv15, go42⟩ : ∃ v15 : Int64, v15 = (v8 - (v9 * ((v7.toInt64) - (1 : Int64)))) ∧ Go p e below A0 (T14.setTop (mkF m 213 #[.val (.long q0), .second, .val (.long q1), .second, .val (.int p2), .val (.long q3), .second, .val (.int p4), .val (.long v1), .second, .val (.long v2), .second, .val (.long v3), .second, .val (.int v4), .val (.int v5), .val (.long v6), .second, .val (.int v7), .val (.ref b1), .val (.ref b3), .val (.int (1 : Int32)), .val (.long v8), .second, .val (.long v9), .second, .val (.long v10), .second, .val (.long v11), .second, .val (.int v12), .val (.long v13), .second, .val (.long v14), .second, .val (.long v15), .second, .unset, .unset] [])) := ⟨_, rfl, go41⟩
  have go43 : Go p e below A0 (T14.setTop (mkF m 224 #[.val (.long q0), .second, .val (.long q1), .second, .val (.int p2), .val (.long q3), .second, .val (.int p4), .val (.long v1), .second, .val (.long v2), .second, .val (.long v3), .second, .val (.int v4), .val (.int v5), .val (.long v6), .second, .val (.int v7), .val (.ref b1), .val (.ref b3), .val (.int (1 : Int32)), .val (.long v8), .second, .val (.long v9), .second, .val (.long v10), .second, .val (.long v11), .second, .val (.int v12), .val (.long v13), .second, .val (.long v14), .second, .val (.long v15), .second, .val (.long (v8 - (v9 * (v7.toInt64)))), .second] [])) := by
    intro t k
    refine go42 t ?_
    refine o_lload X14 hx hby at_213 215 rfl rfl ?_
    refine o_lload X14 hx hby at_215 217 rfl rfl ?_
    refine o_iload X14 hx hby at_217 219 rfl rfl ?_
    refine o_i2l X14 hx hby at_219 220 rfl ?_
    refine o_lmul X14 hx hby at_220 221 rfl ?_
    refine o_lsub X14 hx hby at_221 222 rfl ?_
    refine o_lstore X14 hx hby at_222 224 rfl (l' := #[.val (.long q0), .second, .val (.long q1), .second, .val (.int p2), .val (.long q3), .second, .val (.int p4), .val (.long v1), .second, .val (.long v2), .second, .val (.long v3), .second, .val (.int v4), .val (.int v5), .val (.long v6), .second, .val (.int v7), .val (.ref b1), .val (.ref b3), .val (.int (1 : Int32)), .val (.long v8), .second, .val (.long v9), .second, .val (.long v10), .second, .val (.long v11), .second, .val (.int v12), .val (.long v13), .second, .val (.long v14), .second, .val (.long v15), .second, .val (.long (v8 - (v9 * (v7.toInt64)))), .second]) rfl ?_
    exact k
  obtain ⟨v16, hv16, go44⟩ : ∃ v16 : Int64, v16 = (v8 - (v9 * (v7.toInt64))) ∧ Go p e below A0 (T14.setTop (mkF m 224 #[.val (.long q0), .second, .val (.long q1), .second, .val (.int p2), .val (.long q3), .second, .val (.int p4), .val (.long v1), .second, .val (.long v2), .second, .val (.long v3), .second, .val (.int v4), .val (.int v5), .val (.long v6), .second, .val (.int v7), .val (.ref b1), .val (.ref b3), .val (.int (1 : Int32)), .val (.long v8), .second, .val (.long v9), .second, .val (.long v10), .second, .val (.long v11), .second, .val (.int v12), .val (.long v13), .second, .val (.long v14), .second, .val (.long v15), .second, .val (.long v16), .second] [])) := ⟨_, rfl, go43⟩
  have go45 : Go p e below A0 (T14.setTop (mkF m 235 #[.val (.long q0), .second, .val (.long q1), .second, .val (.int p2), .val (.long q3), .second, .val (.int p4), .val (.long v1), .second, .val (.long v2), .second, .val (.long v3), .second, .val (.int v4), .val (.int v5), .val (.long v6), .second, .val (.int v7), .val (.ref b1), .val (.ref b3), .val (.int (1 : Int32)), .val (.long v8), .second, .val (.long v9), .second, .val (.long v10), .second, .val (.long v11), .second, .val (.int v12), .val (.long v13), .second, .val (.long v14), .second, .val (.long v15), .second, .val (.long v16), .second] [(.int (lcmpW v11 v16))])) := by
    intro t k
    refine go44 t ?_
    refine o_iload X14 hx hby at_224 226 rfl rfl ?_
    refine o_iconst X14 hx hby at_226 227 rfl (v := (1 : Int32)) rfl ?_
    refine o_icmpN X14 hx hby at_227 230 rfl (teq (show (1 : Int32) = (1 : Int32) by decide)).2 ?_
    refine o_lload X14 hx hby at_230 232 rfl rfl ?_
    refine o_lload X14 hx hby at_232 234 rfl rfl ?_
    refine o_lcmp X14 hx hby at_234 235 rfl ?_
    exact k
  obtain ⟨v20, hv20, go57⟩ : ∃ (v20 : Int32), v20 = (if v11 = v16 then (if v12 = (0 : Int32) then (0 : Int32) else (if v13 = (v6 * ((v7.toInt64) + (1 : Int64))) then (if (v14 - v13) = ((v10 + v15) - v2) then (1 : Int32) else (0 : Int32)) else (0 : Int32))) else (0 : Int32)) ∧ Go p e below A0 (T14.setTop (mkF m 279 #[.val (.long q0), .second, .val (.long q1), .second, .val (.int p2), .val (.long q3), .second, .val (.int p4), .val (.long v1), .second, .val (.long v2), .second, .val (.long v3), .second, .val (.int v4), .val (.int v5), .val (.long v6), .second, .val (.int v7), .val (.ref b1), .val (.ref b3), .val (.int (1 : Int32)), .val (.long v8), .second, .val (.long v9), .second, .val (.long v10), .second, .val (.long v11), .second, .val (.int v12), .val (.long v13), .second, .val (.long v14), .second, .val (.long v15), .second, .val (.long v16), .second] [(.int v20)])) := by
    by_cases hc235_15 : v11 = v16
    · have go46 : Go p e below A0 (T14.setTop (mkF m 240 #[.val (.long q0), .second, .val (.long q1), .second, .val (.int p2), .val (.long q3), .second, .val (.int p4), .val (.long v1), .second, .val (.long v2), .second, .val (.long v3), .second, .val (.int v4), .val (.int v5), .val (.long v6), .second, .val (.int v7), .val (.ref b1), .val (.ref b3), .val (.int (1 : Int32)), .val (.long v8), .second, .val (.long v9), .second, .val (.long v10), .second, .val (.long v11), .second, .val (.int v12), .val (.long v13), .second, .val (.long v14), .second, .val (.long v15), .second, .val (.long v16), .second] [(.int v12)])) := by
        intro t k
        refine go45 t ?_
        refine o_ifN X14 hx hby at_235 238 rfl (teq ((lw_eq v11 v16).mpr hc235_15)).2 ?_
        refine o_iload X14 hx hby at_238 240 rfl rfl ?_
        exact k
      obtain ⟨v19, hv19, go55⟩ : ∃ (v19 : Int32), v19 = (if v12 = (0 : Int32) then (0 : Int32) else (if v13 = (v6 * ((v7.toInt64) + (1 : Int64))) then (if (v14 - v13) = ((v10 + v15) - v2) then (1 : Int32) else (0 : Int32)) else (0 : Int32))) ∧ Go p e below A0 (T14.setTop (mkF m 279 #[.val (.long q0), .second, .val (.long q1), .second, .val (.int p2), .val (.long q3), .second, .val (.int p4), .val (.long v1), .second, .val (.long v2), .second, .val (.long v3), .second, .val (.int v4), .val (.int v5), .val (.long v6), .second, .val (.int v7), .val (.ref b1), .val (.ref b3), .val (.int (1 : Int32)), .val (.long v8), .second, .val (.long v9), .second, .val (.long v10), .second, .val (.long v11), .second, .val (.int v12), .val (.long v13), .second, .val (.long v14), .second, .val (.long v15), .second, .val (.long v16), .second] [(.int v19)])) := by
        by_cases hc240_16 : v12 = (0 : Int32)
        · have go47 : Go p e below A0 (T14.setTop (mkF m 279 #[.val (.long q0), .second, .val (.long q1), .second, .val (.int p2), .val (.long q3), .second, .val (.int p4), .val (.long v1), .second, .val (.long v2), .second, .val (.long v3), .second, .val (.int v4), .val (.int v5), .val (.long v6), .second, .val (.int v7), .val (.ref b1), .val (.ref b3), .val (.int (1 : Int32)), .val (.long v8), .second, .val (.long v9), .second, .val (.long v10), .second, .val (.long v11), .second, .val (.int v12), .val (.long v13), .second, .val (.long v14), .second, .val (.long v15), .second, .val (.long v16), .second] [(.int (0 : Int32))])) := by
            intro t k
            refine go46 t ?_
            refine o_ifY X14 hx hby at_240 278 rfl (teq hc240_16).1 ?_
            refine o_iconst X14 hx hby at_278 279 rfl (v := (0 : Int32)) rfl ?_
            exact k
          exact ⟨(0 : Int32), (if_pos hc240_16).symm, go47⟩
        · have go48 : Go p e below A0 (T14.setTop (mkF m 254 #[.val (.long q0), .second, .val (.long q1), .second, .val (.int p2), .val (.long q3), .second, .val (.int p4), .val (.long v1), .second, .val (.long v2), .second, .val (.long v3), .second, .val (.int v4), .val (.int v5), .val (.long v6), .second, .val (.int v7), .val (.ref b1), .val (.ref b3), .val (.int (1 : Int32)), .val (.long v8), .second, .val (.long v9), .second, .val (.long v10), .second, .val (.long v11), .second, .val (.int v12), .val (.long v13), .second, .val (.long v14), .second, .val (.long v15), .second, .val (.long v16), .second] [(.int (lcmpW v13 (v6 * ((v7.toInt64) + (1 : Int64)))))])) := by
            intro t k
            refine go46 t ?_
            refine o_ifN X14 hx hby at_240 243 rfl (feq hc240_16).1 ?_
            refine o_lload X14 hx hby at_243 245 rfl rfl ?_
            refine o_lload X14 hx hby at_245 247 rfl rfl ?_
            refine o_iload X14 hx hby at_247 249 rfl rfl ?_
            refine o_i2l X14 hx hby at_249 250 rfl ?_
            refine o_lconst X14 hx hby at_250 251 rfl (v := (1 : Int64)) rfl ?_
            refine o_ladd X14 hx hby at_251 252 rfl ?_
            refine o_lmul X14 hx hby at_252 253 rfl ?_
            refine o_lcmp X14 hx hby at_253 254 rfl ?_
            exact k
          obtain ⟨v18, hv18, go54⟩ : ∃ (v18 : Int32), v18 = (if v13 = (v6 * ((v7.toInt64) + (1 : Int64))) then (if (v14 - v13) = ((v10 + v15) - v2) then (1 : Int32) else (0 : Int32)) else (0 : Int32)) ∧ Go p e below A0 (T14.setTop (mkF m 279 #[.val (.long q0), .second, .val (.long q1), .second, .val (.int p2), .val (.long q3), .second, .val (.int p4), .val (.long v1), .second, .val (.long v2), .second, .val (.long v3), .second, .val (.int v4), .val (.int v5), .val (.long v6), .second, .val (.int v7), .val (.ref b1), .val (.ref b3), .val (.int (1 : Int32)), .val (.long v8), .second, .val (.long v9), .second, .val (.long v10), .second, .val (.long v11), .second, .val (.int v12), .val (.long v13), .second, .val (.long v14), .second, .val (.long v15), .second, .val (.long v16), .second] [(.int v18)])) := by
            by_cases hc254_17 : v13 = (v6 * ((v7.toInt64) + (1 : Int64)))
            · have go49 : Go p e below A0 (T14.setTop (mkF m 271 #[.val (.long q0), .second, .val (.long q1), .second, .val (.int p2), .val (.long q3), .second, .val (.int p4), .val (.long v1), .second, .val (.long v2), .second, .val (.long v3), .second, .val (.int v4), .val (.int v5), .val (.long v6), .second, .val (.int v7), .val (.ref b1), .val (.ref b3), .val (.int (1 : Int32)), .val (.long v8), .second, .val (.long v9), .second, .val (.long v10), .second, .val (.long v11), .second, .val (.int v12), .val (.long v13), .second, .val (.long v14), .second, .val (.long v15), .second, .val (.long v16), .second] [(.int (lcmpW (v14 - v13) ((v10 + v15) - v2)))])) := by
                intro t k
                refine go48 t ?_
                refine o_ifN X14 hx hby at_254 257 rfl (teq ((lw_eq v13 (v6 * ((v7.toInt64) + (1 : Int64)))).mpr hc254_17)).2 ?_
                refine o_lload X14 hx hby at_257 259 rfl rfl ?_
                refine o_lload X14 hx hby at_259 261 rfl rfl ?_
                refine o_lsub X14 hx hby at_261 262 rfl ?_
                refine o_lload X14 hx hby at_262 264 rfl rfl ?_
                refine o_lload X14 hx hby at_264 266 rfl rfl ?_
                refine o_ladd X14 hx hby at_266 267 rfl ?_
                refine o_lload X14 hx hby at_267 269 rfl rfl ?_
                refine o_lsub X14 hx hby at_269 270 rfl ?_
                refine o_lcmp X14 hx hby at_270 271 rfl ?_
                exact k
              obtain ⟨v17, hv17, go52⟩ : ∃ (v17 : Int32), v17 = (if (v14 - v13) = ((v10 + v15) - v2) then (1 : Int32) else (0 : Int32)) ∧ Go p e below A0 (T14.setTop (mkF m 279 #[.val (.long q0), .second, .val (.long q1), .second, .val (.int p2), .val (.long q3), .second, .val (.int p4), .val (.long v1), .second, .val (.long v2), .second, .val (.long v3), .second, .val (.int v4), .val (.int v5), .val (.long v6), .second, .val (.int v7), .val (.ref b1), .val (.ref b3), .val (.int (1 : Int32)), .val (.long v8), .second, .val (.long v9), .second, .val (.long v10), .second, .val (.long v11), .second, .val (.int v12), .val (.long v13), .second, .val (.long v14), .second, .val (.long v15), .second, .val (.long v16), .second] [(.int v17)])) := by
                by_cases hc271_18 : (v14 - v13) = ((v10 + v15) - v2)
                · have go50 : Go p e below A0 (T14.setTop (mkF m 279 #[.val (.long q0), .second, .val (.long q1), .second, .val (.int p2), .val (.long q3), .second, .val (.int p4), .val (.long v1), .second, .val (.long v2), .second, .val (.long v3), .second, .val (.int v4), .val (.int v5), .val (.long v6), .second, .val (.int v7), .val (.ref b1), .val (.ref b3), .val (.int (1 : Int32)), .val (.long v8), .second, .val (.long v9), .second, .val (.long v10), .second, .val (.long v11), .second, .val (.int v12), .val (.long v13), .second, .val (.long v14), .second, .val (.long v15), .second, .val (.long v16), .second] [(.int (1 : Int32))])) := by
                    intro t k
                    refine go49 t ?_
                    refine o_ifN X14 hx hby at_271 274 rfl (teq ((lw_eq (v14 - v13) ((v10 + v15) - v2)).mpr hc271_18)).2 ?_
                    refine o_iconst X14 hx hby at_274 275 rfl (v := (1 : Int32)) rfl ?_
                    refine o_goto X14 hx hby at_275 279 rfl ?_
                    exact k
                  exact ⟨(1 : Int32), (if_pos hc271_18).symm, go50⟩
                · have go51 : Go p e below A0 (T14.setTop (mkF m 279 #[.val (.long q0), .second, .val (.long q1), .second, .val (.int p2), .val (.long q3), .second, .val (.int p4), .val (.long v1), .second, .val (.long v2), .second, .val (.long v3), .second, .val (.int v4), .val (.int v5), .val (.long v6), .second, .val (.int v7), .val (.ref b1), .val (.ref b3), .val (.int (1 : Int32)), .val (.long v8), .second, .val (.long v9), .second, .val (.long v10), .second, .val (.long v11), .second, .val (.int v12), .val (.long v13), .second, .val (.long v14), .second, .val (.long v15), .second, .val (.long v16), .second] [(.int (0 : Int32))])) := by
                    intro t k
                    refine go49 t ?_
                    refine o_ifY X14 hx hby at_271 278 rfl (feq (fun q => hc271_18 ((lw_eq (v14 - v13) ((v10 + v15) - v2)).mp q))).2 ?_
                    refine o_iconst X14 hx hby at_278 279 rfl (v := (0 : Int32)) rfl ?_
                    exact k
                  exact ⟨(0 : Int32), (if_neg hc271_18).symm, go51⟩
              rw [hv17] at go52
              exact ⟨(if (v14 - v13) = ((v10 + v15) - v2) then (1 : Int32) else (0 : Int32)), (if_pos hc254_17).symm, go52⟩
            · have go53 : Go p e below A0 (T14.setTop (mkF m 279 #[.val (.long q0), .second, .val (.long q1), .second, .val (.int p2), .val (.long q3), .second, .val (.int p4), .val (.long v1), .second, .val (.long v2), .second, .val (.long v3), .second, .val (.int v4), .val (.int v5), .val (.long v6), .second, .val (.int v7), .val (.ref b1), .val (.ref b3), .val (.int (1 : Int32)), .val (.long v8), .second, .val (.long v9), .second, .val (.long v10), .second, .val (.long v11), .second, .val (.int v12), .val (.long v13), .second, .val (.long v14), .second, .val (.long v15), .second, .val (.long v16), .second] [(.int (0 : Int32))])) := by
                intro t k
                refine go48 t ?_
                refine o_ifY X14 hx hby at_254 278 rfl (feq (fun q => hc254_17 ((lw_eq v13 (v6 * ((v7.toInt64) + (1 : Int64)))).mp q))).2 ?_
                refine o_iconst X14 hx hby at_278 279 rfl (v := (0 : Int32)) rfl ?_
                exact k
              exact ⟨(0 : Int32), (if_neg hc254_17).symm, go53⟩
          rw [hv18] at go54
          exact ⟨(if v13 = (v6 * ((v7.toInt64) + (1 : Int64))) then (if (v14 - v13) = ((v10 + v15) - v2) then (1 : Int32) else (0 : Int32)) else (0 : Int32)), (if_neg hc240_16).symm, go54⟩
      rw [hv19] at go55
      exact ⟨(if v12 = (0 : Int32) then (0 : Int32) else (if v13 = (v6 * ((v7.toInt64) + (1 : Int64))) then (if (v14 - v13) = ((v10 + v15) - v2) then (1 : Int32) else (0 : Int32)) else (0 : Int32))), (if_pos hc235_15).symm, go55⟩
    · have go56 : Go p e below A0 (T14.setTop (mkF m 279 #[.val (.long q0), .second, .val (.long q1), .second, .val (.int p2), .val (.long q3), .second, .val (.int p4), .val (.long v1), .second, .val (.long v2), .second, .val (.long v3), .second, .val (.int v4), .val (.int v5), .val (.long v6), .second, .val (.int v7), .val (.ref b1), .val (.ref b3), .val (.int (1 : Int32)), .val (.long v8), .second, .val (.long v9), .second, .val (.long v10), .second, .val (.long v11), .second, .val (.int v12), .val (.long v13), .second, .val (.long v14), .second, .val (.long v15), .second, .val (.long v16), .second] [(.int (0 : Int32))])) := by
        intro t k
        refine go45 t ?_
        refine o_ifY X14 hx hby at_235 278 rfl (feq (fun q => hc235_15 ((lw_eq v11 v16).mp q))).2 ?_
        refine o_iconst X14 hx hby at_278 279 rfl (v := (0 : Int32)) rfl ?_
        exact k
      exact ⟨(0 : Int32), (if_neg hc235_15).symm, go56⟩
  have h1 : v20 = (1 : Int32) := pl_0_0 q0 q1 p2 q3 p4 lt lf kt kf tL fL v1 v2 v3 v4 v5 v6 v7 r2_dv r4_n r4_d r5_r v8 v9 v10 v11 v12 v13 v14 v15 v16 v20 hv1 hv2 hv3 hv4 hv5 hv6 hv7 hv8 hv9 hv10 hv11 hv12 hv13 hv14 hv15 hv16 hv20 qf2_3 qf4_26 qf5_21
  rw [h1] at go57
  rw [hA0] at go57
  obtain ⟨fs, hr, hrun, hended, hW, hsame⟩ := X14.leave (v := some (.int (1 : Int32))) (fun h => by rw [Bd.returns] at h; cases h)
  refine ⟨_, _, go57 _ (o_retZ X14 hx Bd.returns (hb hby at_279) (Or.inr rfl) hr), hrun, hended, _, _, rfl, ?_, ⟨_, rfl⟩, hW, hsame.mono (by decide) (by decide)⟩
  show Q0 Z q0 q1 p2 q3 p4 lt lf kt kf tL fL h0 n0 _ T14.heap _
  rw [e14]
  exact ⟨rfl, N14⟩
set_option maxRecDepth 65536 in
set_option maxHeartbeats 40000000 in
theorem comes_1 {Post : Tables → Env → Array Value → State → Outcome → State → Prop} (hpost : ∀ tb e args s v u, (limb_1_1.after args s (.returned v) u = true ∧ limb_1_2.after args s (.returned v) u = true ∧ True) → FrameEnd s (.returned v) u (Jvm.fieldLocs frame_1_writes args s ++ Jvm.arrayLocs frame_1_arrays args s ++ Jvm.staticLocs frame_1_statics s) 16 192 → Post tb e args s (.returned v) u) :
    ArmFor flags0 classFile x code maxLocals ret World_1 tables_1 room_1 Calls_1 rest_1 Pre_1 Post := by
  intro l hfl _ _ p e ha hc hk s m args below hf hA hF happ hP
  obtain ⟨hcalls, hrest, hpre⟩ := hP
  obtain ⟨-, -, -, hnamed, -, -, -, hat⟩ := (Spec.applies_iff hf).mp happ
  obtain ⟨hg, hn⟩ := and_e (Cond.before_iff.mp (show (Jvm.Cond.and given_1 narrow_1).before args s = true from hpre))
  obtain ⟨g1, g2⟩ := and_e hg
  obtain ⟨g3, g4⟩ := and_e g2
  obtain ⟨g5, g6⟩ := and_e g4
  obtain ⟨g7, g8⟩ := and_e g6
  obtain ⟨g9, g10⟩ := and_e g8
  obtain ⟨w0, w1, w2, w3, w4, rfl⟩ : ∃ w0 w1 w2 w3 w4 : Value, args = #[w0, w1, w2, w3, w4] := by
    have hs : args.size = 5 := by simpa [Cond.value, given_1] using g1
    obtain ⟨L⟩ := args
    match L, hs with
    | [w0, w1, w2, w3, w4], _ => exact ⟨w0, w1, w2, w3, w4, rfl⟩
  have hw := fun d (hd : d ∈ tables_1) => atoms_spec (ws := Jvm.Cond.code x code maxLocals ret :: tables_1) hat d (List.mem_cons_of_mem _ hd)
  have hfit : Fit s := fun {y c} hc i hi => by
    obtain ⟨ha, rfl⟩ := Array.getElem?_eq_some_iff.mp hc
    have q := List.all_eq_true.mp ((Array.all_eq_true_iff_forall_mem.mp hF) _ (Array.getElem_mem ha)) i (List.mem_range.mpr hi)
    simpa [Array.getElem?_eq_getElem hi] using q
  obtain ⟨i0, ei0⟩ := isL_v g3
  obtain rfl : w0 = (.long i0) := Option.some.inj ei0
  obtain ⟨i1, ei1⟩ := isL_v g5
  obtain rfl : w1 = (.long i1) := Option.some.inj ei1
  obtain ⟨i2, ei2⟩ := is_v g7
  obtain rfl : w2 = (.int i2) := Option.some.inj ei2
  obtain ⟨i3, ei3⟩ := isL_v g9
  obtain rfl : w3 = (.long i3) := Option.some.inj ei3
  obtain ⟨i4, ei4⟩ := is_v g10
  obtain rfl : w4 = (.int i4) := Option.some.inj ei4
  obtain ⟨m1, n1⟩ := and_e hn
  obtain ⟨m2, n2⟩ := and_e n1
  obtain ⟨m3, n3⟩ := and_e n2
  obtain ⟨m4, n4⟩ := and_e n3
  obtain ⟨m5, n5⟩ := and_e n4
  obtain ⟨m6, n6⟩ := and_e n5
  obtain ⟨m7, n7⟩ := and_e n6
  obtain ⟨m8, n8⟩ := and_e n7
  obtain ⟨m9, n9⟩ := and_e n8
  obtain ⟨m10, n10⟩ := and_e n9
  obtain ⟨m11, n11⟩ := and_e n10
  obtain ⟨m12, n12⟩ := and_e n11
  obtain ⟨m13, n13⟩ := and_e n12
  obtain ⟨m14, n14⟩ := and_e n13
  obtain ⟨m15, n15⟩ := and_e n14
  obtain ⟨m16, n16⟩ := and_e n15
  obtain ⟨m17, n17⟩ := and_e n16
  obtain ⟨m18, n18⟩ := and_e n17
  obtain ⟨m19, n19⟩ := and_e n18
  obtain ⟨m20, n20⟩ := and_e n19
  obtain ⟨m21, n21⟩ := and_e n20
  obtain ⟨m22, n22⟩ := and_e n21
  obtain ⟨m23, n23⟩ := and_e n22
  obtain ⟨m24, n24⟩ := and_e n23
  obtain ⟨m25, n25⟩ := and_e n24
  obtain ⟨m26, n26⟩ := and_e n25
  obtain ⟨m27, n27⟩ := and_e n26
  obtain ⟨m28, n28⟩ := and_e n27
  obtain ⟨m29, n29⟩ := and_e n28
  obtain ⟨m30, n30⟩ := and_e n29
  obtain ⟨m31, n31⟩ := and_e n30
  obtain ⟨m32, n32⟩ := and_e n31
  obtain ⟨m33, n33⟩ := and_e n32
  obtain ⟨m34, n34⟩ := and_e n33
  obtain ⟨m35, n35⟩ := and_e n34
  obtain ⟨m36, n36⟩ := and_e n35
  obtain ⟨m37, n37⟩ := and_e n36
  obtain ⟨m38, n38⟩ := and_e n37
  obtain ⟨m39, n39⟩ := and_e n38
  obtain ⟨m40, n40⟩ := and_e n39
  obtain ⟨m41, n41⟩ := and_e n40
  obtain ⟨lt, elt⟩ := arr_v m1
  have hSt := Sta.start elt (Or.inr ⟨(hw _ (List.mem_of_getElem? (i := 30) rfl)), (hw _ (List.mem_of_getElem? (i := 33) rfl))⟩)
  obtain ⟨ct, Act⟩ := Arr.start elt m1
  have hlt := eqv_i (Term.int_eval 19) m2
  obtain ⟨t1, t2⟩ := own_len elt (Act.fin (Vm.Alike.refl _)) hlt
  have tq0 : ct.slots[0]? = some (.long (1 : Int64)) := (elem_in (eqv_l (y := 1) rfl m5) elt (Term.int_eval 0) Act.1).2
  have tq1 : ct.slots[1]? = some (.long (10 : Int64)) := (elem_in (eqv_l (y := 10) rfl m6) elt (Term.int_eval 1) Act.1).2
  have tq2 : ct.slots[2]? = some (.long (100 : Int64)) := (elem_in (eqv_l (y := 100) rfl m7) elt (Term.int_eval 2) Act.1).2
  have tq3 : ct.slots[3]? = some (.long (1000 : Int64)) := (elem_in (eqv_l (y := 1000) rfl m8) elt (Term.int_eval 3) Act.1).2
  have tq4 : ct.slots[4]? = some (.long (10000 : Int64)) := (elem_in (eqv_l (y := 10000) rfl m9) elt (Term.int_eval 4) Act.1).2
  have tq5 : ct.slots[5]? = some (.long (100000 : Int64)) := (elem_in (eqv_l (y := 100000) rfl m10) elt (Term.int_eval 5) Act.1).2
  have tq6 : ct.slots[6]? = some (.long (1000000 : Int64)) := (elem_in (eqv_l (y := 1000000) rfl m11) elt (Term.int_eval 6) Act.1).2
  have tq7 : ct.slots[7]? = some (.long (10000000 : Int64)) := (elem_in (eqv_l (y := 10000000) rfl m12) elt (Term.int_eval 7) Act.1).2
  have tq8 : ct.slots[8]? = some (.long (100000000 : Int64)) := (elem_in (eqv_l (y := 100000000) rfl m13) elt (Term.int_eval 8) Act.1).2
  have tq9 : ct.slots[9]? = some (.long (1000000000 : Int64)) := (elem_in (eqv_l (y := 1000000000) rfl m14) elt (Term.int_eval 9) Act.1).2
  have tq10 : ct.slots[10]? = some (.long (10000000000 : Int64)) := (elem_in (eqv_l (y := 10000000000) rfl m15) elt (Term.int_eval 10) Act.1).2
  have tq11 : ct.slots[11]? = some (.long (100000000000 : Int64)) := (elem_in (eqv_l (y := 100000000000) rfl m16) elt (Term.int_eval 11) Act.1).2
  have tq12 : ct.slots[12]? = some (.long (1000000000000 : Int64)) := (elem_in (eqv_l (y := 1000000000000) rfl m17) elt (Term.int_eval 12) Act.1).2
  have tq13 : ct.slots[13]? = some (.long (10000000000000 : Int64)) := (elem_in (eqv_l (y := 10000000000000) rfl m18) elt (Term.int_eval 13) Act.1).2
  have tq14 : ct.slots[14]? = some (.long (100000000000000 : Int64)) := (elem_in (eqv_l (y := 100000000000000) rfl m19) elt (Term.int_eval 14) Act.1).2
  have tq15 : ct.slots[15]? = some (.long (1000000000000000 : Int64)) := (elem_in (eqv_l (y := 1000000000000000) rfl m20) elt (Term.int_eval 15) Act.1).2
  have tq16 : ct.slots[16]? = some (.long (10000000000000000 : Int64)) := (elem_in (eqv_l (y := 10000000000000000) rfl m21) elt (Term.int_eval 16) Act.1).2
  have tq17 : ct.slots[17]? = some (.long (100000000000000000 : Int64)) := (elem_in (eqv_l (y := 100000000000000000) rfl m22) elt (Term.int_eval 17) Act.1).2
  have tq18 : ct.slots[18]? = some (.long (1000000000000000000 : Int64)) := (elem_in (eqv_l (y := 1000000000000000000) rfl m23) elt (Term.int_eval 18) Act.1).2
  have hAt := Arv.start (dv := .long (0 : Int64)) (vs := [(.long (1 : Int64)), (.long (10 : Int64)), (.long (100 : Int64)), (.long (1000 : Int64)), (.long (10000 : Int64)), (.long (100000 : Int64)), (.long (1000000 : Int64)), (.long (10000000 : Int64)), (.long (100000000 : Int64)), (.long (1000000000 : Int64)), (.long (10000000000 : Int64)), (.long (100000000000 : Int64)), (.long (1000000000000 : Int64)), (.long (10000000000000 : Int64)), (.long (100000000000000 : Int64)), (.long (1000000000000000 : Int64)), (.long (10000000000000000 : Int64)), (.long (100000000000000000 : Int64)), (.long (1000000000000000000 : Int64))]) hfit Act t1 t2 (by decide) (by decide) ⟨tq0, tq1, tq2, tq3, tq4, tq5, tq6, tq7, tq8, tq9, tq10, tq11, tq12, tq13, tq14, tq15, tq16, tq17, tq18, trivial⟩
  obtain ⟨lf, elf⟩ := arr_v m3
  have hSf := Sta.start elf (Or.inr ⟨(hw _ (List.mem_of_getElem? (i := 30) rfl)), (hw _ (List.mem_of_getElem? (i := 35) rfl))⟩)
  obtain ⟨cf, Acf⟩ := Arr.start elf m3
  have hlf := eqv_i (Term.int_eval 19) m4
  obtain ⟨f1, f2⟩ := own_len elf (Acf.fin (Vm.Alike.refl _)) hlf
  have fq0 : cf.slots[0]? = some (.long (9223372036854775807 : Int64)) := (elem_in (eqv_l (y := 9223372036854775807) rfl m24) elf (Term.int_eval 0) Acf.1).2
  have fq1 : cf.slots[1]? = some (.long (922337203685477580 : Int64)) := (elem_in (eqv_l (y := 922337203685477580) rfl m25) elf (Term.int_eval 1) Acf.1).2
  have fq2 : cf.slots[2]? = some (.long (92233720368547758 : Int64)) := (elem_in (eqv_l (y := 92233720368547758) rfl m26) elf (Term.int_eval 2) Acf.1).2
  have fq3 : cf.slots[3]? = some (.long (9223372036854775 : Int64)) := (elem_in (eqv_l (y := 9223372036854775) rfl m27) elf (Term.int_eval 3) Acf.1).2
  have fq4 : cf.slots[4]? = some (.long (922337203685477 : Int64)) := (elem_in (eqv_l (y := 922337203685477) rfl m28) elf (Term.int_eval 4) Acf.1).2
  have fq5 : cf.slots[5]? = some (.long (92233720368547 : Int64)) := (elem_in (eqv_l (y := 92233720368547) rfl m29) elf (Term.int_eval 5) Acf.1).2
  have fq6 : cf.slots[6]? = some (.long (9223372036854 : Int64)) := (elem_in (eqv_l (y := 9223372036854) rfl m30) elf (Term.int_eval 6) Acf.1).2
  have fq7 : cf.slots[7]? = some (.long (922337203685 : Int64)) := (elem_in (eqv_l (y := 922337203685) rfl m31) elf (Term.int_eval 7) Acf.1).2
  have fq8 : cf.slots[8]? = some (.long (92233720368 : Int64)) := (elem_in (eqv_l (y := 92233720368) rfl m32) elf (Term.int_eval 8) Acf.1).2
  have fq9 : cf.slots[9]? = some (.long (9223372036 : Int64)) := (elem_in (eqv_l (y := 9223372036) rfl m33) elf (Term.int_eval 9) Acf.1).2
  have fq10 : cf.slots[10]? = some (.long (922337203 : Int64)) := (elem_in (eqv_l (y := 922337203) rfl m34) elf (Term.int_eval 10) Acf.1).2
  have fq11 : cf.slots[11]? = some (.long (92233720 : Int64)) := (elem_in (eqv_l (y := 92233720) rfl m35) elf (Term.int_eval 11) Acf.1).2
  have fq12 : cf.slots[12]? = some (.long (9223372 : Int64)) := (elem_in (eqv_l (y := 9223372) rfl m36) elf (Term.int_eval 12) Acf.1).2
  have fq13 : cf.slots[13]? = some (.long (922337 : Int64)) := (elem_in (eqv_l (y := 922337) rfl m37) elf (Term.int_eval 13) Acf.1).2
  have fq14 : cf.slots[14]? = some (.long (92233 : Int64)) := (elem_in (eqv_l (y := 92233) rfl m38) elf (Term.int_eval 14) Acf.1).2
  have fq15 : cf.slots[15]? = some (.long (9223 : Int64)) := (elem_in (eqv_l (y := 9223) rfl m39) elf (Term.int_eval 15) Acf.1).2
  have fq16 : cf.slots[16]? = some (.long (922 : Int64)) := (elem_in (eqv_l (y := 922) rfl m40) elf (Term.int_eval 16) Acf.1).2
  have fq17 : cf.slots[17]? = some (.long (92 : Int64)) := (elem_in (eqv_l (y := 92) rfl m41) elf (Term.int_eval 17) Acf.1).2
  have fq18 : cf.slots[18]? = some (.long (9 : Int64)) := (elem_in (eqv_l (y := 9) rfl n41) elf (Term.int_eval 18) Acf.1).2
  have hAf := Arv.start (dv := .long (0 : Int64)) (vs := [(.long (9223372036854775807 : Int64)), (.long (922337203685477580 : Int64)), (.long (92233720368547758 : Int64)), (.long (9223372036854775 : Int64)), (.long (922337203685477 : Int64)), (.long (92233720368547 : Int64)), (.long (9223372036854 : Int64)), (.long (922337203685 : Int64)), (.long (92233720368 : Int64)), (.long (9223372036 : Int64)), (.long (922337203 : Int64)), (.long (92233720 : Int64)), (.long (9223372 : Int64)), (.long (922337 : Int64)), (.long (92233 : Int64)), (.long (9223 : Int64)), (.long (922 : Int64)), (.long (92 : Int64)), (.long (9 : Int64))]) hfit Acf f1 f2 (by decide) (by decide) ⟨fq0, fq1, fq2, fq3, fq4, fq5, fq6, fq7, fq8, fq9, fq10, fq11, fq12, fq13, fq14, fq15, fq16, fq17, fq18, trivial⟩
  obtain ⟨n, o, h1, h2, h3, _, L, rfl, ⟨rfl, N⟩, hq⟩ := rm0 l s _ hw tables_1 i0 i1 i2 i3 i4 lt lf ct.cls cf.cls [(.long (1 : Int64)), (.long (10 : Int64)), (.long (100 : Int64)), (.long (1000 : Int64)), (.long (10000 : Int64)), (.long (100000 : Int64)), (.long (1000000 : Int64)), (.long (10000000 : Int64)), (.long (100000000 : Int64)), (.long (1000000000 : Int64)), (.long (10000000000 : Int64)), (.long (100000000000 : Int64)), (.long (1000000000000 : Int64)), (.long (10000000000000 : Int64)), (.long (100000000000000 : Int64)), (.long (1000000000000000 : Int64)), (.long (10000000000000000 : Int64)), (.long (100000000000000000 : Int64)), (.long (1000000000000000000 : Int64))] [(.long (9223372036854775807 : Int64)), (.long (922337203685477580 : Int64)), (.long (92233720368547758 : Int64)), (.long (9223372036854775 : Int64)), (.long (922337203685477 : Int64)), (.long (92233720368547 : Int64)), (.long (9223372036854 : Int64)), (.long (922337203685 : Int64)), (.long (92233720368 : Int64)), (.long (9223372036 : Int64)), (.long (922337203 : Int64)), (.long (92233720 : Int64)), (.long (9223372 : Int64)), (.long (922337 : Int64)), (.long (92233 : Int64)), (.long (9223 : Int64)), (.long (922 : Int64)), (.long (92 : Int64)), (.long (9 : Int64))] s.heap s.heap.size (Nat.le_refl _) hSt hSf (Old.start s) hAt hAf own_Tlit own_Flit p e ha hc hk s m _ below hf ((Spec.applies_iff_loose hf).mp happ).1 ⟨rfl, State.Warmed39.refl s, rfl⟩ trivial
  refine ⟨n, _, h1, h2, h3, hpost _ _ _ _ _ _ ⟨Cond.after_iff.mpr rfl, Cond.after_iff.mpr (eq_i res_at (Term.int_eval (1)) rfl), trivial⟩ ⟨hq.1, hq.2.1, (hq.2.2.sift fun y hy => Or.inr (N y hy)).mono (by decide) (by decide)⟩⟩
theorem main_1_1 : Claimed_1_1 := comes_1 fun _ _ _ _ _ _ h hF => ⟨h.1, hF⟩
theorem main_1_2 : Claimed_1_2 := comes_1 fun _ _ _ _ _ _ h hF => ⟨h.2.1, hF⟩
end Jvm.Pilot.@@N@@
namespace Jvm.Pilot.@@N@@
open Jvm Jvm.ClassFile Sem Op Lib Jvm.Free Jvm.Stand Jvm.Pilot.@@N@@.Jvm.D
/-! MADE BY PROGRAM (witnessworld.py) out of the Statement's table words and the real class files: 20 classes; the members and pool entries that the words name. The judged class is class 1, her method 1. -/
namespace start1
open Jvm.ClassFile
def u (s : String) : CpInfo := .utf8 (stringToUtf16 s)
/-- a pool by its gaps: so many unusable entries, then the entry; so many at the end -/
def gap : Nat → List CpInfo → List CpInfo
  | 0, r => r
  | n + 1, r => .unusable :: gap n r
def poolList (es : List (Nat × CpInfo)) (last : Nat) : List CpInfo := es.foldr (fun e r => gap e.1 (e.2 :: r)) (gap last [])
def pool (es : List (Nat × CpInfo)) (last : Nat) : Array CpInfo := ⟨poolList es last⟩
def fileOf (pool : Array CpInfo) (this : Nat) (attrs : Array Attribute := #[]) (ms : Array MethodInfo := #[]) (fl : Nat := 33) (sup : Nat := 0) (ifs : Array Nat := #[]) (fds : Array FieldInfo := #[]) : ClassFile where
  minorVersion := 0
  majorVersion := 65
  constantPool := pool
  accessFlags := fl
  thisClass := this
  superClass := sup
  interfaces := ifs
  fields := fds
  methods := ms
  attributes := attrs
def plain (name : String) (sup : Option ClassId) : Class where
  name := name
  kind := .ordinary
  loader := none
  accessFlags := 33
  super := sup
  interfaces := #[]
  cf := none
  fields := #[]
  methods := #[]
  instanceTypes := #[]
  staticTypes := #[]
  resolved := #[]
  callSites := []
  init := .initialized
  statics := none
  mirror := none

def pool0 : Array CpInfo := pool [(5, u "<init>"), (0, u "()V"), (1, .class_ 10), (1, u "java/lang/Object")] 113

def k0c0 : Code := { maxStack := 0, maxLocals := 1, code := object_method_1_code, exceptionTable := #[], attributes := #[] }
def k0m0 : Method := { name := "<init>", desc := "()V", sig := { parameters := [], returnType := none }, accessFlags := 1, code := some k0c0 }
/-- java/lang/Object -/
def k0 : Class := { plain "java/lang/Object" none with
  accessFlags := 33
  interfaces := #[]
  cf := some (fileOf pool0 8 #[] #[{ accessFlags := 1, nameIndex := 5, descriptorIndex := 6, attributes := #[] }] 33 0 #[] #[])
  fields := #[]
  methods := #[k0m0]
  instanceTypes := #[]
  staticTypes := #[]
  resolved := Array.replicate 124 none
  statics := none }

def pool1 : Array CpInfo := pool [(2, .class_ 4), (1, u "java/lang/Object"), (0, u "<init>"), (0, u "()V"), (0, .long 120000), (1, .long 68719476735), (1, .long 4294967295), (1, .integer 65535), (0, .class_ 15), (0, u "com/example/amortine/amortine/PeriodRate"), (0, .methodref 14 17), (0, .nameAndType 5 18), (0, u "(JII)V"), (0, .class_ 20), (0, u "com/example/amortine/amortine/CentAmounts"), (0, .methodref 19 22), (0, .nameAndType 5 23), (0, u "(JIJIILcom/example/amortine/amortine/PeriodRate;)V"), (0, .methodref 19 25), (0, .nameAndType 26 27), (0, u "payInTurn"), (0, u "(JIIZ)I"), (0, .methodref 19 29), (0, .nameAndType 30 31), (0, u "closingCents"), (0, u "()J"), (0, .methodref 19 33), (0, .nameAndType 34 35), (0, u "repeat"), (0, u "(I)V"), (0, .methodref 19 37), (0, .nameAndType 38 39), (0, u "steady"), (0, u "()Z"), (0, .methodref 19 41), (0, .nameAndType 42 6), (0, u "tally"), (0, .methodref 19 44), (0, .nameAndType 45 31), (0, u "talliedCents"), (0, .methodref 19 47), (0, .nameAndType 48 6), (0, u "settle"), (0, .class_ 50), (0, u "com/example/amortine/amortine/CentAmountsRepeatPinLaw"), (2, u "law"), (0, u "(JJIJI)Z")] 3

def k1m0 : Method := { name := "<init>", desc := "()V", sig := { parameters := [], returnType := none }, accessFlags := 1, code := none }
def k1c1 : Code := { maxStack := 10, maxLocals := 39, code := code, exceptionTable := #[], attributes := #[] }
def k1m1 : Method := { name := "law", desc := "(JJIJI)Z", sig := { parameters := [.long, .long, .int, .long, .int], returnType := some .boolean }, accessFlags := 9, code := some k1c1 }
/-- com/example/amortine/amortine/CentAmountsRepeatPinLaw -/
def k1 : Class := { plain "com/example/amortine/amortine/CentAmountsRepeatPinLaw" (some 0) with
  accessFlags := 49
  interfaces := #[]
  cf := some (fileOf pool1 49 #[] #[{ accessFlags := 1, nameIndex := 5, descriptorIndex := 6, attributes := #[] }, { accessFlags := 9, nameIndex := 53, descriptorIndex := 54, attributes := #[] }] 49 2 #[] #[])
  fields := #[]
  methods := #[k1m0, k1m1]
  instanceTypes := #[]
  staticTypes := #[]
  resolved := Array.replicate 58 none
  statics := none }

def pool2 : Array CpInfo := pool [(1, .class_ 2), (0, u "com/example/amortine/amortine/PeriodRate"), (0, .methodref 4 5), (0, .class_ 6), (0, .nameAndType 7 8), (0, u "java/lang/Object"), (0, u "<init>"), (0, u "()V"), (2, u "rate"), (0, u "Ljava/math/BigDecimal;"), (0, .methodref 1 14), (0, .nameAndType 15 16), (0, u "wholeDivisor"), (0, u "(I)J"), (0, .fieldref 1 18), (0, .nameAndType 15 19), (0, u "J"), (0, .fieldref 1 21), (0, .nameAndType 22 19), (0, u "rateDigits"), (0, .fieldref 1 24), (0, .nameAndType 25 26), (0, u "rateDecimals"), (0, u "I"), (0, .fieldref 1 28), (0, .nameAndType 29 30), (0, u "wholeTermsAsked"), (0, u "Z"), (0, .methodref 1 32), (0, .nameAndType 33 34), (0, u "termsDivisor"), (0, u "(JJI)J"), (0, .fieldref 1 36), (0, .nameAndType 37 38), (0, u "wholeTerms"), (0, u "[J"), (0, .long 100), (29, u "divisor"), (13, .class_ 85), (1, u "com/example/amortine/amortine/Decimals"), (26, .methodref 1 113), (0, .nameAndType 37 114), (0, u "()[J"), (8, .methodref 83 124), (0, .nameAndType 125 126), (0, u "gcd"), (0, u "(JJ)J"), (19, .methodref 83 147), (0, .nameAndType 148 149), (0, u "timesTenTo"), (0, u "(JI)J"), (0, .long 18446744073709551615), (17, u "LEAST_COMPOUNDED"), (204, u "ROUGHLY_UP"), (0, u "Ljava/math/MathContext;"), (3, u "FIRST_DIGITS"), (2, u "LIMB"), (1, u "LIMB_MASK"), (0, u "LONG_BITS"), (1, u "MOST_DIGITS"), (3, u "(JII)V"), (8, u "perPeriodInLongs")] 55

def k2c0 : Code := { maxStack := 6, maxLocals := 7, code := prog_60_method_2_code, exceptionTable := #[], attributes := #[] }
def k2m0 : Method := { name := "<init>", desc := "(JII)V", sig := { parameters := [.long, .int, .int], returnType := none }, accessFlags := 0, code := some k2c0 }
def k2c1 : Code := { maxStack := 4, maxLocals := 1, code := prog_60_method_3_code, exceptionTable := #[], attributes := #[] }
def k2m1 : Method := { name := "wholeDivisor", desc := "(I)J", sig := { parameters := [.int], returnType := some .long }, accessFlags := 8, code := some k2c1 }
def k2c2 : Code := { maxStack := 7, maxLocals := 5, code := prog_60_method_14_code, exceptionTable := #[], attributes := #[] }
def k2m2 : Method := { name := "perPeriodInLongs", desc := "()[J", sig := { parameters := [], returnType := some (.array .long) }, accessFlags := 0, code := some k2c2 }
def k2c3 : Code := { maxStack := 6, maxLocals := 2, code := prog_60_method_15_code, exceptionTable := #[{ startPc := 32, endPc := 57, handlerPc := 60, catchType := 107 }], attributes := #[] }
def k2m3 : Method := { name := "wholeTerms", desc := "()[J", sig := { parameters := [], returnType := some (.array .long) }, accessFlags := 0, code := some k2c3 }
def k2c4 : Code := { maxStack := 4, maxLocals := 8, code := prog_60_method_17_code, exceptionTable := #[{ startPc := 0, endPc := 8, handlerPc := 11, catchType := 107 }], attributes := #[] }
def k2m4 : Method := { name := "termsDivisor", desc := "(JJI)J", sig := { parameters := [.long, .long, .int], returnType := some .long }, accessFlags := 8, code := some k2c4 }
/-- com/example/amortine/amortine/PeriodRate -/
def k2 : Class := { plain "com/example/amortine/amortine/PeriodRate" (some 0) with
  accessFlags := 48
  interfaces := #[]
  cf := some (fileOf pool2 1 #[] #[{ accessFlags := 0, nameIndex := 7, descriptorIndex := 390, attributes := #[] }, { accessFlags := 8, nameIndex := 15, descriptorIndex := 16, attributes := #[] }, { accessFlags := 0, nameIndex := 399, descriptorIndex := 114, attributes := #[] }, { accessFlags := 0, nameIndex := 37, descriptorIndex := 114, attributes := #[] }, { accessFlags := 8, nameIndex := 33, descriptorIndex := 34, attributes := #[] }] 48 4 #[] #[{ accessFlags := 24, nameIndex := 373, descriptorIndex := 374, attributes := #[] }, { accessFlags := 26, nameIndex := 378, descriptorIndex := 26, attributes := #[] }, { accessFlags := 24, nameIndex := 381, descriptorIndex := 26, attributes := #[] }, { accessFlags := 26, nameIndex := 383, descriptorIndex := 19, attributes := #[] }, { accessFlags := 24, nameIndex := 384, descriptorIndex := 26, attributes := #[] }, { accessFlags := 26, nameIndex := 386, descriptorIndex := 26, attributes := #[] }, { accessFlags := 26, nameIndex := 168, descriptorIndex := 12, attributes := #[] }, { accessFlags := 2, nameIndex := 11, descriptorIndex := 12, attributes := #[] }, { accessFlags := 2, nameIndex := 69, descriptorIndex := 12, attributes := #[] }, { accessFlags := 18, nameIndex := 22, descriptorIndex := 19, attributes := #[] }, { accessFlags := 18, nameIndex := 25, descriptorIndex := 26, attributes := #[] }, { accessFlags := 18, nameIndex := 15, descriptorIndex := 19, attributes := #[] }, { accessFlags := 2, nameIndex := 37, descriptorIndex := 38, attributes := #[] }, { accessFlags := 2, nameIndex := 29, descriptorIndex := 30, attributes := #[] }])
  fields := #[{ name := "ROUGHLY_UP", type := (.object "java/math/MathContext"), accessFlags := 24, slot := 0, constantValue := 0 }, { name := "FIRST_DIGITS", type := .int, accessFlags := 26, slot := 1, constantValue := 0 }, { name := "LIMB", type := .int, accessFlags := 24, slot := 2, constantValue := 0 }, { name := "LIMB_MASK", type := .long, accessFlags := 26, slot := 3, constantValue := 0 }, { name := "LONG_BITS", type := .int, accessFlags := 24, slot := 4, constantValue := 0 }, { name := "MOST_DIGITS", type := .int, accessFlags := 26, slot := 5, constantValue := 0 }, { name := "LEAST_COMPOUNDED", type := (.object "java/math/BigDecimal"), accessFlags := 26, slot := 6, constantValue := 0 }, { name := "rate", type := (.object "java/math/BigDecimal"), accessFlags := 2, slot := 0, constantValue := 0 }, { name := "divisor", type := (.object "java/math/BigDecimal"), accessFlags := 2, slot := 1, constantValue := 0 }, { name := "rateDigits", type := .long, accessFlags := 18, slot := 2, constantValue := 0 }, { name := "rateDecimals", type := .int, accessFlags := 18, slot := 3, constantValue := 0 }, { name := "wholeDivisor", type := .long, accessFlags := 18, slot := 4, constantValue := 0 }, { name := "wholeTerms", type := (.array .long), accessFlags := 2, slot := 5, constantValue := 0 }, { name := "wholeTermsAsked", type := .boolean, accessFlags := 2, slot := 6, constantValue := 0 }]
  methods := #[k2m0, k2m1, k2m2, k2m3, k2m4]
  instanceTypes := #[(.object "java/math/BigDecimal"), (.object "java/math/BigDecimal"), .long, .int, .long, (.array .long), .boolean]
  staticTypes := #[(.object "java/math/MathContext"), .int, .int, .long, .int, .int, (.object "java/math/BigDecimal")]
  resolved := Array.replicate 455 none
  statics := none }

def pool3 : Array CpInfo := pool [(2, .class_ 4), (1, u "java/lang/Object"), (0, u "<init>"), (0, u "()V"), (1, .class_ 10), (1, u "com/example/amortine/amortine/Decimals$Tens"), (26, .fieldref 38 39), (0, .class_ 40), (0, .nameAndType 41 42), (0, u "com/example/amortine/amortine/Decimals"), (0, u "LONG_TENS"), (0, u "[J"), (0, .fieldref 38 44), (0, .nameAndType 45 42), (0, u "LONG_FACTORS"), (33, u "(JJ)J"), (14, u "gcd"), (12, u "timesTenTo"), (0, u "(JI)J")] 80

def k3m0 : Method := { name := "<init>", desc := "()V", sig := { parameters := [], returnType := none }, accessFlags := 2, code := none }
def k3c1 : Code := { maxStack := 4, maxLocals := 3, code := prog_19_method_4_code, exceptionTable := #[], attributes := #[] }
def k3m1 : Method := { name := "timesTenTo", desc := "(JI)J", sig := { parameters := [.long, .int], returnType := some .long }, accessFlags := 8, code := some k3c1 }
def k3c2 : Code := { maxStack := 4, maxLocals := 10, code := prog_19_method_13_code, exceptionTable := #[], attributes := #[] }
def k3m2 : Method := { name := "gcd", desc := "(JJ)J", sig := { parameters := [.long, .long], returnType := some .long }, accessFlags := 8, code := some k3c2 }
/-- com/example/amortine/amortine/Decimals -/
def k3 : Class := { plain "com/example/amortine/amortine/Decimals" (some 0) with
  accessFlags := 48
  interfaces := #[]
  cf := some (fileOf pool3 38 #[.nestMembers #[8]] #[{ accessFlags := 2, nameIndex := 5, descriptorIndex := 6, attributes := #[] }, { accessFlags := 8, nameIndex := 107, descriptorIndex := 108, attributes := #[] }, { accessFlags := 8, nameIndex := 94, descriptorIndex := 79, attributes := #[] }] 48 2 #[] #[{ accessFlags := 26, nameIndex := 41, descriptorIndex := 42, attributes := #[] }, { accessFlags := 26, nameIndex := 45, descriptorIndex := 42, attributes := #[] }])
  fields := #[{ name := "LONG_TENS", type := (.array .long), accessFlags := 26, slot := 0, constantValue := 0 }, { name := "LONG_FACTORS", type := (.array .long), accessFlags := 26, slot := 1, constantValue := 0 }]
  methods := #[k3m0, k3m1, k3m2]
  instanceTypes := #[]
  staticTypes := #[(.array .long), (.array .long)]
  resolved := Array.replicate 189 none
  statics := some 0 }

def pool4 : Array CpInfo := pool [(9, .class_ 10), (0, u "com/example/amortine/amortine/Amounts"), (0, .class_ 12), (0, u "java/lang/Object"), (10, u "reaches"), (1, u "(II)Z")] 22

def k4c0 : Code := { maxStack := 2, maxLocals := 2, code := prog_3_method_7_code, exceptionTable := #[], attributes := #[] }
def k4m0 : Method := { name := "reaches", desc := "(II)Z", sig := { parameters := [.int, .int], returnType := some .boolean }, accessFlags := 9, code := some k4c0 }
/-- com/example/amortine/amortine/Amounts -/
def k4 : Class := { plain "com/example/amortine/amortine/Amounts" (some 0) with
  accessFlags := 1536
  interfaces := #[]
  cf := some (fileOf pool4 9 #[] #[{ accessFlags := 9, nameIndex := 23, descriptorIndex := 25, attributes := #[] }] 1536 11 #[] #[])
  fields := #[]
  methods := #[k4m0]
  instanceTypes := #[]
  staticTypes := #[]
  resolved := Array.replicate 48 none
  statics := none }

def pool5 : Array CpInfo := pool [(1, .class_ 2), (0, u "com/example/amortine/amortine/PeriodRate"), (4, u "rate"), (3, u "perYear"), (3, u "<init>"), (2, .class_ 20), (1, u "com/example/amortine/amortine/CentAmounts"), (6, u "balloon"), (14, u "(JIJIILcom/example/amortine/amortine/PeriodRate;)V"), (0, .methodref 44 45), (0, .class_ 46), (0, .nameAndType 15 47), (0, u "java/lang/Object"), (0, u "()V"), (0, .fieldref 18 49), (0, .nameAndType 11 50), (0, u "I"), (0, .fieldref 18 52), (0, .nameAndType 27 53), (0, u "J"), (0, .fieldref 18 55), (0, .nameAndType 56 50), (0, u "balloonScale"), (0, .fieldref 18 58), (0, .nameAndType 59 53), (0, u "closing"), (0, .fieldref 18 61), (0, .nameAndType 62 50), (0, u "closingScale"), (0, .methodref 18 64), (0, .nameAndType 7 65), (0, u "(Lcom/example/amortine/amortine/PeriodRate;)V"), (0, .fieldref 18 67), (0, .nameAndType 7 68), (0, u "Lcom/example/amortine/amortine/PeriodRate;"), (0, .methodref 1 70), (0, .nameAndType 71 72), (0, u "perPeriodInLongs"), (0, u "()[J"), (0, .fieldref 18 74), (0, .nameAndType 75 53), (0, u "perPeriodNumerator"), (0, .fieldref 18 77), (0, .nameAndType 78 53), (0, u "perPeriodDenominator"), (0, .long 18446744073709551615), (1, .methodref 82 83), (0, .class_ 84), (0, .nameAndType 85 86), (0, u "java/lang/Long"), (0, u "divideUnsigned"), (0, u "(JJ)J"), (0, .fieldref 18 88), (0, .nameAndType 89 53), (0, u "reciprocal"), (0, .fieldref 18 91), (0, .nameAndType 92 53), (0, u "exactUpTo"), (0, .long 9223372036854775807), (1, .fieldref 18 96), (0, .nameAndType 97 53), (0, u "opening"), (0, .fieldref 18 99), (0, .nameAndType 100 50), (0, u "openingScale"), (0, .fieldref 18 102), (0, .nameAndType 103 53), (0, u "interest"), (0, .fieldref 18 105), (0, .nameAndType 106 53), (0, u "owedBefore"), (0, .methodref 18 108), (0, .nameAndType 109 110), (0, u "interestOn"), (0, u "(J)J"), (0, .fieldref 18 112), (0, .nameAndType 113 53), (0, u "raised"), (0, .fieldref 18 115), (0, .nameAndType 116 50), (0, u "raisedScale"), (12, .methodref 130 131), (0, .class_ 132), (0, .nameAndType 133 134), (0, u "java/lang/Math"), (0, u "max"), (0, u "(II)I"), (0, .methodref 130 136), (0, .nameAndType 137 86), (0, u "multiplyHigh"), (13, .fieldref 18 152), (0, .nameAndType 153 53), (0, u "payment"), (0, .fieldref 18 155), (0, .nameAndType 156 50), (0, u "paymentScale"), (0, .fieldref 18 158), (0, .nameAndType 159 53), (0, u "principal"), (0, .fieldref 18 161), (0, .nameAndType 162 50), (0, u "principalScale"), (0, .fieldref 18 164), (0, .nameAndType 165 53), (0, u "madePaid"), (0, .fieldref 18 167), (0, .nameAndType 168 50), (0, u "madeScale"), (0, .fieldref 18 170), (0, .nameAndType 171 172), (0, u "settled"), (0, u "Z"), (2, u "payInTurn"), (0, u "(JIIZ)I"), (0, .methodref 82 178), (0, .nameAndType 179 180), (0, u "signum"), (0, u "(J)I"), (0, .interfaceMethodref 182 183), (0, .class_ 184), (0, .nameAndType 185 186), (0, u "com/example/amortine/amortine/Amounts"), (0, u "reaches"), (0, u "(II)Z"), (0, .methodref 18 188), (0, .nameAndType 189 47), (0, u "settle"), (5, .fieldref 18 196), (0, .nameAndType 197 53), (0, u "tallied"), (0, .fieldref 18 199), (0, .nameAndType 200 53), (0, u "indexation"), (15, .fieldref 18 217), (0, .nameAndType 218 50), (0, u "talliedScale"), (0, .fieldref 18 220), (0, .nameAndType 221 50), (0, u "indexationScale"), (2, u "given"), (0, u "Ljava/math/BigDecimal;"), (2, u "givenCents"), (7, u "()J"), (17, u "talliedCents"), (0, u "closingCents"), (0, u "()Z"), (1, u "steady"), (2, u "repeat"), (0, u "(I)V"), (0, u "tally")] 6

def k5c0 : Code := { maxStack := 3, maxLocals := 9, code := prog_12_method_4_code, exceptionTable := #[], attributes := #[] }
def k5m0 : Method := { name := "<init>", desc := "(JIJIILcom/example/amortine/amortine/PeriodRate;)V", sig := { parameters := [.long, .int, .long, .int, .int, (.object "com/example/amortine/amortine/PeriodRate")], returnType := none }, accessFlags := 0, code := some k5c0 }
def k5c1 : Code := { maxStack := 5, maxLocals := 3, code := prog_12_method_6_code, exceptionTable := #[], attributes := #[] }
def k5m1 : Method := { name := "rate", desc := "(Lcom/example/amortine/amortine/PeriodRate;)V", sig := { parameters := [(.object "com/example/amortine/amortine/PeriodRate")], returnType := none }, accessFlags := 2, code := some k5c1 }
def k5c2 : Code := { maxStack := 6, maxLocals := 13, code := prog_12_method_9_code, exceptionTable := #[], attributes := #[] }
def k5m2 : Method := { name := "interestOn", desc := "(J)J", sig := { parameters := [.long], returnType := some .long }, accessFlags := 2, code := some k5c2 }
def k5c3 : Code := { maxStack := 7, maxLocals := 22, code := prog_12_method_12_code, exceptionTable := #[], attributes := #[] }
def k5m3 : Method := { name := "payInTurn", desc := "(JIIZ)I", sig := { parameters := [.long, .int, .int, .boolean], returnType := some .int }, accessFlags := 0, code := some k5c3 }
def k5c4 : Code := { maxStack := 2, maxLocals := 1, code := prog_12_method_16_code, exceptionTable := #[], attributes := #[] }
def k5m4 : Method := { name := "talliedCents", desc := "()J", sig := { parameters := [], returnType := some .long }, accessFlags := 0, code := some k5c4 }
def k5c5 : Code := { maxStack := 2, maxLocals := 1, code := prog_12_method_17_code, exceptionTable := #[], attributes := #[] }
def k5m5 : Method := { name := "closingCents", desc := "()J", sig := { parameters := [], returnType := some .long }, accessFlags := 0, code := some k5c5 }
def k5c6 : Code := { maxStack := 5, maxLocals := 1, code := prog_12_method_19_code, exceptionTable := #[], attributes := #[] }
def k5m6 : Method := { name := "settle", desc := "()V", sig := { parameters := [], returnType := none }, accessFlags := 1, code := some k5c6 }
def k5c7 : Code := { maxStack := 4, maxLocals := 1, code := prog_12_method_22_code, exceptionTable := #[], attributes := #[] }
def k5m7 : Method := { name := "steady", desc := "()Z", sig := { parameters := [], returnType := some .boolean }, accessFlags := 1, code := some k5c7 }
def k5c8 : Code := { maxStack := 9, maxLocals := 2, code := prog_12_method_24_code, exceptionTable := #[], attributes := #[] }
def k5m8 : Method := { name := "repeat", desc := "(I)V", sig := { parameters := [.int], returnType := none }, accessFlags := 1, code := some k5c8 }
def k5c9 : Code := { maxStack := 5, maxLocals := 1, code := prog_12_method_25_code, exceptionTable := #[], attributes := #[] }
def k5m9 : Method := { name := "tally", desc := "()V", sig := { parameters := [], returnType := none }, accessFlags := 1, code := some k5c9 }
/-- com/example/amortine/amortine/CentAmounts -/
def k5 : Class := { plain "com/example/amortine/amortine/CentAmounts" (some 0) with
  accessFlags := 48
  interfaces := #[4]
  cf := some (fileOf pool5 18 #[] #[{ accessFlags := 0, nameIndex := 15, descriptorIndex := 42, attributes := #[] }, { accessFlags := 2, nameIndex := 7, descriptorIndex := 65, attributes := #[] }, { accessFlags := 2, nameIndex := 109, descriptorIndex := 110, attributes := #[] }, { accessFlags := 0, nameIndex := 175, descriptorIndex := 176, attributes := #[] }, { accessFlags := 0, nameIndex := 254, descriptorIndex := 236, attributes := #[] }, { accessFlags := 0, nameIndex := 255, descriptorIndex := 236, attributes := #[] }, { accessFlags := 1, nameIndex := 189, descriptorIndex := 47, attributes := #[] }, { accessFlags := 1, nameIndex := 258, descriptorIndex := 256, attributes := #[] }, { accessFlags := 1, nameIndex := 261, descriptorIndex := 262, attributes := #[] }, { accessFlags := 1, nameIndex := 263, descriptorIndex := 47, attributes := #[] }] 48 44 #[182] #[{ accessFlags := 18, nameIndex := 11, descriptorIndex := 50, attributes := #[] }, { accessFlags := 18, nameIndex := 27, descriptorIndex := 53, attributes := #[] }, { accessFlags := 18, nameIndex := 56, descriptorIndex := 50, attributes := #[] }, { accessFlags := 2, nameIndex := 7, descriptorIndex := 68, attributes := #[] }, { accessFlags := 2, nameIndex := 75, descriptorIndex := 53, attributes := #[] }, { accessFlags := 2, nameIndex := 78, descriptorIndex := 53, attributes := #[] }, { accessFlags := 2, nameIndex := 89, descriptorIndex := 53, attributes := #[] }, { accessFlags := 2, nameIndex := 92, descriptorIndex := 53, attributes := #[] }, { accessFlags := 2, nameIndex := 224, descriptorIndex := 225, attributes := #[] }, { accessFlags := 2, nameIndex := 228, descriptorIndex := 53, attributes := #[] }, { accessFlags := 2, nameIndex := 97, descriptorIndex := 53, attributes := #[] }, { accessFlags := 2, nameIndex := 100, descriptorIndex := 50, attributes := #[] }, { accessFlags := 2, nameIndex := 103, descriptorIndex := 53, attributes := #[] }, { accessFlags := 2, nameIndex := 106, descriptorIndex := 53, attributes := #[] }, { accessFlags := 2, nameIndex := 153, descriptorIndex := 53, attributes := #[] }, { accessFlags := 2, nameIndex := 156, descriptorIndex := 50, attributes := #[] }, { accessFlags := 2, nameIndex := 159, descriptorIndex := 53, attributes := #[] }, { accessFlags := 2, nameIndex := 162, descriptorIndex := 50, attributes := #[] }, { accessFlags := 2, nameIndex := 59, descriptorIndex := 53, attributes := #[] }, { accessFlags := 2, nameIndex := 62, descriptorIndex := 50, attributes := #[] }, { accessFlags := 2, nameIndex := 197, descriptorIndex := 53, attributes := #[] }, { accessFlags := 2, nameIndex := 218, descriptorIndex := 50, attributes := #[] }, { accessFlags := 2, nameIndex := 113, descriptorIndex := 53, attributes := #[] }, { accessFlags := 2, nameIndex := 116, descriptorIndex := 50, attributes := #[] }, { accessFlags := 2, nameIndex := 200, descriptorIndex := 53, attributes := #[] }, { accessFlags := 2, nameIndex := 221, descriptorIndex := 50, attributes := #[] }, { accessFlags := 2, nameIndex := 165, descriptorIndex := 53, attributes := #[] }, { accessFlags := 2, nameIndex := 168, descriptorIndex := 50, attributes := #[] }, { accessFlags := 2, nameIndex := 171, descriptorIndex := 172, attributes := #[] }])
  fields := #[{ name := "perYear", type := .int, accessFlags := 18, slot := 0, constantValue := 0 }, { name := "balloon", type := .long, accessFlags := 18, slot := 1, constantValue := 0 }, { name := "balloonScale", type := .int, accessFlags := 18, slot := 2, constantValue := 0 }, { name := "rate", type := (.object "com/example/amortine/amortine/PeriodRate"), accessFlags := 2, slot := 3, constantValue := 0 }, { name := "perPeriodNumerator", type := .long, accessFlags := 2, slot := 4, constantValue := 0 }, { name := "perPeriodDenominator", type := .long, accessFlags := 2, slot := 5, constantValue := 0 }, { name := "reciprocal", type := .long, accessFlags := 2, slot := 6, constantValue := 0 }, { name := "exactUpTo", type := .long, accessFlags := 2, slot := 7, constantValue := 0 }, { name := "given", type := (.object "java/math/BigDecimal"), accessFlags := 2, slot := 8, constantValue := 0 }, { name := "givenCents", type := .long, accessFlags := 2, slot := 9, constantValue := 0 }, { name := "opening", type := .long, accessFlags := 2, slot := 10, constantValue := 0 }, { name := "openingScale", type := .int, accessFlags := 2, slot := 11, constantValue := 0 }, { name := "interest", type := .long, accessFlags := 2, slot := 12, constantValue := 0 }, { name := "owedBefore", type := .long, accessFlags := 2, slot := 13, constantValue := 0 }, { name := "payment", type := .long, accessFlags := 2, slot := 14, constantValue := 0 }, { name := "paymentScale", type := .int, accessFlags := 2, slot := 15, constantValue := 0 }, { name := "principal", type := .long, accessFlags := 2, slot := 16, constantValue := 0 }, { name := "principalScale", type := .int, accessFlags := 2, slot := 17, constantValue := 0 }, { name := "closing", type := .long, accessFlags := 2, slot := 18, constantValue := 0 }, { name := "closingScale", type := .int, accessFlags := 2, slot := 19, constantValue := 0 }, { name := "tallied", type := .long, accessFlags := 2, slot := 20, constantValue := 0 }, { name := "talliedScale", type := .int, accessFlags := 2, slot := 21, constantValue := 0 }, { name := "raised", type := .long, accessFlags := 2, slot := 22, constantValue := 0 }, { name := "raisedScale", type := .int, accessFlags := 2, slot := 23, constantValue := 0 }, { name := "indexation", type := .long, accessFlags := 2, slot := 24, constantValue := 0 }, { name := "indexationScale", type := .int, accessFlags := 2, slot := 25, constantValue := 0 }, { name := "madePaid", type := .long, accessFlags := 2, slot := 26, constantValue := 0 }, { name := "madeScale", type := .int, accessFlags := 2, slot := 27, constantValue := 0 }, { name := "settled", type := .boolean, accessFlags := 2, slot := 28, constantValue := 0 }]
  methods := #[k5m0, k5m1, k5m2, k5m3, k5m4, k5m5, k5m6, k5m7, k5m8, k5m9]
  instanceTypes := #[.int, .long, .int, (.object "com/example/amortine/amortine/PeriodRate"), .long, .long, .long, .long, (.object "java/math/BigDecimal"), .long, .long, .int, .long, .long, .long, .int, .long, .int, .long, .int, .long, .int, .long, .int, .long, .int, .long, .int, .boolean]
  staticTypes := #[]
  resolved := Array.replicate 270 none
  statics := none }

def pool6 : Array CpInfo := pool [(1, .class_ 2), (0, u "java/io/Serializable"), (0, .class_ 4), (0, u "java/lang/Object")] 2

/-- java/io/Serializable -/
def k6 : Class := { plain "java/io/Serializable" (some 0) with
  accessFlags := 1537
  interfaces := #[]
  cf := some (fileOf pool6 1 #[] #[] 1537 3 #[] #[])
  fields := #[]
  methods := #[]
  instanceTypes := #[]
  staticTypes := #[]
  resolved := Array.replicate 7 none
  statics := none }

def pool7 : Array CpInfo := pool [(2, .class_ 4), (1, u "java/lang/Object"), (0, u "<init>"), (0, u "()V"), (1, .class_ 10), (1, u "java/lang/Number"), (2, .class_ 14), (0, u "java/io/Serializable"), (0, u "serialVersionUID"), (0, u "J")] 20

def k7m0 : Method := { name := "<init>", desc := "()V", sig := { parameters := [], returnType := none }, accessFlags := 1, code := none }
/-- java/lang/Number -/
def k7 : Class := { plain "java/lang/Number" (some 0) with
  accessFlags := 1057
  interfaces := #[6]
  cf := some (fileOf pool7 8 #[] #[{ accessFlags := 1, nameIndex := 5, descriptorIndex := 6, attributes := #[] }] 1057 2 #[13] #[{ accessFlags := 26, nameIndex := 15, descriptorIndex := 16, attributes := #[] }])
  fields := #[{ name := "serialVersionUID", type := .long, accessFlags := 26, slot := 0, constantValue := 0 }]
  methods := #[k7m0]
  instanceTypes := #[]
  staticTypes := #[.long]
  resolved := Array.replicate 37 none
  statics := none }

def pool8 : Array CpInfo := pool [(1, .class_ 2), (0, u "java/lang/Comparable"), (0, .class_ 4), (0, u "java/lang/Object")] 7

/-- java/lang/Comparable -/
def k8 : Class := { plain "java/lang/Comparable" (some 0) with
  accessFlags := 1537
  interfaces := #[]
  cf := some (fileOf pool8 1 #[] #[] 1537 3 #[] #[])
  fields := #[]
  methods := #[]
  instanceTypes := #[]
  staticTypes := #[]
  resolved := Array.replicate 12 none
  statics := none }

def pool9 : Array CpInfo := pool [(1, .class_ 2), (0, u "java/lang/constant/Constable"), (0, .class_ 4), (0, u "java/lang/Object")] 6

/-- java/lang/constant/Constable -/
def k9 : Class := { plain "java/lang/constant/Constable" (some 0) with
  accessFlags := 1537
  interfaces := #[]
  cf := some (fileOf pool9 1 #[] #[] 1537 3 #[] #[])
  fields := #[]
  methods := #[]
  instanceTypes := #[]
  staticTypes := #[]
  resolved := Array.replicate 11 none
  statics := none }

def pool10 : Array CpInfo := pool [(1, .class_ 2), (0, u "java/lang/constant/ConstantDesc"), (0, .class_ 4), (0, u "java/lang/Object")] 32

/-- java/lang/constant/ConstantDesc -/
def k10 : Class := { plain "java/lang/constant/ConstantDesc" (some 0) with
  accessFlags := 1537
  interfaces := #[]
  cf := some (fileOf pool10 1 #[] #[] 1537 3 #[] #[])
  fields := #[]
  methods := #[]
  instanceTypes := #[]
  staticTypes := #[]
  resolved := Array.replicate 37 none
  statics := none }

def pool11 : Array CpInfo := pool [(1, .class_ 2), (0, u "java/lang/Long"), (98, u "(J)I"), (133, .class_ 237), (1, u "java/lang/Long$LongCache"), (33, .class_ 272), (0, u "java/lang/Number"), (2, u "value"), (0, u "J"), (29, .long 18446744073709551615), (26, u "(JJ)J"), (27, u "TYPE"), (0, u "Ljava/lang/Class;"), (0, .class_ 364), (0, u "java/lang/Comparable"), (0, .class_ 366), (0, u "java/lang/constant/Constable"), (0, .class_ 368), (0, u "java/lang/constant/ConstantDesc"), (0, u "MIN_VALUE"), (1, u "MAX_VALUE"), (4, u "SIZE"), (0, u "I"), (1, u "BYTES"), (1, u "serialVersionUID"), (88, u "divideUnsigned"), (26, u "signum")] 26

def k11c0 : Code := { maxStack := 8, maxLocals := 8, code := jdk_35_method_44_code, exceptionTable := #[], attributes := #[] }
def k11m0 : Method := { name := "divideUnsigned", desc := "(JJ)J", sig := { parameters := [.long, .long], returnType := some .long }, accessFlags := 9, code := some k11c0 }
def k11c1 : Code := { maxStack := 5, maxLocals := 2, code := jdk_35_method_57_code, exceptionTable := #[], attributes := #[] }
def k11m1 : Method := { name := "signum", desc := "(J)I", sig := { parameters := [.long], returnType := some .int }, accessFlags := 9, code := some k11c1 }
/-- java/lang/Long -/
def k11 : Class := { plain "java/lang/Long" (some 7) with
  accessFlags := 49
  interfaces := #[8, 9, 10]
  cf := some (fileOf pool11 1 #[.nestMembers #[235]] #[{ accessFlags := 9, nameIndex := 470, descriptorIndex := 333, attributes := #[] }, { accessFlags := 9, nameIndex := 497, descriptorIndex := 101, attributes := #[] }] 49 271 #[363, 365, 367] #[{ accessFlags := 25, nameIndex := 369, descriptorIndex := 276, attributes := #[] }, { accessFlags := 25, nameIndex := 371, descriptorIndex := 276, attributes := #[] }, { accessFlags := 25, nameIndex := 361, descriptorIndex := 362, attributes := #[] }, { accessFlags := 18, nameIndex := 275, descriptorIndex := 276, attributes := #[] }, { accessFlags := 25, nameIndex := 376, descriptorIndex := 377, attributes := #[] }, { accessFlags := 25, nameIndex := 379, descriptorIndex := 377, attributes := #[] }, { accessFlags := 26, nameIndex := 381, descriptorIndex := 276, attributes := #[] }])
  fields := #[{ name := "MIN_VALUE", type := .long, accessFlags := 25, slot := 0, constantValue := 0 }, { name := "MAX_VALUE", type := .long, accessFlags := 25, slot := 1, constantValue := 0 }, { name := "TYPE", type := (.object "java/lang/Class"), accessFlags := 25, slot := 2, constantValue := 0 }, { name := "value", type := .long, accessFlags := 18, slot := 0, constantValue := 0 }, { name := "SIZE", type := .int, accessFlags := 25, slot := 3, constantValue := 0 }, { name := "BYTES", type := .int, accessFlags := 25, slot := 4, constantValue := 0 }, { name := "serialVersionUID", type := .long, accessFlags := 26, slot := 5, constantValue := 0 }]
  methods := #[k11m0, k11m1]
  instanceTypes := #[.long]
  staticTypes := #[.long, .long, (.object "java/lang/Class"), .int, .int, .long]
  resolved := Array.replicate 524 none
  statics := none }

def pool12 : Array CpInfo := pool [(1, .class_ 2), (0, u "java/lang/Math"), (1, .class_ 6), (1, u "java/lang/Object"), (0, u "<init>"), (0, u "()V"), (89, .class_ 100), (1, u "java/lang/Math$RandomNumberGeneratorHolder"), (20, u "(JJ)J"), (16, .long 4294967295), (3, u "multiplyHigh"), (29, u "negativeZeroFloatBits"), (0, u "J"), (2, u "negativeZeroDoubleBits"), (21, u "max"), (46, u "$assertionsDisabled"), (0, u "Z"), (88, u "(II)I"), (2, u "twoToTheDoubleScaleDown"), (0, u "D"), (4, u "twoToTheDoubleScaleUp"), (9, u "E"), (3, u "PI"), (2, u "TAU"), (2, u "DEGREES_TO_RADIANS"), (0, u "RADIANS_TO_DEGREES")] 94

def k12m0 : Method := { name := "<init>", desc := "()V", sig := { parameters := [], returnType := none }, accessFlags := 2, code := none }
def k12c1 : Code := { maxStack := 6, maxLocals := 20, code := jdk_29_method_45_code, exceptionTable := #[], attributes := #[] }
def k12m1 : Method := { name := "multiplyHigh", desc := "(JJ)J", sig := { parameters := [.long, .long], returnType := some .long }, accessFlags := 9, code := some k12c1 }
def k12c2 : Code := { maxStack := 2, maxLocals := 2, code := jdk_29_method_65_code, exceptionTable := #[], attributes := #[] }
def k12m2 : Method := { name := "max", desc := "(II)I", sig := { parameters := [.int, .int], returnType := some .int }, accessFlags := 9, code := some k12c2 }
/-- java/lang/Math -/
def k12 : Class := { plain "java/lang/Math" (some 0) with
  accessFlags := 49
  interfaces := #[]
  cf := some (fileOf pool12 1 #[.nestMembers #[98]] #[{ accessFlags := 2, nameIndex := 7, descriptorIndex := 8, attributes := #[] }, { accessFlags := 9, nameIndex := 142, descriptorIndex := 121, attributes := #[] }, { accessFlags := 9, nameIndex := 198, descriptorIndex := 335, attributes := #[] }] 49 4 #[] #[{ accessFlags := 25, nameIndex := 354, descriptorIndex := 339, attributes := #[] }, { accessFlags := 25, nameIndex := 358, descriptorIndex := 339, attributes := #[] }, { accessFlags := 25, nameIndex := 361, descriptorIndex := 339, attributes := #[] }, { accessFlags := 26, nameIndex := 364, descriptorIndex := 339, attributes := #[] }, { accessFlags := 26, nameIndex := 365, descriptorIndex := 339, attributes := #[] }, { accessFlags := 26, nameIndex := 172, descriptorIndex := 173, attributes := #[] }, { accessFlags := 26, nameIndex := 176, descriptorIndex := 173, attributes := #[] }, { accessFlags := 8, nameIndex := 344, descriptorIndex := 339, attributes := #[] }, { accessFlags := 8, nameIndex := 338, descriptorIndex := 339, attributes := #[] }, { accessFlags := 4120, nameIndex := 245, descriptorIndex := 246, attributes := #[] }])
  fields := #[{ name := "E", type := .double, accessFlags := 25, slot := 0, constantValue := 0 }, { name := "PI", type := .double, accessFlags := 25, slot := 1, constantValue := 0 }, { name := "TAU", type := .double, accessFlags := 25, slot := 2, constantValue := 0 }, { name := "DEGREES_TO_RADIANS", type := .double, accessFlags := 26, slot := 3, constantValue := 0 }, { name := "RADIANS_TO_DEGREES", type := .double, accessFlags := 26, slot := 4, constantValue := 0 }, { name := "negativeZeroFloatBits", type := .long, accessFlags := 26, slot := 5, constantValue := 0 }, { name := "negativeZeroDoubleBits", type := .long, accessFlags := 26, slot := 6, constantValue := 0 }, { name := "twoToTheDoubleScaleUp", type := .double, accessFlags := 8, slot := 7, constantValue := 0 }, { name := "twoToTheDoubleScaleDown", type := .double, accessFlags := 8, slot := 8, constantValue := 0 }, { name := "$assertionsDisabled", type := .boolean, accessFlags := 4120, slot := 9, constantValue := 0 }]
  methods := #[k12m0, k12m1, k12m2]
  instanceTypes := #[]
  staticTypes := #[.double, .double, .double, .double, .double, .long, .long, .double, .double, .boolean]
  resolved := Array.replicate 460 none
  statics := none }

def pool13 : Array CpInfo := pool [(1, u "java/lang/Cloneable"), (0, .class_ 1), (0, u "java/lang/Object"), (0, .class_ 3)] 3

/-- java/lang/Cloneable -/
def k13 : Class := { plain "java/lang/Cloneable" (some 0) with
  accessFlags := 1537
  interfaces := #[]
  cf := some (fileOf pool13 2 #[] #[] 1537 4 #[] #[])
  fields := #[]
  methods := #[]
  instanceTypes := #[]
  staticTypes := #[]
  resolved := Array.replicate 8 none
  statics := none }

/-- the primitive byte -/
def k14 : Class := { plain "byte" none with kind := .primitive 'B', accessFlags := 0x411 }
/-- [B -/
def k15 : Class := { plain "[B" (some 0) with kind := .array 14 .byte, interfaces := #[13, 6], accessFlags := 1041 }

/-- the primitive int -/
def k16 : Class := { plain "int" none with kind := .primitive 'I', accessFlags := 0x411 }
/-- [I -/
def k17 : Class := { plain "[I" (some 0) with kind := .array 16 .int, interfaces := #[13, 6], accessFlags := 1041 }

/-- the primitive long -/
def k18 : Class := { plain "long" none with kind := .primitive 'J', accessFlags := 0x411 }
/-- [J -/
def k19 : Class := { plain "[J" (some 0) with kind := .array 18 .long, interfaces := #[13, 6], accessFlags := 1041 }

def heap : Heap := #[{ cls := 3, slots := #[.ref 1, .ref 2], vm := .statics 3 },
  { cls := 19, slots := #[.long 1, .long 10, .long 100, .long 1000, .long 10000, .long 100000, .long 1000000, .long 10000000, .long 100000000, .long 1000000000, .long 10000000000, .long 100000000000, .long 1000000000000, .long 10000000000000, .long 100000000000000, .long 1000000000000000, .long 10000000000000000, .long 100000000000000000, .long 1000000000000000000], vm := .none },
  { cls := 19, slots := #[.long 9223372036854775807, .long 922337203685477580, .long 92233720368547758, .long 9223372036854775, .long 922337203685477, .long 92233720368547, .long 9223372036854, .long 922337203685, .long 92233720368, .long 9223372036, .long 922337203, .long 92233720, .long 9223372, .long 922337, .long 92233, .long 9223, .long 922, .long 92, .long 9], vm := .none }]
def classes : Array Class := #[k0, k1, k2, k3, k4, k5, k6, k7, k8, k9, k10, k11, k12, k13, k14, k15, k16, k17, k18, k19]
def interned : List (Array UInt16 × Addr) := []
def slotsUsed : Nat := 40
def theMethod : MethodId := ⟨1, 1⟩
def args0 : Array Value := #[.long 5, .long 7, .int 9, .long 3, .int 2]
def aboutOver (below : List Frame) : State where
  vm := { classes := classes, interned := interned.toArray }
  heap := heap
  slotsUsed := slotsUsed
  threads := #[{ frames := .invoking theMethod args0 :: below }]
def below0 : List Frame := [.native { method := ⟨0, 0⟩, args := #[] }]
def about1 : State := aboutOver below0
def p0 : Program := .bare "" "" ""
def e0 : Env := launch0.env 0 0 0
theorem w_frames : about1.frames = Frame.invoking theMethod args0 :: below0 := rfl
set_option maxRecDepth 65536 in
theorem w_args : argsFit about1.vm theMethod args0 = true := by decide +kernel
set_option maxRecDepth 65536 in
theorem w_heap : heapFits about1 = true := by decide +kernel
set_option maxRecDepth 65536 in
theorem w_runnable : about1.curStatus? = some .runnable := by decide +kernel
set_option maxRecDepth 65536 in
theorem w_alone : about1.alone = true := by decide +kernel
set_option maxRecDepth 65536 in
theorem w_named : about1.methodNamed? x = some theMethod := by decide +kernel
set_option maxRecDepth 65536 in
theorem w_hears : about1.hears theMethod below0 = true := by decide +kernel
set_option maxRecDepth 65536 in
theorem w_ripe : about1.ripe theMethod args0 below0 = true := by decide +kernel
theorem w_running : about1.status = .running := rfl
set_option maxRecDepth 65536 in
theorem w_room : about1.hasRoom e0.platform room_1 = true :=
  launch0.hasRoom_least _ room_1 (by decide +kernel) (by decide +kernel) (by decide +kernel) (by decide +kernel) (by decide +kernel) (by decide +kernel)
theorem allAtoms_all (ts : List Jvm.Cond) (a : Array Jvm.Value) (st : Jvm.State) : (allAtoms ts).before a st = ts.all (fun c => c.before a st) := by
  induction ts with
  | nil => rfl
  | cons c t ih =>
    show (Jvm.Cond.and c (allAtoms t)).before a st = _
    rw [Jvm.Cond.before_and, ih, List.all_cons]
def words1 : List Jvm.Cond := Jvm.Cond.code x code maxLocals ret :: tables_1
/-- a 'code' word, met by the world's own term for the bytes: nothing is compared byte by byte -/
theorem code_word {y : MethodName} {bytes : ByteArray} {mx : Nat} {rt : Option FieldType} {a : Array Value} {s : State} {m : MethodId} {meth : Method} {c : Code} (h1 : s.methodNamed? y = some m) (h2 : s.vm.method? m = some meth) (h3 : meth.code = some c) (h4 : c.code = bytes)
    (h5 : (c.maxLocals == mx && c.exceptionTable.isEmpty && decide (c.maxStack ≤ mostOperands) && decide (meth.sig.returnType = rt) && !meth.locks && decide (parseMethodDescriptor y.desc = some meth.sig)) = true) : (Jvm.Cond.code y bytes mx rt).before a s = true := by
  simp only [Bool.and_eq_true, beq_iff_eq, Bool.not_eq_true', decide_eq_true_eq] at h5
  obtain ⟨⟨⟨⟨⟨g1, g2⟩, g3⟩, g4⟩, g5⟩, g6⟩ := h5
  simp [Cond.before, Cond.holds, Cond.value, h1, h2, h3, h4, g1, g2, g3, g4, g5, g6]
def isCode : Jvm.Cond → Bool
  | .code _ _ _ _ => true
  | _ => false
theorem all_split {L : List Jvm.Cond} {P : Jvm.Cond → Bool} (h1 : L.all (fun c => isCode c || P c) = true) (h2 : ∀ c ∈ L.filter isCode, P c = true) : L.all P = true := by
  refine List.all_eq_true.mpr fun c hc => ?_
  have h := List.all_eq_true.mp h1 c hc
  rcases Bool.eq_false_or_eq_true (isCode c) with hi | hi
  · exact h2 c (List.mem_filter.mpr ⟨hc, hi⟩)
  · simpa [hi] using h
set_option maxRecDepth 65536 in
theorem w_c0 : (Jvm.Cond.code x code maxLocals ret).before args0 about1 = true := code_word (m := ⟨1, 1⟩) (meth := k1m1) (c := k1c1) (by decide +kernel) rfl rfl rfl (by decide +kernel)
set_option maxRecDepth 65536 in
theorem w_c1 : (Jvm.Cond.code ({ cls := "com/example/amortine/amortine/PeriodRate", name := "<init>", desc := "(JII)V" } : Jvm.MethodName) prog_60_method_2_code (7 : Nat) (Option.none : Option Jvm.ClassFile.FieldType)).before args0 about1 = true := code_word (m := ⟨2, 0⟩) (meth := k2m0) (c := k2c0) (by decide +kernel) rfl rfl rfl (by decide +kernel)
set_option maxRecDepth 65536 in
theorem w_c2 : (Jvm.Cond.code ({ cls := "java/lang/Object", name := "<init>", desc := "()V" } : Jvm.MethodName) object_method_1_code (1 : Nat) (Option.none : Option Jvm.ClassFile.FieldType)).before args0 about1 = true := code_word (m := ⟨0, 0⟩) (meth := k0m0) (c := k0c0) (by decide +kernel) rfl rfl rfl (by decide +kernel)
set_option maxRecDepth 65536 in
theorem w_c3 : (Jvm.Cond.code ({ cls := "com/example/amortine/amortine/PeriodRate", name := "wholeDivisor", desc := "(I)J" } : Jvm.MethodName) prog_60_method_3_code (1 : Nat) (Option.some Jvm.ClassFile.FieldType.long)).before args0 about1 = true := code_word (m := ⟨2, 1⟩) (meth := k2m1) (c := k2c1) (by decide +kernel) rfl rfl rfl (by decide +kernel)
set_option maxRecDepth 65536 in
theorem w_c4 : (Jvm.Cond.code ({ cls := "com/example/amortine/amortine/Decimals", name := "timesTenTo", desc := "(JI)J" } : Jvm.MethodName) prog_19_method_4_code (3 : Nat) (Option.some Jvm.ClassFile.FieldType.long)).before args0 about1 = true := code_word (m := ⟨3, 1⟩) (meth := k3m1) (c := k3c1) (by decide +kernel) rfl rfl rfl (by decide +kernel)
set_option maxRecDepth 65536 in
theorem w_c5 : (Jvm.Cond.code ({ cls := "com/example/amortine/amortine/CentAmounts", name := "<init>", desc := "(JIJIILcom/example/amortine/amortine/PeriodRate;)V" } : Jvm.MethodName) prog_12_method_4_code (9 : Nat) (Option.none : Option Jvm.ClassFile.FieldType)).before args0 about1 = true := code_word (m := ⟨5, 0⟩) (meth := k5m0) (c := k5c0) (by decide +kernel) rfl rfl rfl (by decide +kernel)
set_option maxRecDepth 65536 in
theorem w_c6 : (Jvm.Cond.code ({ cls := "com/example/amortine/amortine/CentAmounts", name := "rate", desc := "(Lcom/example/amortine/amortine/PeriodRate;)V" } : Jvm.MethodName) prog_12_method_6_code (3 : Nat) (Option.none : Option Jvm.ClassFile.FieldType)).before args0 about1 = true := code_word (m := ⟨5, 1⟩) (meth := k5m1) (c := k5c1) (by decide +kernel) rfl rfl rfl (by decide +kernel)
set_option maxRecDepth 65536 in
theorem w_c7 : (Jvm.Cond.code ({ cls := "com/example/amortine/amortine/PeriodRate", name := "perPeriodInLongs", desc := "()[J" } : Jvm.MethodName) prog_60_method_14_code (5 : Nat) (Option.some (Jvm.ClassFile.FieldType.array Jvm.ClassFile.FieldType.long))).before args0 about1 = true := code_word (m := ⟨2, 2⟩) (meth := k2m2) (c := k2c2) (by decide +kernel) rfl rfl rfl (by decide +kernel)
set_option maxRecDepth 65536 in
theorem w_c8 : (Jvm.Cond.code ({ cls := "com/example/amortine/amortine/Decimals", name := "gcd", desc := "(JJ)J" } : Jvm.MethodName) prog_19_method_13_code (10 : Nat) (Option.some Jvm.ClassFile.FieldType.long)).before args0 about1 = true := code_word (m := ⟨3, 2⟩) (meth := k3m2) (c := k3c2) (by decide +kernel) rfl rfl rfl (by decide +kernel)
set_option maxRecDepth 65536 in
theorem w_c9 : (Jvm.Cond.code ({ cls := "java/lang/Long", name := "divideUnsigned", desc := "(JJ)J" } : Jvm.MethodName) jdk_35_method_44_code (8 : Nat) (Option.some Jvm.ClassFile.FieldType.long)).before args0 about1 = true := code_word (m := ⟨11, 0⟩) (meth := k11m0) (c := k11c0) (by decide +kernel) rfl rfl rfl (by decide +kernel)
set_option maxRecDepth 65536 in
theorem w_c10 : (Jvm.Cond.code ({ cls := "com/example/amortine/amortine/CentAmounts", name := "payInTurn", desc := "(JIIZ)I" } : Jvm.MethodName) prog_12_method_12_code (22 : Nat) (Option.some Jvm.ClassFile.FieldType.int)).before args0 about1 = true := code_word (m := ⟨5, 3⟩) (meth := k5m3) (c := k5c3) (by decide +kernel) rfl rfl rfl (by decide +kernel)
set_option maxRecDepth 65536 in
theorem w_c11 : (Jvm.Cond.code ({ cls := "java/lang/Long", name := "signum", desc := "(J)I" } : Jvm.MethodName) jdk_35_method_57_code (2 : Nat) (Option.some Jvm.ClassFile.FieldType.int)).before args0 about1 = true := code_word (m := ⟨11, 1⟩) (meth := k11m1) (c := k11c1) (by decide +kernel) rfl rfl rfl (by decide +kernel)
set_option maxRecDepth 65536 in
theorem w_c12 : (Jvm.Cond.code ({ cls := "com/example/amortine/amortine/CentAmounts", name := "interestOn", desc := "(J)J" } : Jvm.MethodName) prog_12_method_9_code (13 : Nat) (Option.some Jvm.ClassFile.FieldType.long)).before args0 about1 = true := code_word (m := ⟨5, 2⟩) (meth := k5m2) (c := k5c2) (by decide +kernel) rfl rfl rfl (by decide +kernel)
set_option maxRecDepth 65536 in
theorem w_c13 : (Jvm.Cond.code ({ cls := "java/lang/Math", name := "multiplyHigh", desc := "(JJ)J" } : Jvm.MethodName) jdk_29_method_45_code (20 : Nat) (Option.some Jvm.ClassFile.FieldType.long)).before args0 about1 = true := code_word (m := ⟨12, 1⟩) (meth := k12m1) (c := k12c1) (by decide +kernel) rfl rfl rfl (by decide +kernel)
set_option maxRecDepth 65536 in
theorem w_c14 : (Jvm.Cond.code ({ cls := "com/example/amortine/amortine/Amounts", name := "reaches", desc := "(II)Z" } : Jvm.MethodName) prog_3_method_7_code (2 : Nat) (Option.some Jvm.ClassFile.FieldType.boolean)).before args0 about1 = true := code_word (m := ⟨4, 0⟩) (meth := k4m0) (c := k4c0) (by decide +kernel) rfl rfl rfl (by decide +kernel)
set_option maxRecDepth 65536 in
theorem w_c15 : (Jvm.Cond.code ({ cls := "java/lang/Math", name := "max", desc := "(II)I" } : Jvm.MethodName) jdk_29_method_65_code (2 : Nat) (Option.some Jvm.ClassFile.FieldType.int)).before args0 about1 = true := code_word (m := ⟨12, 2⟩) (meth := k12m2) (c := k12c2) (by decide +kernel) rfl rfl rfl (by decide +kernel)
set_option maxRecDepth 65536 in
theorem w_c16 : (Jvm.Cond.code ({ cls := "com/example/amortine/amortine/CentAmounts", name := "closingCents", desc := "()J" } : Jvm.MethodName) prog_12_method_17_code (1 : Nat) (Option.some Jvm.ClassFile.FieldType.long)).before args0 about1 = true := code_word (m := ⟨5, 5⟩) (meth := k5m5) (c := k5c5) (by decide +kernel) rfl rfl rfl (by decide +kernel)
set_option maxRecDepth 65536 in
theorem w_c17 : (Jvm.Cond.code ({ cls := "com/example/amortine/amortine/CentAmounts", name := "repeat", desc := "(I)V" } : Jvm.MethodName) prog_12_method_24_code (2 : Nat) (Option.none : Option Jvm.ClassFile.FieldType)).before args0 about1 = true := code_word (m := ⟨5, 8⟩) (meth := k5m8) (c := k5c8) (by decide +kernel) rfl rfl rfl (by decide +kernel)
set_option maxRecDepth 65536 in
theorem w_c18 : (Jvm.Cond.code ({ cls := "com/example/amortine/amortine/CentAmounts", name := "steady", desc := "()Z" } : Jvm.MethodName) prog_12_method_22_code (1 : Nat) (Option.some Jvm.ClassFile.FieldType.boolean)).before args0 about1 = true := code_word (m := ⟨5, 7⟩) (meth := k5m7) (c := k5c7) (by decide +kernel) rfl rfl rfl (by decide +kernel)
set_option maxRecDepth 65536 in
theorem w_c19 : (Jvm.Cond.code ({ cls := "com/example/amortine/amortine/CentAmounts", name := "tally", desc := "()V" } : Jvm.MethodName) prog_12_method_25_code (1 : Nat) (Option.none : Option Jvm.ClassFile.FieldType)).before args0 about1 = true := code_word (m := ⟨5, 9⟩) (meth := k5m9) (c := k5c9) (by decide +kernel) rfl rfl rfl (by decide +kernel)
set_option maxRecDepth 65536 in
theorem w_c20 : (Jvm.Cond.code ({ cls := "com/example/amortine/amortine/CentAmounts", name := "talliedCents", desc := "()J" } : Jvm.MethodName) prog_12_method_16_code (1 : Nat) (Option.some Jvm.ClassFile.FieldType.long)).before args0 about1 = true := code_word (m := ⟨5, 4⟩) (meth := k5m4) (c := k5c4) (by decide +kernel) rfl rfl rfl (by decide +kernel)
set_option maxRecDepth 65536 in
theorem w_c21 : (Jvm.Cond.code ({ cls := "com/example/amortine/amortine/CentAmounts", name := "settle", desc := "()V" } : Jvm.MethodName) prog_12_method_19_code (1 : Nat) (Option.none : Option Jvm.ClassFile.FieldType)).before args0 about1 = true := code_word (m := ⟨5, 6⟩) (meth := k5m6) (c := k5c6) (by decide +kernel) rfl rfl rfl (by decide +kernel)
def codes1 : List Jvm.Cond := [Jvm.Cond.code x code maxLocals ret, Jvm.Cond.code ({ cls := "com/example/amortine/amortine/PeriodRate", name := "<init>", desc := "(JII)V" } : Jvm.MethodName) prog_60_method_2_code (7 : Nat) (Option.none : Option Jvm.ClassFile.FieldType), Jvm.Cond.code ({ cls := "java/lang/Object", name := "<init>", desc := "()V" } : Jvm.MethodName) object_method_1_code (1 : Nat) (Option.none : Option Jvm.ClassFile.FieldType), Jvm.Cond.code ({ cls := "com/example/amortine/amortine/PeriodRate", name := "wholeDivisor", desc := "(I)J" } : Jvm.MethodName) prog_60_method_3_code (1 : Nat) (Option.some Jvm.ClassFile.FieldType.long), Jvm.Cond.code ({ cls := "com/example/amortine/amortine/Decimals", name := "timesTenTo", desc := "(JI)J" } : Jvm.MethodName) prog_19_method_4_code (3 : Nat) (Option.some Jvm.ClassFile.FieldType.long), Jvm.Cond.code ({ cls := "com/example/amortine/amortine/CentAmounts", name := "<init>", desc := "(JIJIILcom/example/amortine/amortine/PeriodRate;)V" } : Jvm.MethodName) prog_12_method_4_code (9 : Nat) (Option.none : Option Jvm.ClassFile.FieldType), Jvm.Cond.code ({ cls := "com/example/amortine/amortine/CentAmounts", name := "rate", desc := "(Lcom/example/amortine/amortine/PeriodRate;)V" } : Jvm.MethodName) prog_12_method_6_code (3 : Nat) (Option.none : Option Jvm.ClassFile.FieldType), Jvm.Cond.code ({ cls := "com/example/amortine/amortine/PeriodRate", name := "perPeriodInLongs", desc := "()[J" } : Jvm.MethodName) prog_60_method_14_code (5 : Nat) (Option.some (Jvm.ClassFile.FieldType.array Jvm.ClassFile.FieldType.long)), Jvm.Cond.code ({ cls := "com/example/amortine/amortine/Decimals", name := "gcd", desc := "(JJ)J" } : Jvm.MethodName) prog_19_method_13_code (10 : Nat) (Option.some Jvm.ClassFile.FieldType.long), Jvm.Cond.code ({ cls := "java/lang/Long", name := "divideUnsigned", desc := "(JJ)J" } : Jvm.MethodName) jdk_35_method_44_code (8 : Nat) (Option.some Jvm.ClassFile.FieldType.long), Jvm.Cond.code ({ cls := "com/example/amortine/amortine/CentAmounts", name := "payInTurn", desc := "(JIIZ)I" } : Jvm.MethodName) prog_12_method_12_code (22 : Nat) (Option.some Jvm.ClassFile.FieldType.int), Jvm.Cond.code ({ cls := "java/lang/Long", name := "signum", desc := "(J)I" } : Jvm.MethodName) jdk_35_method_57_code (2 : Nat) (Option.some Jvm.ClassFile.FieldType.int), Jvm.Cond.code ({ cls := "com/example/amortine/amortine/CentAmounts", name := "interestOn", desc := "(J)J" } : Jvm.MethodName) prog_12_method_9_code (13 : Nat) (Option.some Jvm.ClassFile.FieldType.long), Jvm.Cond.code ({ cls := "java/lang/Math", name := "multiplyHigh", desc := "(JJ)J" } : Jvm.MethodName) jdk_29_method_45_code (20 : Nat) (Option.some Jvm.ClassFile.FieldType.long), Jvm.Cond.code ({ cls := "com/example/amortine/amortine/Amounts", name := "reaches", desc := "(II)Z" } : Jvm.MethodName) prog_3_method_7_code (2 : Nat) (Option.some Jvm.ClassFile.FieldType.boolean), Jvm.Cond.code ({ cls := "java/lang/Math", name := "max", desc := "(II)I" } : Jvm.MethodName) jdk_29_method_65_code (2 : Nat) (Option.some Jvm.ClassFile.FieldType.int), Jvm.Cond.code ({ cls := "com/example/amortine/amortine/CentAmounts", name := "closingCents", desc := "()J" } : Jvm.MethodName) prog_12_method_17_code (1 : Nat) (Option.some Jvm.ClassFile.FieldType.long), Jvm.Cond.code ({ cls := "com/example/amortine/amortine/CentAmounts", name := "repeat", desc := "(I)V" } : Jvm.MethodName) prog_12_method_24_code (2 : Nat) (Option.none : Option Jvm.ClassFile.FieldType), Jvm.Cond.code ({ cls := "com/example/amortine/amortine/CentAmounts", name := "steady", desc := "()Z" } : Jvm.MethodName) prog_12_method_22_code (1 : Nat) (Option.some Jvm.ClassFile.FieldType.boolean), Jvm.Cond.code ({ cls := "com/example/amortine/amortine/CentAmounts", name := "tally", desc := "()V" } : Jvm.MethodName) prog_12_method_25_code (1 : Nat) (Option.none : Option Jvm.ClassFile.FieldType), Jvm.Cond.code ({ cls := "com/example/amortine/amortine/CentAmounts", name := "talliedCents", desc := "()J" } : Jvm.MethodName) prog_12_method_16_code (1 : Nat) (Option.some Jvm.ClassFile.FieldType.long), Jvm.Cond.code ({ cls := "com/example/amortine/amortine/CentAmounts", name := "settle", desc := "()V" } : Jvm.MethodName) prog_12_method_19_code (1 : Nat) (Option.none : Option Jvm.ClassFile.FieldType)]
set_option maxRecDepth 65536 in
theorem codes_eq : words1.filter isCode = codes1 := rfl
theorem w_codes : ∀ c ∈ words1.filter isCode, c.before args0 about1 = true := by
  rw [codes_eq]
  intro c hc
  simp only [codes1, List.mem_cons, List.not_mem_nil, or_false] at hc
  rcases hc with rfl | rfl | rfl | rfl | rfl | rfl | rfl | rfl | rfl | rfl | rfl | rfl | rfl | rfl | rfl | rfl | rfl | rfl | rfl | rfl | rfl | rfl
  · exact w_c0
  · exact w_c1
  · exact w_c2
  · exact w_c3
  · exact w_c4
  · exact w_c5
  · exact w_c6
  · exact w_c7
  · exact w_c8
  · exact w_c9
  · exact w_c10
  · exact w_c11
  · exact w_c12
  · exact w_c13
  · exact w_c14
  · exact w_c15
  · exact w_c16
  · exact w_c17
  · exact w_c18
  · exact w_c19
  · exact w_c20
  · exact w_c21
set_option maxRecDepth 65536 in
theorem w_t1 : (words1.take 24).all (fun c => isCode c || c.before args0 about1) = true := by decide +kernel
set_option maxRecDepth 65536 in
theorem w_t2 : ((words1.drop 24).take 24).all (fun c => isCode c || c.before args0 about1) = true := by decide +kernel
set_option maxRecDepth 65536 in
theorem w_t3 : (((words1.drop 24).drop 24).take 24).all (fun c => isCode c || c.before args0 about1) = true := by decide +kernel
set_option maxRecDepth 65536 in
theorem w_t4 : ((((words1.drop 24).drop 24).drop 24).take 24).all (fun c => isCode c || c.before args0 about1) = true := by decide +kernel
set_option maxRecDepth 65536 in
theorem w_t5 : (((((words1.drop 24).drop 24).drop 24).drop 24).take 24).all (fun c => isCode c || c.before args0 about1) = true := by decide +kernel
set_option maxRecDepth 65536 in
theorem w_t6 : ((((((words1.drop 24).drop 24).drop 24).drop 24).drop 24).take 24).all (fun c => isCode c || c.before args0 about1) = true := by decide +kernel
set_option maxRecDepth 65536 in
theorem w_t7 : (((((((words1.drop 24).drop 24).drop 24).drop 24).drop 24).drop 24).take 24).all (fun c => isCode c || c.before args0 about1) = true := by decide +kernel
set_option maxRecDepth 65536 in
theorem w_t8 : (((((((words1.drop 24).drop 24).drop 24).drop 24).drop 24).drop 24).drop 24).all (fun c => isCode c || c.before args0 about1) = true := by decide +kernel
theorem w_tables : (allAtoms (Jvm.Cond.code x code maxLocals ret :: tables_1)).before args0 about1 = true := by
  rw [allAtoms_all]
  show words1.all (fun c => c.before args0 about1) = true
  refine all_split ?_ w_codes
  rw [← List.take_append_drop 24 words1, List.all_append, w_t1, ← List.take_append_drop 24 (words1.drop 24), List.all_append, w_t2, ← List.take_append_drop 24 ((words1.drop 24).drop 24), List.all_append, w_t3, ← List.take_append_drop 24 (((words1.drop 24).drop 24).drop 24), List.all_append, w_t4, ← List.take_append_drop 24 ((((words1.drop 24).drop 24).drop 24).drop 24), List.all_append, w_t5, ← List.take_append_drop 24 (((((words1.drop 24).drop 24).drop 24).drop 24).drop 24), List.all_append, w_t6, ← List.take_append_drop 24 ((((((words1.drop 24).drop 24).drop 24).drop 24).drop 24).drop 24), List.all_append, w_t7, w_t8]
  rfl
set_option maxRecDepth 65536 in
theorem w_case : (Jvm.Cond.and given_1 narrow_1).before args0 about1 = true := by decide +kernel
theorem w_applies : (headSpec (Jvm.Cond.code x code maxLocals ret :: tables_1) room_1).applies x e0.platform about1 = true :=
  (Spec.applies_iff w_frames).mpr ⟨w_running, w_runnable, w_alone, w_named, w_hears, w_ripe, w_room, w_tables⟩
theorem atStart : AtStart classFile x code maxLocals ret World_1 tables_1 room_1 Calls_1 rest_1 Pre_1 launch0 p0 e0 about1 theMethod args0 below0 :=
  ⟨lists_1, trivial, launch0.admits_env _ _ _, launch0.least_env, fairChoices_fair.cas, fairChoices_fair.clock, w_frames, w_args, w_heap, w_applies, trivial, trivial, w_case⟩
end start1
theorem witness_1 : WitnessClaimed_1 := ⟨start1.p0, start1.e0, start1.about1, start1.theMethod, start1.args0, start1.below0, start1.atStart⟩
end Jvm.Pilot.@@N@@
