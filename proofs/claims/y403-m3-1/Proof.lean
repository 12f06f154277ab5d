import JvmDerived
import JvmDerived.Pilot.@@N@@Statement
import JvmDerived.Pilot.@@N@@Code
set_option linter.unusedVariables false
set_option linter.unusedSimpArgs false
namespace Jvm.Pilot.@@N@@
open Jvm Jvm.ClassFile Sem Op Lib Jvm.Free Jvm.Stand Jvm.LawKit Jvm.RoadKit Bundle Jvm.Pilot.@@N@@.Jvm.D
/-- from A the run comes to B -/
abbrev Go (p : Program) (e : Env) (below : List Frame) (A B : State) : Prop := ∀ t, Steps p.tables e below B t → Steps p.tables e below A t
section Own
variable {p : Program} {l : Launch} {e : Env} {R : Room} {s : State} {m : MethodId} {args : Array Value} {below : List Frame} {meth : Method} {c : Code} {T : State} {locs : List Loc} {cells slots : Nat} {t : State} {A : ByteArray} {pc : Nat} {L : Array Slot} {S : List Value}
theorem o_iloadN (X : Stand p l e R s m args below meth c T locs cells slots) (hx : p.tables.exec = Jvm.exec) (hby : c.code = A) {k : Fin 4} {v : Int32} (hd : decode A pc = .ok (.iload_n k, 1)) (n : Nat) (hn : pc + 1 = n) (hl : L[k.val]? = some (.val (.int v))) (hr : Steps p.tables e below (T.setTop (mkF m n L (.int v :: S))) t) : Steps p.tables e below (T.setTop (mkF m pc L S)) t := by
  subst hn; exact XS.iloadN X.here hx rfl (hb hby hd) hl hr
theorem o_lloadN (X : Stand p l e R s m args below meth c T locs cells slots) (hx : p.tables.exec = Jvm.exec) (hby : c.code = A) {k : Fin 4} {v : Int64} (hd : decode A pc = .ok (.lload_n k, 1)) (n : Nat) (hn : pc + 1 = n) (hl : L[k.val]? = some (.val (.long v))) (hr : Steps p.tables e below (T.setTop (mkF m n L (.long v :: S))) t) : Steps p.tables e below (T.setTop (mkF m pc L S)) t := by
  subst hn; exact XS.lloadN X.here hx rfl (hb hby hd) hl hr
theorem o_aloadN (X : Stand p l e R s m args below meth c T locs cells slots) (hx : p.tables.exec = Jvm.exec) (hby : c.code = A) {k : Fin 4} {v : Value} (hd : decode A pc = .ok (.aload_n k, 1)) (n : Nat) (hn : pc + 1 = n) (hl : L[k.val]? = some (.val v)) (hv : v.isRef = true) (hr : Steps p.tables e below (T.setTop (mkF m n L (v :: S))) t) : Steps p.tables e below (T.setTop (mkF m pc L S)) t := by
  subst hn; exact XS.aloadN X.here hx rfl (hb hby hd) hl hv hr
theorem o_istoreN (X : Stand p l e R s m args below meth c T locs cells slots) (hx : p.tables.exec = Jvm.exec) (hby : c.code = A) {k : Fin 4} {v : Int32} {l' : Array Slot} (hd : decode A pc = .ok (.istore_n k, 1)) (n : Nat) (hn : pc + 1 = n) (hl : storeLocals L k.val (.int v) = some l') (hr : Steps p.tables e below (T.setTop (mkF m n l' S)) t) : Steps p.tables e below (T.setTop (mkF m pc L (.int v :: S))) t := by
  subst hn; exact XS.istoreN X.here hx rfl (hb hby hd) rfl hl hr
theorem o_lstoreN (X : Stand p l e R s m args below meth c T locs cells slots) (hx : p.tables.exec = Jvm.exec) (hby : c.code = A) {k : Fin 4} {v : Int64} {l' : Array Slot} (hd : decode A pc = .ok (.lstore_n k, 1)) (n : Nat) (hn : pc + 1 = n) (hl : storeLocals L k.val (.long v) = some l') (hr : Steps p.tables e below (T.setTop (mkF m n l' S)) t) : Steps p.tables e below (T.setTop (mkF m pc L (.long v :: S))) t := by
  subst hn; exact XS.lstoreN X.here hx rfl (hb hby hd) rfl hl hr
theorem o_astoreN (X : Stand p l e R s m args below meth c T locs cells slots) (hx : p.tables.exec = Jvm.exec) (hby : c.code = A) {k : Fin 4} {v : Value} {l' : Array Slot} (hd : decode A pc = .ok (.astore_n k, 1)) (n : Nat) (hn : pc + 1 = n) (hv : v.isRef = true) (hl : storeLocals L k.val v = some l') (hr : Steps p.tables e below (T.setTop (mkF m n l' S)) t) : Steps p.tables e below (T.setTop (mkF m pc L (v :: S))) t := by
  subst hn; exact XS.astoreN X.here hx rfl (hb hby hd) rfl hv hl hr
theorem o_iload (X : Stand p l e R s m args below meth c T locs cells slots) (hx : p.tables.exec = Jvm.exec) (hby : c.code = A) {k : Nat} {v : Int32} (hd : decode A pc = .ok (.iload k, 2)) (n : Nat) (hn : pc + 2 = n) (hl : L[k]? = some (.val (.int v))) (hr : Steps p.tables e below (T.setTop (mkF m n L (.int v :: S))) t) : Steps p.tables e below (T.setTop (mkF m pc L S)) t := by
  subst hn; exact XS.iload X.here hx rfl (hb hby hd) hl hr
theorem o_lload (X : Stand p l e R s m args below meth c T locs cells slots) (hx : p.tables.exec = Jvm.exec) (hby : c.code = A) {k : Nat} {v : Int64} (hd : decode A pc = .ok (.lload k, 2)) (n : Nat) (hn : pc + 2 = n) (hl : L[k]? = some (.val (.long v))) (hr : Steps p.tables e below (T.setTop (mkF m n L (.long v :: S))) t) : Steps p.tables e below (T.setTop (mkF m pc L S)) t := by
  subst hn; exact XS.lload X.here hx rfl (hb hby hd) hl hr
theorem o_aload (X : Stand p l e R s m args below meth c T locs cells slots) (hx : p.tables.exec = Jvm.exec) (hby : c.code = A) {k : Nat} {v : Value} (hd : decode A pc = .ok (.aload k, 2)) (n : Nat) (hn : pc + 2 = n) (hl : L[k]? = some (.val v)) (hv : v.isRef = true) (hr : Steps p.tables e below (T.setTop (mkF m n L (v :: S))) t) : Steps p.tables e below (T.setTop (mkF m pc L S)) t := by
  subst hn; exact XS.aload X.here hx rfl (hb hby hd) hl hv hr
theorem o_istore (X : Stand p l e R s m args below meth c T locs cells slots) (hx : p.tables.exec = Jvm.exec) (hby : c.code = A) {k : Nat} {v : Int32} {l' : Array Slot} (hd : decode A pc = .ok (.istore k, 2)) (n : Nat) (hn : pc + 2 = n) (hl : storeLocals L k (.int v) = some l') (hr : Steps p.tables e below (T.setTop (mkF m n l' S)) t) : Steps p.tables e below (T.setTop (mkF m pc L (.int v :: S))) t := by
  subst hn; exact XS.istore X.here hx rfl (hb hby hd) rfl hl hr
theorem o_lstore (X : Stand p l e R s m args below meth c T locs cells slots) (hx : p.tables.exec = Jvm.exec) (hby : c.code = A) {k : Nat} {v : Int64} {l' : Array Slot} (hd : decode A pc = .ok (.lstore k, 2)) (n : Nat) (hn : pc + 2 = n) (hl : storeLocals L k (.long v) = some l') (hr : Steps p.tables e below (T.setTop (mkF m n l' S)) t) : Steps p.tables e below (T.setTop (mkF m pc L (.long v :: S))) t := by
  subst hn; exact XS.lstore X.here hx rfl (hb hby hd) rfl hl hr
theorem o_astore (X : Stand p l e R s m args below meth c T locs cells slots) (hx : p.tables.exec = Jvm.exec) (hby : c.code = A) {k : Nat} {v : Value} {l' : Array Slot} (hd : decode A pc = .ok (.astore k, 2)) (n : Nat) (hn : pc + 2 = n) (hv : v.isRef = true) (hl : storeLocals L k v = some l') (hr : Steps p.tables e below (T.setTop (mkF m n l' S)) t) : Steps p.tables e below (T.setTop (mkF m pc L (v :: S))) t := by
  subst hn; exact XS.astore X.here hx rfl (hb hby hd) rfl hv hl hr
theorem o_iconst (X : Stand p l e R s m args below meth c T locs cells slots) (hx : p.tables.exec = Jvm.exec) (hby : c.code = A) {i : Int} (hd : decode A pc = .ok (.iconst i, 1)) (n : Nat) (hn : pc + 1 = n) {v : Int32} (hv : Int32.ofInt i = v) (hr : Steps p.tables e below (T.setTop (mkF m n L (.int v :: S))) t) : Steps p.tables e below (T.setTop (mkF m pc L S)) t := by
  subst hn; subst hv; exact XS.iconst X.here hx rfl (hb hby hd) hr
theorem o_bipush (X : Stand p l e R s m args below meth c T locs cells slots) (hx : p.tables.exec = Jvm.exec) (hby : c.code = A) {i : Int} (hd : decode A pc = .ok (.bipush i, 2)) (n : Nat) (hn : pc + 2 = n) {v : Int32} (hv : (Int8.ofInt i).toInt32 = v) (hr : Steps p.tables e below (T.setTop (mkF m n L (.int v :: S))) t) : Steps p.tables e below (T.setTop (mkF m pc L S)) t := by
  subst hn; subst hv; exact XS.bipush X.here hx rfl (hb hby hd) hr
theorem o_sipush (X : Stand p l e R s m args below meth c T locs cells slots) (hx : p.tables.exec = Jvm.exec) (hby : c.code = A) {i : Int} (hd : decode A pc = .ok (.sipush i, 3)) (n : Nat) (hn : pc + 3 = n) {v : Int32} (hv : (Int16.ofInt i).toInt32 = v) (hr : Steps p.tables e below (T.setTop (mkF m n L (.int v :: S))) t) : Steps p.tables e below (T.setTop (mkF m pc L S)) t := by
  subst hn; subst hv; exact XS.sipush X.here hx rfl (hb hby hd) hr
theorem o_lconst (X : Stand p l e R s m args below meth c T locs cells slots) (hx : p.tables.exec = Jvm.exec) (hby : c.code = A) {i : Fin 2} (hd : decode A pc = .ok (.lconst i, 1)) (n : Nat) (hn : pc + 1 = n) {v : Int64} (hv : Int64.ofNat i.val = v) (hr : Steps p.tables e below (T.setTop (mkF m n L (.long v :: S))) t) : Steps p.tables e below (T.setTop (mkF m pc L S)) t := by
  subst hn; subst hv; exact XS.lconst X.here hx rfl (hb hby hd) hr
theorem o_aconstNull (X : Stand p l e R s m args below meth c T locs cells slots) (hx : p.tables.exec = Jvm.exec) (hby : c.code = A) (hd : decode A pc = .ok (.aconst_null, 1)) (n : Nat) (hn : pc + 1 = n) (hr : Steps p.tables e below (T.setTop (mkF m n L (.null :: S))) t) : Steps p.tables e below (T.setTop (mkF m pc L S)) t := by
  subst hn; exact XS.aconstNull X.here hx rfl (hb hby hd) hr
theorem o_iadd (X : Stand p l e R s m args below meth c T locs cells slots) (hx : p.tables.exec = Jvm.exec) (hby : c.code = A) {x y : Int32} (hd : decode A pc = .ok (.iadd, 1)) (n : Nat) (hn : pc + 1 = n) (hr : Steps p.tables e below (T.setTop (mkF m n L (.int (x + y) :: S))) t) : Steps p.tables e below (T.setTop (mkF m pc L (.int y :: .int x :: S))) t := by
  subst hn; exact XS.iadd X.here hx rfl (hb hby hd) rfl hr
theorem o_ladd (X : Stand p l e R s m args below meth c T locs cells slots) (hx : p.tables.exec = Jvm.exec) (hby : c.code = A) {x y : Int64} (hd : decode A pc = .ok (.ladd, 1)) (n : Nat) (hn : pc + 1 = n) (hr : Steps p.tables e below (T.setTop (mkF m n L (.long (x + y) :: S))) t) : Steps p.tables e below (T.setTop (mkF m pc L (.long y :: .long x :: S))) t := by
  subst hn; exact XS.ladd X.here hx rfl (hb hby hd) rfl hr
theorem o_isub (X : Stand p l e R s m args below meth c T locs cells slots) (hx : p.tables.exec = Jvm.exec) (hby : c.code = A) {x y : Int32} (hd : decode A pc = .ok (.isub, 1)) (n : Nat) (hn : pc + 1 = n) (hr : Steps p.tables e below (T.setTop (mkF m n L (.int (x - y) :: S))) t) : Steps p.tables e below (T.setTop (mkF m pc L (.int y :: .int x :: S))) t := by
  subst hn; exact XS.isub X.here hx rfl (hb hby hd) rfl hr
theorem o_lsub (X : Stand p l e R s m args below meth c T locs cells slots) (hx : p.tables.exec = Jvm.exec) (hby : c.code = A) {x y : Int64} (hd : decode A pc = .ok (.lsub, 1)) (n : Nat) (hn : pc + 1 = n) (hr : Steps p.tables e below (T.setTop (mkF m n L (.long (x - y) :: S))) t) : Steps p.tables e below (T.setTop (mkF m pc L (.long y :: .long x :: S))) t := by
  subst hn; exact XS.lsub X.here hx rfl (hb hby hd) rfl hr
theorem o_imul (X : Stand p l e R s m args below meth c T locs cells slots) (hx : p.tables.exec = Jvm.exec) (hby : c.code = A) {x y : Int32} (hd : decode A pc = .ok (.imul, 1)) (n : Nat) (hn : pc + 1 = n) (hr : Steps p.tables e below (T.setTop (mkF m n L (.int (x * y) :: S))) t) : Steps p.tables e below (T.setTop (mkF m pc L (.int y :: .int x :: S))) t := by
  subst hn; exact XS.imul X.here hx rfl (hb hby hd) rfl hr
theorem o_lmul (X : Stand p l e R s m args below meth c T locs cells slots) (hx : p.tables.exec = Jvm.exec) (hby : c.code = A) {x y : Int64} (hd : decode A pc = .ok (.lmul, 1)) (n : Nat) (hn : pc + 1 = n) (hr : Steps p.tables e below (T.setTop (mkF m n L (.long (x * y) :: S))) t) : Steps p.tables e below (T.setTop (mkF m pc L (.long y :: .long x :: S))) t := by
  subst hn; exact XS.lmul X.here hx rfl (hb hby hd) rfl hr
theorem o_iand (X : Stand p l e R s m args below meth c T locs cells slots) (hx : p.tables.exec = Jvm.exec) (hby : c.code = A) {x y : Int32} (hd : decode A pc = .ok (.iand, 1)) (n : Nat) (hn : pc + 1 = n) (hr : Steps p.tables e below (T.setTop (mkF m n L (.int (x &&& y) :: S))) t) : Steps p.tables e below (T.setTop (mkF m pc L (.int y :: .int x :: S))) t := by
  subst hn; exact XS.iand X.here hx rfl (hb hby hd) rfl hr
theorem o_land (X : Stand p l e R s m args below meth c T locs cells slots) (hx : p.tables.exec = Jvm.exec) (hby : c.code = A) {x y : Int64} (hd : decode A pc = .ok (.land, 1)) (n : Nat) (hn : pc + 1 = n) (hr : Steps p.tables e below (T.setTop (mkF m n L (.long (x &&& y) :: S))) t) : Steps p.tables e below (T.setTop (mkF m pc L (.long y :: .long x :: S))) t := by
  subst hn; exact XS.land X.here hx rfl (hb hby hd) rfl hr
theorem o_ior (X : Stand p l e R s m args below meth c T locs cells slots) (hx : p.tables.exec = Jvm.exec) (hby : c.code = A) {x y : Int32} (hd : decode A pc = .ok (.ior, 1)) (n : Nat) (hn : pc + 1 = n) (hr : Steps p.tables e below (T.setTop (mkF m n L (.int (x ||| y) :: S))) t) : Steps p.tables e below (T.setTop (mkF m pc L (.int y :: .int x :: S))) t := by
  subst hn; exact XS.ior X.here hx rfl (hb hby hd) rfl hr
theorem o_lor (X : Stand p l e R s m args below meth c T locs cells slots) (hx : p.tables.exec = Jvm.exec) (hby : c.code = A) {x y : Int64} (hd : decode A pc = .ok (.lor, 1)) (n : Nat) (hn : pc + 1 = n) (hr : Steps p.tables e below (T.setTop (mkF m n L (.long (x ||| y) :: S))) t) : Steps p.tables e below (T.setTop (mkF m pc L (.long y :: .long x :: S))) t := by
  subst hn; exact XS.lor X.here hx rfl (hb hby hd) rfl hr
theorem o_ixor (X : Stand p l e R s m args below meth c T locs cells slots) (hx : p.tables.exec = Jvm.exec) (hby : c.code = A) {x y : Int32} (hd : decode A pc = .ok (.ixor, 1)) (n : Nat) (hn : pc + 1 = n) (hr : Steps p.tables e below (T.setTop (mkF m n L (.int (x ^^^ y) :: S))) t) : Steps p.tables e below (T.setTop (mkF m pc L (.int y :: .int x :: S))) t := by
  subst hn; exact XS.ixor X.here hx rfl (hb hby hd) rfl hr
theorem o_lxor (X : Stand p l e R s m args below meth c T locs cells slots) (hx : p.tables.exec = Jvm.exec) (hby : c.code = A) {x y : Int64} (hd : decode A pc = .ok (.lxor, 1)) (n : Nat) (hn : pc + 1 = n) (hr : Steps p.tables e below (T.setTop (mkF m n L (.long (x ^^^ y) :: S))) t) : Steps p.tables e below (T.setTop (mkF m pc L (.long y :: .long x :: S))) t := by
  subst hn; exact XS.lxor X.here hx rfl (hb hby hd) rfl hr
theorem o_idiv (X : Stand p l e R s m args below meth c T locs cells slots) (hx : p.tables.exec = Jvm.exec) (hby : c.code = A) {x y : Int32} (hd : decode A pc = .ok (.idiv, 1)) (n : Nat) (hn : pc + 1 = n) (hy : ¬ (y = 0)) (hr : Steps p.tables e below (T.setTop (mkF m n L (.int (x / y) :: S))) t) : Steps p.tables e below (T.setTop (mkF m pc L (.int y :: .int x :: S))) t := by
  subst hn; exact XS.idiv X.here hx rfl (hb hby hd) rfl hy hr
theorem o_ldiv (X : Stand p l e R s m args below meth c T locs cells slots) (hx : p.tables.exec = Jvm.exec) (hby : c.code = A) {x y : Int64} (hd : decode A pc = .ok (.ldiv, 1)) (n : Nat) (hn : pc + 1 = n) (hy : ¬ (y = 0)) (hr : Steps p.tables e below (T.setTop (mkF m n L (.long (x / y) :: S))) t) : Steps p.tables e below (T.setTop (mkF m pc L (.long y :: .long x :: S))) t := by
  subst hn; exact XS.ldiv X.here hx rfl (hb hby hd) rfl hy hr
theorem o_irem (X : Stand p l e R s m args below meth c T locs cells slots) (hx : p.tables.exec = Jvm.exec) (hby : c.code = A) {x y : Int32} (hd : decode A pc = .ok (.irem, 1)) (n : Nat) (hn : pc + 1 = n) (hy : ¬ (y = 0)) (hr : Steps p.tables e below (T.setTop (mkF m n L (.int (x % y) :: S))) t) : Steps p.tables e below (T.setTop (mkF m pc L (.int y :: .int x :: S))) t := by
  subst hn; exact XS.irem X.here hx rfl (hb hby hd) rfl hy (by rw [irem_eq_mod]; exact hr)
theorem o_lrem (X : Stand p l e R s m args below meth c T locs cells slots) (hx : p.tables.exec = Jvm.exec) (hby : c.code = A) {x y : Int64} (hd : decode A pc = .ok (.lrem, 1)) (n : Nat) (hn : pc + 1 = n) (hy : ¬ (y = 0)) (hr : Steps p.tables e below (T.setTop (mkF m n L (.long (x % y) :: S))) t) : Steps p.tables e below (T.setTop (mkF m pc L (.long y :: .long x :: S))) t := by
  subst hn; exact XS.lrem X.here hx rfl (hb hby hd) rfl hy (by rw [lrem_mod]; exact hr)
theorem o_ineg (X : Stand p l e R s m args below meth c T locs cells slots) (hx : p.tables.exec = Jvm.exec) (hby : c.code = A) {x : Int32} (hd : decode A pc = .ok (.ineg, 1)) (n : Nat) (hn : pc + 1 = n) (hr : Steps p.tables e below (T.setTop (mkF m n L (.int (-x) :: S))) t) : Steps p.tables e below (T.setTop (mkF m pc L (.int x :: S))) t := by
  subst hn; exact XS.ineg X.here hx rfl (hb hby hd) rfl hr
theorem o_lneg (X : Stand p l e R s m args below meth c T locs cells slots) (hx : p.tables.exec = Jvm.exec) (hby : c.code = A) {x : Int64} (hd : decode A pc = .ok (.lneg, 1)) (n : Nat) (hn : pc + 1 = n) (hr : Steps p.tables e below (T.setTop (mkF m n L (.long (-x) :: S))) t) : Steps p.tables e below (T.setTop (mkF m pc L (.long x :: S))) t := by
  subst hn; exact XS.lneg X.here hx rfl (hb hby hd) rfl hr
theorem o_i2l (X : Stand p l e R s m args below meth c T locs cells slots) (hx : p.tables.exec = Jvm.exec) (hby : c.code = A) {x : Int32} (hd : decode A pc = .ok (.i2l, 1)) (n : Nat) (hn : pc + 1 = n) (hr : Steps p.tables e below (T.setTop (mkF m n L (.long (x.toInt64) :: S))) t) : Steps p.tables e below (T.setTop (mkF m pc L (.int x :: S))) t := by
  subst hn; exact XS.i2l X.here hx rfl (hb hby hd) rfl hr
theorem o_l2i (X : Stand p l e R s m args below meth c T locs cells slots) (hx : p.tables.exec = Jvm.exec) (hby : c.code = A) {x : Int64} (hd : decode A pc = .ok (.l2i, 1)) (n : Nat) (hn : pc + 1 = n) (hr : Steps p.tables e below (T.setTop (mkF m n L (.int (x.toInt32) :: S))) t) : Steps p.tables e below (T.setTop (mkF m pc L (.long x :: S))) t := by
  subst hn; exact XS.l2i X.here hx rfl (hb hby hd) rfl hr
theorem o_i2b (X : Stand p l e R s m args below meth c T locs cells slots) (hx : p.tables.exec = Jvm.exec) (hby : c.code = A) {x : Int32} (hd : decode A pc = .ok (.i2b, 1)) (n : Nat) (hn : pc + 1 = n) (hr : Steps p.tables e below (T.setTop (mkF m n L (.int (x.toInt8.toInt32) :: S))) t) : Steps p.tables e below (T.setTop (mkF m pc L (.int x :: S))) t := by
  subst hn; exact XS.i2b X.here hx rfl (hb hby hd) rfl hr
theorem o_i2s (X : Stand p l e R s m args below meth c T locs cells slots) (hx : p.tables.exec = Jvm.exec) (hby : c.code = A) {x : Int32} (hd : decode A pc = .ok (.i2s, 1)) (n : Nat) (hn : pc + 1 = n) (hr : Steps p.tables e below (T.setTop (mkF m n L (.int (x.toInt16.toInt32) :: S))) t) : Steps p.tables e below (T.setTop (mkF m pc L (.int x :: S))) t := by
  subst hn; exact XS.i2s X.here hx rfl (hb hby hd) rfl hr
theorem o_i2c (X : Stand p l e R s m args below meth c T locs cells slots) (hx : p.tables.exec = Jvm.exec) (hby : c.code = A) {x : Int32} (hd : decode A pc = .ok (.i2c, 1)) (n : Nat) (hn : pc + 1 = n) (hr : Steps p.tables e below (T.setTop (mkF m n L (.int (x.toUInt32.toUInt16.toUInt32.toInt32) :: S))) t) : Steps p.tables e below (T.setTop (mkF m pc L (.int x :: S))) t := by
  subst hn; exact XS.i2c X.here hx rfl (hb hby hd) rfl hr
theorem o_ishl (X : Stand p l e R s m args below meth c T locs cells slots) (hx : p.tables.exec = Jvm.exec) (hby : c.code = A) {x y : Int32} (hd : decode A pc = .ok (.ishl, 1)) (n : Nat) (hn : pc + 1 = n) (hr : Steps p.tables e below (T.setTop (mkF m n L (.int (x <<< (y &&& 31)) :: S))) t) : Steps p.tables e below (T.setTop (mkF m pc L (.int y :: .int x :: S))) t := by
  subst hn; exact XS.ishl X.here hx rfl (hb hby hd) rfl hr
theorem o_ishr (X : Stand p l e R s m args below meth c T locs cells slots) (hx : p.tables.exec = Jvm.exec) (hby : c.code = A) {x y : Int32} (hd : decode A pc = .ok (.ishr, 1)) (n : Nat) (hn : pc + 1 = n) (hr : Steps p.tables e below (T.setTop (mkF m n L (.int (x >>> (y &&& 31)) :: S))) t) : Steps p.tables e below (T.setTop (mkF m pc L (.int y :: .int x :: S))) t := by
  subst hn; exact XS.ishr X.here hx rfl (hb hby hd) rfl hr
theorem o_iushr (X : Stand p l e R s m args below meth c T locs cells slots) (hx : p.tables.exec = Jvm.exec) (hby : c.code = A) {x y : Int32} (hd : decode A pc = .ok (.iushr, 1)) (n : Nat) (hn : pc + 1 = n) (hr : Steps p.tables e below (T.setTop (mkF m n L (.int ((x.toUInt32 >>> (y &&& 31).toUInt32).toInt32) :: S))) t) : Steps p.tables e below (T.setTop (mkF m pc L (.int y :: .int x :: S))) t := by
  subst hn; exact XS.iushr X.here hx rfl (hb hby hd) rfl hr
theorem o_lshl (X : Stand p l e R s m args below meth c T locs cells slots) (hx : p.tables.exec = Jvm.exec) (hby : c.code = A) {x : Int64} {y : Int32} (hd : decode A pc = .ok (.lshl, 1)) (n : Nat) (hn : pc + 1 = n) (hr : Steps p.tables e below (T.setTop (mkF m n L (.long (x <<< (y &&& 0x3f).toInt64) :: S))) t) : Steps p.tables e below (T.setTop (mkF m pc L (.int y :: .long x :: S))) t := by
  subst hn; exact XS.lshl X.here hx rfl (hb hby hd) rfl hr
theorem o_lshr (X : Stand p l e R s m args below meth c T locs cells slots) (hx : p.tables.exec = Jvm.exec) (hby : c.code = A) {x : Int64} {y : Int32} (hd : decode A pc = .ok (.lshr, 1)) (n : Nat) (hn : pc + 1 = n) (hr : Steps p.tables e below (T.setTop (mkF m n L (.long (x >>> (y &&& 0x3f).toInt64) :: S))) t) : Steps p.tables e below (T.setTop (mkF m pc L (.int y :: .long x :: S))) t := by
  subst hn; exact XS.lshr X.here hx rfl (hb hby hd) rfl hr
theorem o_lushr (X : Stand p l e R s m args below meth c T locs cells slots) (hx : p.tables.exec = Jvm.exec) (hby : c.code = A) {x : Int64} {y : Int32} (hd : decode A pc = .ok (.lushr, 1)) (n : Nat) (hn : pc + 1 = n) (hr : Steps p.tables e below (T.setTop (mkF m n L (.long ((x.toUInt64 >>> (y &&& 0x3f).toInt64.toUInt64).toInt64) :: S))) t) : Steps p.tables e below (T.setTop (mkF m pc L (.int y :: .long x :: S))) t := by
  subst hn; exact XS.lushr X.here hx rfl (hb hby hd) rfl hr
theorem o_lcmp (X : Stand p l e R s m args below meth c T locs cells slots) (hx : p.tables.exec = Jvm.exec) (hby : c.code = A) {x y : Int64} (hd : decode A pc = .ok (.lcmp, 1)) (n : Nat) (hn : pc + 1 = n) (hr : Steps p.tables e below (T.setTop (mkF m n L (.int (lcmpW x y) :: S))) t) : Steps p.tables e below (T.setTop (mkF m pc L (.long y :: .long x :: S))) t := by
  subst hn; exact XS.lcmp X.here hx rfl (hb hby hd) rfl hr
theorem o_dup (X : Stand p l e R s m args below meth c T locs cells slots) (hx : p.tables.exec = Jvm.exec) (hby : c.code = A) {x : Value} (hd : decode A pc = .ok (.dup, 1)) (n : Nat) (hn : pc + 1 = n) (hc : x.category = 1) (hr : Steps p.tables e below (T.setTop (mkF m n L (x :: x :: S))) t) : Steps p.tables e below (T.setTop (mkF m pc L (x :: S))) t := by
  subst hn; exact XS.dup X.here hx rfl (hb hby hd) rfl hc hr
theorem o_dupX1 (X : Stand p l e R s m args below meth c T locs cells slots) (hx : p.tables.exec = Jvm.exec) (hby : c.code = A) {x y : Value} (hd : decode A pc = .ok (.dup_x1, 1)) (n : Nat) (hn : pc + 1 = n) (hc : x.category = 1) (hc' : y.category = 1) (hr : Steps p.tables e below (T.setTop (mkF m n L (x :: y :: x :: S))) t) : Steps p.tables e below (T.setTop (mkF m pc L (x :: y :: S))) t := by
  subst hn; exact XT.dupX1 X.here hx rfl (hb hby hd) rfl hc hc' hr
theorem o_dup2 (X : Stand p l e R s m args below meth c T locs cells slots) (hx : p.tables.exec = Jvm.exec) (hby : c.code = A) {x y : Value} (hd : decode A pc = .ok (.dup2, 1)) (n : Nat) (hn : pc + 1 = n) (hc : x.category = 1) (hc' : y.category = 1) (hr : Steps p.tables e below (T.setTop (mkF m n L (x :: y :: x :: y :: S))) t) : Steps p.tables e below (T.setTop (mkF m pc L (x :: y :: S))) t := by
  subst hn; exact XT.dup2 X.here hx rfl (hb hby hd) rfl hc hc' hr
theorem o_iinc (X : Stand p l e R s m args below meth c T locs cells slots) (hx : p.tables.exec = Jvm.exec) (hby : c.code = A) {k : Nat} {cst : Int} {x : Int32} {l' : Array Slot} (hd : decode A pc = .ok (.iinc k cst, 3)) (n : Nat) (hn : pc + 3 = n) (hl : L[k]? = some (.val (.int x))) {i : Int32} (hi : Int32.ofInt cst = i) (hl' : storeLocals L k (.int (x + i)) = some l') (hr : Steps p.tables e below (T.setTop (mkF m n l' S)) t) : Steps p.tables e below (T.setTop (mkF m pc L S)) t := by
  subst hn; subst hi; exact XS.iinc X.here hx rfl (hb hby hd) hl hl' hr
theorem o_pop (X : Stand p l e R s m args below meth c T locs cells slots) (hx : p.tables.exec = Jvm.exec) (hby : c.code = A) {x : Value} (hd : decode A pc = .ok (.pop, 1)) (n : Nat) (hn : pc + 1 = n) (hc : x.category = 1) (hr : Steps p.tables e below (T.setTop (mkF m n L S)) t) : Steps p.tables e below (T.setTop (mkF m pc L (x :: S))) t := by
  subst hn; exact XT.pop X.here hx rfl (hb hby hd) rfl hc hr
theorem o_goto (X : Stand p l e R s m args below meth c T locs cells slots) (hx : p.tables.exec = Jvm.exec) (hby : c.code = A) {o : Int} (hd : decode A pc = .ok (.goto o, 3)) (n : Nat) (hn : (pc : Int) + o = (n : Int)) (hr : Steps p.tables e below (T.setTop (mkF m n L S)) t) : Steps p.tables e below (T.setTop (mkF m pc L S)) t :=
  XS.goto X.here hx rfl (pc0 := pc) (pc' := n) rfl (hb hby hd) (by omega) (by omega) hr
theorem o_ifY (X : Stand p l e R s m args below meth c T locs cells slots) (hx : p.tables.exec = Jvm.exec) (hby : c.code = A) {cd : ClassFile.Cond} {x : Int32} {o : Int} (hd : decode A pc = .ok (.ifCond cd o, 3)) (n : Nat) (hn : (pc : Int) + o = (n : Int)) (hc : if_icmp.holds cd x 0 = true) (hr : Steps p.tables e below (T.setTop (mkF m n L S)) t) : Steps p.tables e below (T.setTop (mkF m pc L (.int x :: S))) t :=
  XS.ifYes X.here hx rfl (pc0 := pc) (pc' := n) rfl (hb hby hd) rfl ((if0 _ _).trans hc) (by omega) (by omega) hr
theorem o_ifN (X : Stand p l e R s m args below meth c T locs cells slots) (hx : p.tables.exec = Jvm.exec) (hby : c.code = A) {cd : ClassFile.Cond} {x : Int32} {o : Int} (hd : decode A pc = .ok (.ifCond cd o, 3)) (n : Nat) (hn : pc + 3 = n) (hc : if_icmp.holds cd x 0 = false) (hr : Steps p.tables e below (T.setTop (mkF m n L S)) t) : Steps p.tables e below (T.setTop (mkF m pc L (.int x :: S))) t := by
  subst hn; exact XS.ifNo X.here hx rfl (hb hby hd) rfl ((if0 _ _).trans hc) hr
theorem o_icmpY (X : Stand p l e R s m args below meth c T locs cells slots) (hx : p.tables.exec = Jvm.exec) (hby : c.code = A) {cd : ClassFile.Cond} {x y : Int32} {o : Int} (hd : decode A pc = .ok (.if_icmp cd o, 3)) (n : Nat) (hn : (pc : Int) + o = (n : Int)) (hc : if_icmp.holds cd x y = true) (hr : Steps p.tables e below (T.setTop (mkF m n L S)) t) : Steps p.tables e below (T.setTop (mkF m pc L (.int y :: .int x :: S))) t :=
  XS.icmpYes X.here hx rfl (pc0 := pc) (pc' := n) rfl (hb hby hd) rfl hc (by omega) (by omega) hr
theorem o_icmpN (X : Stand p l e R s m args below meth c T locs cells slots) (hx : p.tables.exec = Jvm.exec) (hby : c.code = A) {cd : ClassFile.Cond} {x y : Int32} {o : Int} (hd : decode A pc = .ok (.if_icmp cd o, 3)) (n : Nat) (hn : pc + 3 = n) (hc : if_icmp.holds cd x y = false) (hr : Steps p.tables e below (T.setTop (mkF m n L S)) t) : Steps p.tables e below (T.setTop (mkF m pc L (.int y :: .int x :: S))) t := by
  subst hn; exact XS.icmpNo X.here hx rfl (hb hby hd) rfl hc hr
theorem o_ifnullY (X : Stand p l e R s m args below meth c T locs cells slots) (hx : p.tables.exec = Jvm.exec) (hby : c.code = A) {o : Int} (hd : decode A pc = .ok (.ifnull o, 3)) (n : Nat) (hn : (pc : Int) + o = (n : Int)) (hr : Steps p.tables e below (T.setTop (mkF m n L S)) t) : Steps p.tables e below (T.setTop (mkF m pc L (.null :: S))) t :=
  XS.ifnullYes X.here hx rfl (pc0 := pc) (pc' := n) rfl (hb hby hd) rfl (by omega) (by omega) hr
theorem o_ifnullN (X : Stand p l e R s m args below meth c T locs cells slots) (hx : p.tables.exec = Jvm.exec) (hby : c.code = A) {a : Addr} {o : Int} (hd : decode A pc = .ok (.ifnull o, 3)) (n : Nat) (hn : pc + 3 = n) (hr : Steps p.tables e below (T.setTop (mkF m n L S)) t) : Steps p.tables e below (T.setTop (mkF m pc L (.ref a :: S))) t := by
  subst hn; exact XS.ifnullNo X.here hx rfl (hb hby hd) rfl hr
theorem o_ifnonnullY (X : Stand p l e R s m args below meth c T locs cells slots) (hx : p.tables.exec = Jvm.exec) (hby : c.code = A) {a : Addr} {o : Int} (hd : decode A pc = .ok (.ifnonnull o, 3)) (n : Nat) (hn : (pc : Int) + o = (n : Int)) (hr : Steps p.tables e below (T.setTop (mkF m n L S)) t) : Steps p.tables e below (T.setTop (mkF m pc L (.ref a :: S))) t :=
  XS.ifnonnullYes X.here hx rfl (pc0 := pc) (pc' := n) rfl (hb hby hd) rfl (by omega) (by omega) hr
theorem o_ifnonnullN (X : Stand p l e R s m args below meth c T locs cells slots) (hx : p.tables.exec = Jvm.exec) (hby : c.code = A) {o : Int} (hd : decode A pc = .ok (.ifnonnull o, 3)) (n : Nat) (hn : pc + 3 = n) (hr : Steps p.tables e below (T.setTop (mkF m n L S)) t) : Steps p.tables e below (T.setTop (mkF m pc L (.null :: S))) t := by
  subst hn; exact XS.ifnonnullNo X.here hx rfl (hb hby hd) rfl hr
theorem o_acmp (X : Stand p l e R s m args below meth c T locs cells slots) (hx : p.tables.exec = Jvm.exec) (hby : c.code = A) {cd : ClassFile.ACond} {x y : Value} {o : Int} (hd : decode A pc = .ok (.if_acmp cd o, 3)) (n : Nat) {same : Bool} (h1 : x.isRef = true) (h2 : y.isRef = true) (hq : decide (x = y) = same) (ho : 0 ≤ (pc : Int) + o) (hp : n = if acV cd same = true then ((pc : Int) + o).toNat else pc + 3) (hr : Steps p.tables e below (T.setTop (mkF m n L S)) t) : Steps p.tables e below (T.setTop (mkF m pc L (y :: x :: S))) t :=
  Jvm.RoadKit.acmp X hx rfl h1 h2 (pc0 := pc) (pc' := n) rfl (hb hby hd) rfl hq ho hp hr
theorem o_ldcInt (X : Stand p l e R s m args below meth c T locs cells slots) (hx : p.tables.exec = Jvm.exec) (hby : c.code = A) {own : String} {i : Nat} {v : Int32} (hown : s.vm.findClass own = some m.cls) (hc : (Cond.constant own i v).before args s = true) (hd : decode A pc = .ok (.ldc i, 2)) (n : Nat) (hn : pc + 2 = n) (hr : Steps p.tables e below (T.setTop (mkF m n L (.int v :: S))) t) : Steps p.tables e below (T.setTop (mkF m pc L S)) t := by
  subst hn; exact X.ldcInt hx hown hc (g := mkF m pc L S) rfl (hb hby hd) t hr
theorem o_ldcwInt (X : Stand p l e R s m args below meth c T locs cells slots) (hx : p.tables.exec = Jvm.exec) (hby : c.code = A) {own : String} {i : Nat} {v : Int32} (hown : s.vm.findClass own = some m.cls) (hc : (Cond.constant own i v).before args s = true) (hd : decode A pc = .ok (.ldc_w i, 3)) (n : Nat) (hn : pc + 3 = n) (hr : Steps p.tables e below (T.setTop (mkF m n L (.int v :: S))) t) : Steps p.tables e below (T.setTop (mkF m pc L S)) t := by
  subst hn; exact X.ldcwInt hx hown hc (g := mkF m pc L S) rfl (hb hby hd) t hr
theorem o_ldc2Long (X : Stand p l e R s m args below meth c T locs cells slots) (hx : p.tables.exec = Jvm.exec) (hby : c.code = A) {own : String} {i : Nat} {v : Int64} (hown : s.vm.findClass own = some m.cls) (hc : (Cond.constantLong own i v).before args s = true) (hd : decode A pc = .ok (.ldc2_w i, 3)) (n : Nat) (hn : pc + 3 = n) (hr : Steps p.tables e below (T.setTop (mkF m n L (.long v :: S))) t) : Steps p.tables e below (T.setTop (mkF m pc L S)) t := by
  subst hn; exact X.ldc2Long hx hown hc (g := mkF m pc L S) rfl (hb hby hd) t hr
theorem o_b0 : narrow .boolean (.int (0 : Int32)) = .int (0 : Int32) := by decide
theorem o_b1 : narrow .boolean (.int (1 : Int32)) = .int (1 : Int32) := by decide
theorem o_b01 {z : Int32} (h : z = 0 ∨ z = 1) : narrow .boolean (.int z) = .int z := by rcases h with rfl | rfl <;> decide
theorem o_nf {z : Int32} (h : z = 0 ∨ z = 1) : narrow .boolean (.int z) = .int z ∧ fits .boolean (.int z) = true := by rcases h with rfl | rfl <;> decide
theorem o_retZ (X : Stand p l e R s m args below meth c T locs cells slots) (hx : p.tables.exec = Jvm.exec) {Ls : Array Slot} {z : Int32} {rest : List Value} (hret : meth.sig.returnType = some .boolean)
    (hd : decode c.code pc = .ok (.ireturn, 1)) (hz : z = 0 ∨ z = 1) {fs : List Frame} (hl : ∀ (f : JFrame) (acts : List Action), f.method = m → f.locked = none → f.entered = [] → (doReturn e (T.setTop f) acts (some (.int z))).1 = T.setFrames fs) :
    Steps p.tables e below (T.setTop (mkF m pc Ls (.int z :: rest))) (T.setFrames fs) :=
  retOut X hx hret (o_b01 hz) (Or.inl ⟨rfl, Or.inr (Or.inl rfl), z, rfl⟩) hd hl
theorem o_retI (X : Stand p l e R s m args below meth c T locs cells slots) (hx : p.tables.exec = Jvm.exec) {Ls : Array Slot} {z : Int32} {rest : List Value} (hret : meth.sig.returnType = some .int)
    (hd : decode c.code pc = .ok (.ireturn, 1)) {fs : List Frame} (hl : ∀ (f : JFrame) (acts : List Action), f.method = m → f.locked = none → f.entered = [] → (doReturn e (T.setTop f) acts (some (.int z))).1 = T.setFrames fs) :
    Steps p.tables e below (T.setTop (mkF m pc Ls (.int z :: rest))) (T.setFrames fs) :=
  retOut X hx hret rfl (Or.inl ⟨rfl, Or.inl rfl, z, rfl⟩) hd hl
theorem o_retB (X : Stand p l e R s m args below meth c T locs cells slots) (hx : p.tables.exec = Jvm.exec) {Ls : Array Slot} {z : Int32} {rest : List Value} (hret : meth.sig.returnType = some .byte)
    (hd : decode c.code pc = .ok (.ireturn, 1)) (hz : narrow .byte (.int z) = .int z) {fs : List Frame} (hl : ∀ (f : JFrame) (acts : List Action), f.method = m → f.locked = none → f.entered = [] → (doReturn e (T.setTop f) acts (some (.int z))).1 = T.setFrames fs) :
    Steps p.tables e below (T.setTop (mkF m pc Ls (.int z :: rest))) (T.setFrames fs) :=
  retOut X hx hret hz (Or.inl ⟨rfl, Or.inr (Or.inr (Or.inl rfl)), z, rfl⟩) hd hl
theorem o_retJ (X : Stand p l e R s m args below meth c T locs cells slots) (hx : p.tables.exec = Jvm.exec) {Ls : Array Slot} {z : Int64} {rest : List Value} (hret : meth.sig.returnType = some .long)
    (hd : decode c.code pc = .ok (.lreturn, 1)) {fs : List Frame} (hl : ∀ (f : JFrame) (acts : List Action), f.method = m → f.locked = none → f.entered = [] → (doReturn e (T.setTop f) acts (some (.long z))).1 = T.setFrames fs) :
    Steps p.tables e below (T.setTop (mkF m pc Ls (.long z :: rest))) (T.setFrames fs) :=
  retOut X hx hret rfl (Or.inr (Or.inl ⟨rfl, rfl, z, rfl⟩)) hd hl
theorem o_retR (X : Stand p l e R s m args below meth c T locs cells slots) (hx : p.tables.exec = Jvm.exec) {Ls : Array Slot} {w : Value} {ty : FieldType} {rest : List Value} (hret : meth.sig.returnType = some ty) (ht : ty.isReference = true)
    (hd : decode c.code pc = .ok (.areturn, 1)) (hw : w.isRef = true) (hn : narrow ty w = w) {fs : List Frame} (hl : ∀ (f : JFrame) (acts : List Action), f.method = m → f.locked = none → f.entered = [] → (doReturn e (T.setTop f) acts (some w)).1 = T.setFrames fs) :
    Steps p.tables e below (T.setTop (mkF m pc Ls (w :: rest))) (T.setFrames fs) :=
  retOut X hx hret hn (Or.inr (Or.inr (Or.inr (Or.inr ⟨rfl, ht, hw⟩)))) hd hl
end Own

theorem d4_0 : decode jdk_22_method_1_code 0 = .ok (.aload_n 0, 1) := by decide +kernel
theorem d4_1 : decode jdk_22_method_1_code 1 = .ok (.invokespecial 1, 3) := by decide +kernel
theorem d4_4 : decode jdk_22_method_1_code 4 = .ok (.return_, 1) := by decide +kernel
theorem pn_4 : plainName "java/util/AbstractCollection" = true := by first | (simp [plainName, overriddenIn]; done) | decide +kernel
theorem ef_4 (m : MethodId) (x0 : Addr) : entryFrame m #[(.ref x0)] 1 = mkF m 0 #[.val (.ref x0)] [] := by first | (simp [entryFrame, mkF, argsToLocals, Value.category]; done) | rfl
def Q4 (Z : State) (a0 : Addr) (h0 : Heap) (n0 : Nat) (v : Option Value) (h : Heap) (L : List Loc) : Prop := v = none ∧ Fr n0 L ∧ h = h0
set_option maxRecDepth 65536 in
set_option maxHeartbeats 40000000 in
theorem rm4 (l : Launch) (Z : State) (aw : Array Value) (hw : ∀ d ∈ tables_1, d.before aw Z = true) (ws : List Jvm.Cond) (a0 : Addr) (h0 : Heap) (n0 : Nat) (Z0 : n0 ≤ h0.size) :
    MetFree l (⟨"java/util/AbstractCollection", "<init>", "()V"⟩ : MethodName) (head1 (Jvm.Cond.code (⟨"java/util/AbstractCollection", "<init>", "()V"⟩ : MethodName) jdk_22_method_1_code 1 none :: ws) ({ frames := 1, cells := 0, slots := 0, locals := 12 } : Room)) (fun a U => a = #[(.ref a0)] ∧ Z.Warmed39 U.vm ∧ U.heap = h0) (fun _ _ _ _ _ => True) (fun _ U o U' => ∃ v L, o = .returned v ∧ Q4 Z a0 h0 n0 v U'.heap L ∧ FrameEnd U o U' L ({ frames := 1, cells := 0, slots := 0, locals := 12 } : Room).cells ({ frames := 1, cells := 0, slots := 0, locals := 12 } : Room).slots) := by
  refine MetFree.of_bodySF (plainFor_of_name pn_4) hisR ?_
  intro p e s m args below meth c s₁ Bd hml0 hP hK
  obtain ⟨rfl, hZ, hh⟩ := hP
  have hx := Bd.exec
  have hby := Bd.bytes
  have hml : c.maxLocals = 1 := hml0
  have hown : s.vm.findClass "java/util/AbstractCollection" = some m.cls := findClass_of_methodNamed Bd.named
  have hnm := (name_of_methodNamed Bd.named Bd.method).1
  have X0 : Stand p l e ({ frames := 1, cells := 0, slots := 0, locals := 12 } : Room) s m #[(.ref a0)] below meth c s₁ [] 0 0 := Stand.of_body Bd
  have e0 : s₁.heap = h0 := by rw [← hh, Bd.state]; rfl
  have N0 := Fr.nil n0
  obtain ⟨A0, hA0⟩ : ∃ A0, A0 = s₁.setTop (entryFrame m #[(.ref a0)] 1) := ⟨_, rfl⟩
  have go0 : Go p e below A0 (s₁.setTop (mkF m 0 #[.val (.ref a0)] [])) := fun t k => by rw [hA0]; exact castTop (ef_4 m a0) k
  obtain ⟨T1, X1, e1, st1⟩ := initO X0 hx hZ hown (hw _ (List.mem_of_getElem? (i := 21) rfl)) (hw _ (List.mem_of_getElem? (i := 7) rfl)) (hw _ (List.mem_of_getElem? (i := 8) rfl)) e0 (g := (mkF m 1 #[.val (.ref a0)] [(.ref a0)])) rfl (by rw [hml]; rfl) rfl (hb hby d4_1) (by decide) (W := 0) (by show 2 * 0 + _ ≤ _; exact Nat.le_of_eq rfl) (by decide)
  have go1 : Go p e below A0 (T1.setTop (mkF m 4 #[.val (.ref a0)] [])) := by
    intro t k
    refine go0 t ?_
    refine o_aloadN X0 hx hby d4_0 1 rfl rfl rfl ?_
    refine st1 _ ?_
    exact k
  subst hA0
  obtain ⟨fs, hr, hrun, hended, hW, hsame⟩ := X1.leave (v := none) (fun _ => rfl)
  refine ⟨_, _, go1 _ (X1.returnOut hx Bd.returns (hb hby d4_4) hr), hrun, hended, _, _, rfl, ?_, ⟨_, rfl⟩, hW, hsame.mono (by decide) (by decide)⟩
  show Q4 Z a0 h0 n0 _ T1.heap _
  rw [e1]
  exact ⟨rfl, N0, rfl⟩
theorem d3_0 : decode jdk_21_method_4_code 0 = .ok (.aload_n 0, 1) := by decide +kernel
theorem d3_1 : decode jdk_21_method_4_code 1 = .ok (.invokespecial 42, 3) := by decide +kernel
theorem d3_4 : decode jdk_21_method_4_code 4 = .ok (.aload_n 0, 1) := by decide +kernel
theorem d3_5 : decode jdk_21_method_4_code 5 = .ok (.iload_n 1, 1) := by decide +kernel
theorem d3_6 : decode jdk_21_method_4_code 6 = .ok (.iconst 1, 1) := by decide +kernel
theorem d3_7 : decode jdk_21_method_4_code 7 = .ok (.if_icmp .ge 7, 3) := by decide +kernel
theorem d3_10 : decode jdk_21_method_4_code 10 = .ok (.iconst 1, 1) := by decide +kernel
theorem d3_11 : decode jdk_21_method_4_code 11 = .ok (.goto 17, 3) := by decide +kernel
theorem d3_14 : decode jdk_21_method_4_code 14 = .ok (.iload_n 1, 1) := by decide +kernel
theorem d3_15 : decode jdk_21_method_4_code 15 = .ok (.ldc 41, 2) := by decide +kernel
theorem d3_17 : decode jdk_21_method_4_code 17 = .ok (.if_icmp .ne 8, 3) := by decide +kernel
theorem d3_20 : decode jdk_21_method_4_code 20 = .ok (.ldc 41, 2) := by decide +kernel
theorem d3_22 : decode jdk_21_method_4_code 22 = .ok (.goto 6, 3) := by decide +kernel
theorem d3_25 : decode jdk_21_method_4_code 25 = .ok (.iload_n 1, 1) := by decide +kernel
theorem d3_26 : decode jdk_21_method_4_code 26 = .ok (.iconst 1, 1) := by decide +kernel
theorem d3_27 : decode jdk_21_method_4_code 27 = .ok (.iadd, 1) := by decide +kernel
theorem d3_28 : decode jdk_21_method_4_code 28 = .ok (.anewarray 47, 3) := by decide +kernel
theorem d3_31 : decode jdk_21_method_4_code 31 = .ok (.putfield 3, 3) := by decide +kernel
theorem d3_34 : decode jdk_21_method_4_code 34 = .ok (.return_, 1) := by decide +kernel
theorem pn_3 : plainName "java/util/ArrayDeque" = true := by first | (simp [plainName, overriddenIn]; done) | decide +kernel
theorem pd_2 : parseMethodDescriptor "()V" = some ⟨[], none⟩ := by decide +kernel
theorem ef_3 (m : MethodId) (x0 : Addr) : entryFrame m #[(.ref x0), (.int (3 : Int32))] 2 = mkF m 0 #[.val (.ref x0), .val (.int (3 : Int32))] [] := by first | (simp [entryFrame, mkF, argsToLocals, Value.category]; done) | rfl
def Q3 (Z : State) (a0 : Addr) (h0 : Heap) (n0 : Nat) (v : Option Value) (h : Heap) (L : List Loc) : Prop := v = none ∧ Fr n0 L ∧ Keep h0 h [a0] ∧ Fld Z h a0 "java/util/ArrayDeque" "head" "I" (.int (0 : Int32)) ∧ Fld Z h a0 "java/util/ArrayDeque" "tail" "I" (.int (0 : Int32)) ∧ True
set_option maxRecDepth 65536 in
set_option maxHeartbeats 40000000 in
theorem rm3 (l : Launch) (Z : State) (aw : Array Value) (hw : ∀ d ∈ tables_1, d.before aw Z = true) (ws : List Jvm.Cond) (a0 : Addr) (h0 : Heap) (n0 : Nat) (Z0 : n0 ≤ h0.size) (r0 : Exa Z h0 a0 "java/util/ArrayDeque") (r1 : n0 ≤ a0) (r2 : Fld Z h0 a0 "java/util/ArrayDeque" "elements" "[Ljava/lang/Object;" .null) (r3 : Fld Z h0 a0 "java/util/ArrayDeque" "head" "I" (.int (0 : Int32))) (r4 : Fld Z h0 a0 "java/util/ArrayDeque" "tail" "I" (.int (0 : Int32))) :
    MetFree l (⟨"java/util/ArrayDeque", "<init>", "(I)V"⟩ : MethodName) (head1 (Jvm.Cond.code (⟨"java/util/ArrayDeque", "<init>", "(I)V"⟩ : MethodName) jdk_21_method_4_code 2 none :: ws) ({ frames := 2, cells := 1, slots := 4, locals := 24 } : Room)) (fun a U => a = #[(.ref a0), (.int (3 : Int32))] ∧ Z.Warmed39 U.vm ∧ U.heap = h0) (fun _ _ _ _ _ => True) (fun _ U o U' => ∃ v L, o = .returned v ∧ Q3 Z a0 h0 n0 v U'.heap L ∧ FrameEnd U o U' L ({ frames := 2, cells := 1, slots := 4, locals := 24 } : Room).cells ({ frames := 2, cells := 1, slots := 4, locals := 24 } : Room).slots) := by
  refine MetFree.of_bodySF (plainFor_of_name pn_3) hisR ?_
  intro p e s m args below meth c s₁ Bd hml0 hP hK
  obtain ⟨rfl, hZ, hh⟩ := hP
  have hx := Bd.exec
  have hby := Bd.bytes
  have hml : c.maxLocals = 2 := hml0
  have hown : s.vm.findClass "java/util/ArrayDeque" = some m.cls := findClass_of_methodNamed Bd.named
  have hnm := (name_of_methodNamed Bd.named Bd.method).1
  have X0 : Stand p l e ({ frames := 2, cells := 1, slots := 4, locals := 24 } : Room) s m #[(.ref a0), (.int (3 : Int32))] below meth c s₁ [] 0 0 := Stand.of_body Bd
  have e0 : s₁.heap = h0 := by rw [← hh, Bd.state]; rfl
  have N0 := Fr.nil n0
  obtain ⟨A0, hA0⟩ : ∃ A0, A0 = s₁.setTop (entryFrame m #[(.ref a0), (.int (3 : Int32))] 2) := ⟨_, rfl⟩
  have go0 : Go p e below A0 (s₁.setTop (mkF m 0 #[.val (.ref a0), .val (.int (3 : Int32))] [])) := fun t k => by rw [hA0]; exact castTop (ef_3 m a0) k
  obtain ⟨_, _, ⟨T1, L1, k1, n1⟩, -, X1, ⟨Lc1, hQ1, l1, y1, z1⟩, st1⟩ := X0.specialBack hx (y := (⟨"java/util/AbstractCollection", "<init>", "()V"⟩ : MethodName)) rfl hown (mvT hZ (hw _ (List.mem_of_getElem? (i := 15) rfl))) (mvT hZ (hw _ (List.mem_of_getElem? (i := 16) rfl))) (mvT hZ (hw _ (List.mem_of_getElem? (i := 20) rfl))) (by decide) (backOf (W := 0) (rm4 l Z aw hw [] a0 h0 n0 Z0 ) hZ (hw _ (List.mem_of_getElem? (i := 20) rfl)) (hw _ (List.mem_of_getElem? (i := 19) rfl)) (by decide) (by decide)) (g := (mkF m 1 #[.val (.ref a0), .val (.int (3 : Int32))] [(.ref a0)])) rfl (by rw [hml]; rfl) (Steps.refl _) (a := a0) (argsL := []) (rest := []) (lenOf pd_2 rfl) rfl (by show 2 * 0 + _ ≤ _; exact Nat.le_of_eq rfl) (hb hby d3_1) (fun _ _ => ⟨rfl, e0, (by decide : 0 + 0 ≤ _), (by decide : 0 + 0 ≤ _)⟩)
  dsimp only [Pt.U, Pt.locs, Pt.cells, Pt.slots] at X1 l1 y1 z1 st1 hQ1
  subst l1 y1 z1
  obtain ⟨rfl, N1q, e1⟩ := hQ1
  have N1 := Fr.app N0 N1q
  obtain ⟨T2, h2, k2, X2, e2, E2, A2, O2, st2⟩ := newR X1 hx hZ hown (hw _ (List.mem_of_getElem? (i := 23) rfl)) (hw _ (List.mem_of_getElem? (i := 24) rfl)) e1 (g := (mkF m 28 #[.val (.ref a0), .val (.int (3 : Int32))] [(.int ((3 : Int32) + (1 : Int32))), (.ref a0)])) rfl (hb hby d3_28) rfl (by decide) (cap := 4) (by decide) (by decide) (by decide) (by decide)
  obtain ⟨b2, g2⟩ : ∃ z, z = h0.size := ⟨_, rfl⟩
  rw [← g2] at A2 st2
  have ne_a0_b2 : a0 ≠ b2 := Nat.ne_of_lt (Nat.lt_of_lt_of_le r0.lt (Nat.le_of_eq g2.symm))
  have g_b2 : n0 ≤ b2 := Nat.le_trans Z0 (Nat.le_of_eq g2.symm)
  have sz_b2 : h0.size ≤ b2 := Nat.le_trans (Keep.refl h0 [a0]).1 (Nat.le_of_eq g2.symm)
  have f1 : Exa Z h2 a0 "java/util/ArrayDeque" := r0.ext E2
  have f2 : Fld Z h2 a0 "java/util/ArrayDeque" "elements" "[Ljava/lang/Object;" .null := r2.ext E2
  have f3 : Fld Z h2 a0 "java/util/ArrayDeque" "head" "I" (.int (0 : Int32)) := r3.ext E2
  have f4 : Fld Z h2 a0 "java/util/ArrayDeque" "tail" "I" (.int (0 : Int32)) := r4.ext E2
  have Zp2 : n0 ≤ h2.size := Nat.le_trans Z0 E2.1
  have K2 : Keep h0 h2 [a0] := (Keep.refl h0 [a0]).ext E2
  have f5 : Arv Z h2 b2 k2 (.object "java/lang/Object") ((3 : Int32) + (1 : Int32)) [] .null := Arv.new A2 (by decide)
  have go1 : Go p e below A0 (T2.setTop (mkF m 31 #[.val (.ref a0), .val (.int (3 : Int32))] [(.ref b2), (.ref a0)])) := by
    intro t k
    refine go0 t ?_
    refine o_aloadN X0 hx hby d3_0 1 rfl rfl rfl ?_
    refine st1.trans ?_
    show Steps p.tables e below (T1.setTop (mkF m 4 #[.val (.ref a0), .val (.int (3 : Int32))] [])) _
    refine o_aloadN X1 hx hby d3_4 5 rfl rfl rfl ?_
    refine o_iloadN X1 hx hby d3_5 6 rfl rfl ?_
    refine o_iconst X1 hx hby d3_6 7 rfl (v := (1 : Int32)) rfl ?_
    refine o_icmpY X1 hx hby d3_7 14 rfl (flt (by decide)).2.1 ?_
    refine o_iloadN X1 hx hby d3_14 15 rfl rfl ?_
    refine o_ldcInt X1 hx hby hown (mvT hZ (hw _ (List.mem_of_getElem? (i := 22) rfl))) d3_15 17 rfl ?_
    refine o_icmpY X1 hx hby d3_17 25 rfl (feq (by decide)).2 ?_
    refine o_iloadN X1 hx hby d3_25 26 rfl rfl ?_
    refine o_iconst X1 hx hby d3_26 27 rfl (v := (1 : Int32)) rfl ?_
    refine o_iadd X1 hx hby d3_27 28 rfl ?_
    refine st2 _ ?_
    show Steps p.tables e below (T2.setTop (mkF m 31 #[.val (.ref a0), .val (.int (3 : Int32))] [(.ref b2), (.ref a0)])) _
    exact k
  obtain ⟨T3, h3, X3, e3, W3, st3⟩ := putF X2 hx hZ hown (host := "") (Or.inl (hw _ (List.mem_of_getElem? (i := 25) rfl))) Via.refl e2 f2 f1 (Or.inl (hw _ (List.mem_of_getElem? (i := 26) rfl))) (hw _ (List.mem_of_getElem? (i := 10) rfl)) (ty := (.array (.object "java/lang/Object"))) (by decide) rfl rfl (g := (mkF m 31 #[.val (.ref a0), .val (.int (3 : Int32))] [(.ref b2), (.ref a0)])) rfl rfl (hb hby d3_31)
  have f6 : Exa Z h3 a0 "java/util/ArrayDeque" := f1.wr W3
  have f7 : Fld Z h3 a0 "java/util/ArrayDeque" "head" "I" (.int (0 : Int32)) := f3.other W3 (Or.inr (slot_ne (Or.inl (hw _ (List.mem_of_getElem? (i := 59) rfl))) (Or.inl (hw _ (List.mem_of_getElem? (i := 26) rfl))) (by decide) (t := .int) (t' := (.array (.object "java/lang/Object"))) (by decide) (by decide)))
  have f8 : Fld Z h3 a0 "java/util/ArrayDeque" "tail" "I" (.int (0 : Int32)) := f4.other W3 (Or.inr (slot_ne (Or.inl (hw _ (List.mem_of_getElem? (i := 61) rfl))) (Or.inl (hw _ (List.mem_of_getElem? (i := 26) rfl))) (by decide) (t := .int) (t' := (.array (.object "java/lang/Object"))) (by decide) (by decide)))
  have f9 : Arv Z h3 b2 k2 (.object "java/lang/Object") ((3 : Int32) + (1 : Int32)) [] .null := f5.other W3 (Ne.symm ne_a0_b2)
  have Zp3 : n0 ≤ h3.size := Nat.le_trans Zp2 (Keep.of_wr W3).1
  have K3 : Keep h0 h3 [a0] := K2.wr W3 (Or.inl (List.mem_of_getElem? (i := 0) rfl))
  have N3 := Fr.snoc X3 N1 r1
  have f10 : Fld Z h3 a0 "java/util/ArrayDeque" "elements" "[Ljava/lang/Object;" (.ref b2) := f2.same W3
  have go2 : Go p e below A0 (T3.setTop (mkF m 34 #[.val (.ref a0), .val (.int (3 : Int32))] [])) := by
    intro t k
    refine go1 t ?_
    refine st3 _ ?_
    show Steps p.tables e below (T3.setTop (mkF m 34 #[.val (.ref a0), .val (.int (3 : Int32))] [])) _
    exact k
  subst hA0
  obtain ⟨fs, hr, hrun, hended, hW, hsame⟩ := X3.leave (v := none) (fun _ => rfl)
  refine ⟨_, _, go2 _ (X3.returnOut hx Bd.returns (hb hby d3_34) hr), hrun, hended, _, _, rfl, ?_, ⟨_, rfl⟩, hW, hsame.mono (by decide) (by decide)⟩
  show Q3 Z a0 h0 n0 _ T3.heap _
  rw [e3]
  exact ⟨rfl, N3, K3, f7, f8, trivial⟩
theorem d1_0 : decode prog_33_method_1_code 0 = .ok (.aload_n 0, 1) := by decide +kernel
theorem d1_1 : decode prog_33_method_1_code 1 = .ok (.invokespecial 1, 3) := by decide +kernel
theorem d1_4 : decode prog_33_method_1_code 4 = .ok (.aload_n 0, 1) := by decide +kernel
theorem d1_5 : decode prog_33_method_1_code 5 = .ok (.new 7, 3) := by decide +kernel
theorem d1_8 : decode prog_33_method_1_code 8 = .ok (.dup, 1) := by decide +kernel
theorem d1_9 : decode prog_33_method_1_code 9 = .ok (.iconst 3, 1) := by decide +kernel
theorem d1_10 : decode prog_33_method_1_code 10 = .ok (.invokespecial 11, 3) := by decide +kernel
theorem d1_13 : decode prog_33_method_1_code 13 = .ok (.putfield 14, 3) := by decide +kernel
theorem d1_16 : decode prog_33_method_1_code 16 = .ok (.return_, 1) := by decide +kernel
theorem pn_1 : plainName "com/example/eager_courier/eagercourier/connection/OutboundQueue" = true := by first | (simp [plainName, overriddenIn]; done) | decide +kernel
theorem pd_4 : parseMethodDescriptor "(I)V" = some ⟨[.int], none⟩ := by decide +kernel
theorem ef_1 (m : MethodId) (x0 : Addr) : entryFrame m #[(.ref x0)] 1 = mkF m 0 #[.val (.ref x0)] [] := by first | (simp [entryFrame, mkF, argsToLocals, Value.category]; done) | rfl
def Q1 (Z : State) (a0 : Addr) (h0 : Heap) (n0 : Nat) (v : Option Value) (h : Heap) (L : List Loc) : Prop := v = none ∧ Fr n0 L ∧ Keep h0 h [a0] ∧ ∃ bq : Addr, h0.size ≤ bq ∧ Fld Z h a0 "com/example/eager_courier/eagercourier/connection/OutboundQueue" "packets" "Ljava/util/ArrayDeque;" (.ref bq) ∧ Exa Z h bq "java/util/ArrayDeque" ∧ Fld Z h bq "java/util/ArrayDeque" "head" "I" (.int (0 : Int32)) ∧ Fld Z h bq "java/util/ArrayDeque" "tail" "I" (.int (0 : Int32)) ∧ Fld Z h a0 "com/example/eager_courier/eagercourier/connection/OutboundQueue" "notTaken" "J" (.long (0 : Int64)) ∧ Fld Z h a0 "com/example/eager_courier/eagercourier/connection/OutboundQueue" "held" "J" (.long (0 : Int64)) ∧ Fld Z h a0 "com/example/eager_courier/eagercourier/connection/OutboundQueue" "lagging" "Z" (.int (0 : Int32)) ∧ Fld Z h a0 "com/example/eager_courier/eagercourier/connection/OutboundQueue" "socketFull" "Z" (.int (0 : Int32)) ∧ True
set_option maxRecDepth 65536 in
set_option maxHeartbeats 40000000 in
theorem rm1 (l : Launch) (Z : State) (aw : Array Value) (hw : ∀ d ∈ tables_1, d.before aw Z = true) (ws : List Jvm.Cond) (a0 : Addr) (h0 : Heap) (n0 : Nat) (Z0 : n0 ≤ h0.size) (r0 : Exa Z h0 a0 "com/example/eager_courier/eagercourier/connection/OutboundQueue") (r1 : n0 ≤ a0) (r2 : Fld Z h0 a0 "com/example/eager_courier/eagercourier/connection/OutboundQueue" "packets" "Ljava/util/ArrayDeque;" .null) (r3 : Fld Z h0 a0 "com/example/eager_courier/eagercourier/connection/OutboundQueue" "notTaken" "J" (.long (0 : Int64))) (r4 : Fld Z h0 a0 "com/example/eager_courier/eagercourier/connection/OutboundQueue" "held" "J" (.long (0 : Int64))) (r5 : Fld Z h0 a0 "com/example/eager_courier/eagercourier/connection/OutboundQueue" "lagging" "Z" (.int (0 : Int32))) (r6 : Fld Z h0 a0 "com/example/eager_courier/eagercourier/connection/OutboundQueue" "socketFull" "Z" (.int (0 : Int32))) :
    MetFree l (⟨"com/example/eager_courier/eagercourier/connection/OutboundQueue", "<init>", "()V"⟩ : MethodName) (head1 (Jvm.Cond.code (⟨"com/example/eager_courier/eagercourier/connection/OutboundQueue", "<init>", "()V"⟩ : MethodName) prog_33_method_1_code 1 none :: ws) ({ frames := 3, cells := 2, slots := 7, locals := 39 } : Room)) (fun a U => a = #[(.ref a0)] ∧ Z.Warmed39 U.vm ∧ U.heap = h0) (fun _ _ _ _ _ => True) (fun _ U o U' => ∃ v L, o = .returned v ∧ Q1 Z a0 h0 n0 v U'.heap L ∧ FrameEnd U o U' L ({ frames := 3, cells := 2, slots := 7, locals := 39 } : Room).cells ({ frames := 3, cells := 2, slots := 7, locals := 39 } : Room).slots) := by
  refine MetFree.of_bodySF (plainFor_of_name pn_1) hisR ?_
  intro p e s m args below meth c s₁ Bd hml0 hP hK
  obtain ⟨rfl, hZ, hh⟩ := hP
  have hx := Bd.exec
  have hby := Bd.bytes
  have hml : c.maxLocals = 1 := hml0
  have hown : s.vm.findClass "com/example/eager_courier/eagercourier/connection/OutboundQueue" = some m.cls := findClass_of_methodNamed Bd.named
  have hnm := (name_of_methodNamed Bd.named Bd.method).1
  have X0 : Stand p l e ({ frames := 3, cells := 2, slots := 7, locals := 39 } : Room) s m #[(.ref a0)] below meth c s₁ [] 0 0 := Stand.of_body Bd
  have e0 : s₁.heap = h0 := by rw [← hh, Bd.state]; rfl
  have N0 := Fr.nil n0
  obtain ⟨A0, hA0⟩ : ∃ A0, A0 = s₁.setTop (entryFrame m #[(.ref a0)] 1) := ⟨_, rfl⟩
  have go0 : Go p e below A0 (s₁.setTop (mkF m 0 #[.val (.ref a0)] [])) := fun t k => by rw [hA0]; exact castTop (ef_1 m a0) k
  obtain ⟨T1, X1, e1, st1⟩ := initO X0 hx hZ hown (hw _ (List.mem_of_getElem? (i := 6) rfl)) (hw _ (List.mem_of_getElem? (i := 7) rfl)) (hw _ (List.mem_of_getElem? (i := 8) rfl)) e0 (g := (mkF m 1 #[.val (.ref a0)] [(.ref a0)])) rfl (by rw [hml]; rfl) rfl (hb hby d1_1) (by decide) (W := 0) (by show 2 * 0 + _ ≤ _; exact Nat.le_of_eq rfl) (by decide)
  obtain ⟨T2, h2, X2, e2, E2, A2, D2, -, st2⟩ := newO X1 hx hZ hown (hw _ (List.mem_of_getElem? (i := 9) rfl)) (hw _ (List.mem_of_getElem? (i := 10) rfl)) (hw _ (List.mem_of_getElem? (i := 11) rfl)) e1 (g := (mkF m 5 #[.val (.ref a0)] [(.ref a0)])) rfl (hb hby d1_5) (by decide) (by decide)
  obtain ⟨b2, g2⟩ : ∃ z, z = h0.size := ⟨_, rfl⟩
  rw [← g2] at A2 D2 st2
  have ne_a0_b2 : a0 ≠ b2 := Nat.ne_of_lt (Nat.lt_of_lt_of_le r0.lt (Nat.le_of_eq g2.symm))
  have g_b2 : n0 ≤ b2 := Nat.le_trans Z0 (Nat.le_of_eq g2.symm)
  have sz_b2 : h0.size ≤ b2 := Nat.le_trans (Keep.refl h0 [a0]).1 (Nat.le_of_eq g2.symm)
  have f1 : Exa Z h2 a0 "com/example/eager_courier/eagercourier/connection/OutboundQueue" := r0.ext E2
  have f2 : Fld Z h2 a0 "com/example/eager_courier/eagercourier/connection/OutboundQueue" "packets" "Ljava/util/ArrayDeque;" .null := r2.ext E2
  have f3 : Fld Z h2 a0 "com/example/eager_courier/eagercourier/connection/OutboundQueue" "notTaken" "J" (.long (0 : Int64)) := r3.ext E2
  have f4 : Fld Z h2 a0 "com/example/eager_courier/eagercourier/connection/OutboundQueue" "held" "J" (.long (0 : Int64)) := r4.ext E2
  have f5 : Fld Z h2 a0 "com/example/eager_courier/eagercourier/connection/OutboundQueue" "lagging" "Z" (.int (0 : Int32)) := r5.ext E2
  have f6 : Fld Z h2 a0 "com/example/eager_courier/eagercourier/connection/OutboundQueue" "socketFull" "Z" (.int (0 : Int32)) := r6.ext E2
  have Zp2 : n0 ≤ h2.size := Nat.le_trans Z0 E2.1
  have K2 : Keep h0 h2 [a0] := (Keep.refl h0 [a0]).ext E2
  have f7 : Exa Z h2 b2 "java/util/ArrayDeque" := A2
  have f8 : Fld Z h2 b2 "java/util/ArrayDeque" "elements" "[Ljava/lang/Object;" .null := D2 (Or.inl (hw _ (List.mem_of_getElem? (i := 26) rfl))) (ty := (.array (.object "java/lang/Object"))) (by decide)
  have f9 : Fld Z h2 b2 "java/util/ArrayDeque" "head" "I" (.int (0 : Int32)) := D2 (Or.inl (hw _ (List.mem_of_getElem? (i := 59) rfl))) (ty := .int) (by decide)
  have f10 : Fld Z h2 b2 "java/util/ArrayDeque" "tail" "I" (.int (0 : Int32)) := D2 (Or.inl (hw _ (List.mem_of_getElem? (i := 61) rfl))) (ty := .int) (by decide)
  have go1 : Go p e below A0 (T2.setTop (mkF m 10 #[.val (.ref a0)] [(.int (3 : Int32)), (.ref b2), (.ref b2), (.ref a0)])) := by
    intro t k
    refine go0 t ?_
    refine o_aloadN X0 hx hby d1_0 1 rfl rfl rfl ?_
    refine st1 _ ?_
    refine o_aloadN X1 hx hby d1_4 5 rfl rfl rfl ?_
    refine st2 _ ?_
    show Steps p.tables e below (T2.setTop (mkF m 8 #[.val (.ref a0)] [(.ref b2), (.ref a0)])) _
    refine o_dup X2 hx hby d1_8 9 rfl rfl ?_
    refine o_iconst X2 hx hby d1_9 10 rfl (v := (3 : Int32)) rfl ?_
    exact k
  obtain ⟨_, _, ⟨T3, L3, k3, n3⟩, -, X3, ⟨Lc3, hQ3, l3, y3, z3⟩, st3⟩ := X2.specialBack hx (y := (⟨"java/util/ArrayDeque", "<init>", "(I)V"⟩ : MethodName)) rfl hown (mvT hZ (hw _ (List.mem_of_getElem? (i := 12) rfl))) (mvT hZ (hw _ (List.mem_of_getElem? (i := 13) rfl))) (mvT hZ (hw _ (List.mem_of_getElem? (i := 14) rfl))) (by decide) (backOf (W := 2) (rm3 l Z aw hw [] b2 h2 n0 Zp2 (f7) (g_b2) (f8) (f9) (f10)) hZ (hw _ (List.mem_of_getElem? (i := 14) rfl)) (hw _ (List.mem_of_getElem? (i := 11) rfl)) (by decide) (by decide)) (g := (mkF m 10 #[.val (.ref a0)] [(.int (3 : Int32)), (.ref b2), (.ref b2), (.ref a0)])) rfl (by rw [hml]; rfl) (Steps.refl _) (a := b2) (argsL := [(.int (3 : Int32))]) (rest := [(.ref b2), (.ref a0)]) (lenOf pd_4 rfl) rfl (by show 2 * 0 + _ ≤ _; exact Nat.le_of_eq rfl) (hb hby d1_10) (fun _ _ => ⟨rfl, e2, (by decide : 1 + 1 ≤ _), (by decide : 3 + 4 ≤ _)⟩)
  dsimp only [Pt.U, Pt.locs, Pt.cells, Pt.slots] at X3 l3 y3 z3 st3 hQ3
  subst l3 y3 z3
  obtain ⟨rfl, N3q, K3q, qf3_0, qf3_1, -⟩ := hQ3
  have f11 : Exa Z T3.heap a0 "com/example/eager_courier/eagercourier/connection/OutboundQueue" := f1.keep K3q
  have f12 : Fld Z T3.heap a0 "com/example/eager_courier/eagercourier/connection/OutboundQueue" "packets" "Ljava/util/ArrayDeque;" .null := f2.keep K3q (ninS ne_a0_b2 nin0)
  have f13 : Fld Z T3.heap a0 "com/example/eager_courier/eagercourier/connection/OutboundQueue" "notTaken" "J" (.long (0 : Int64)) := f3.keep K3q (ninS ne_a0_b2 nin0)
  have f14 : Fld Z T3.heap a0 "com/example/eager_courier/eagercourier/connection/OutboundQueue" "held" "J" (.long (0 : Int64)) := f4.keep K3q (ninS ne_a0_b2 nin0)
  have f15 : Fld Z T3.heap a0 "com/example/eager_courier/eagercourier/connection/OutboundQueue" "lagging" "Z" (.int (0 : Int32)) := f5.keep K3q (ninS ne_a0_b2 nin0)
  have f16 : Fld Z T3.heap a0 "com/example/eager_courier/eagercourier/connection/OutboundQueue" "socketFull" "Z" (.int (0 : Int32)) := f6.keep K3q (ninS ne_a0_b2 nin0)
  have f17 : Exa Z T3.heap b2 "java/util/ArrayDeque" := f7.keep K3q
  have Zp3 : n0 ≤ T3.heap.size := Nat.le_trans Zp2 K3q.1
  have K3 : Keep h0 T3.heap [a0] := Keep.trans K2 K3q (allS (P := fun x => x ∈ ([a0] : List Addr) ∨ h0.size ≤ x) (Or.inr sz_b2) all0)
  have f18 : Fld Z T3.heap b2 "java/util/ArrayDeque" "head" "I" (.int (0 : Int32)) := qf3_0
  have f19 : Fld Z T3.heap b2 "java/util/ArrayDeque" "tail" "I" (.int (0 : Int32)) := qf3_1
  have N3 := Fr.app N0 N3q
  have go2 : Go p e below A0 (T3.setTop (mkF m 13 #[.val (.ref a0)] [(.ref b2), (.ref a0)])) := by
    intro t k
    refine go1 t ?_
    refine st3.trans ?_
    show Steps p.tables e below (T3.setTop (mkF m 13 #[.val (.ref a0)] [(.ref b2), (.ref a0)])) _
    exact k
  obtain ⟨T4, h4, X4, e4, W4, st4⟩ := putF X3 hx hZ hown (host := "") (Or.inl (hw _ (List.mem_of_getElem? (i := 27) rfl))) Via.refl rfl f12 f11 (Or.inl (hw _ (List.mem_of_getElem? (i := 28) rfl))) (hw _ (List.mem_of_getElem? (i := 1) rfl)) (ty := (.object "java/util/ArrayDeque")) (by decide) rfl rfl (g := (mkF m 13 #[.val (.ref a0)] [(.ref b2), (.ref a0)])) rfl rfl (hb hby d1_13)
  have f20 : Exa Z h4 a0 "com/example/eager_courier/eagercourier/connection/OutboundQueue" := f11.wr W4
  have f21 : Fld Z h4 a0 "com/example/eager_courier/eagercourier/connection/OutboundQueue" "notTaken" "J" (.long (0 : Int64)) := f13.other W4 (Or.inr (slot_ne (Or.inl (hw _ (List.mem_of_getElem? (i := 35) rfl))) (Or.inl (hw _ (List.mem_of_getElem? (i := 28) rfl))) (by decide) (t := .long) (t' := (.object "java/util/ArrayDeque")) (by decide) (by decide)))
  have f22 : Fld Z h4 a0 "com/example/eager_courier/eagercourier/connection/OutboundQueue" "held" "J" (.long (0 : Int64)) := f14.other W4 (Or.inr (slot_ne (Or.inl (hw _ (List.mem_of_getElem? (i := 37) rfl))) (Or.inl (hw _ (List.mem_of_getElem? (i := 28) rfl))) (by decide) (t := .long) (t' := (.object "java/util/ArrayDeque")) (by decide) (by decide)))
  have f23 : Fld Z h4 a0 "com/example/eager_courier/eagercourier/connection/OutboundQueue" "lagging" "Z" (.int (0 : Int32)) := f15.other W4 (Or.inr (slot_ne (Or.inl (hw _ (List.mem_of_getElem? (i := 73) rfl))) (Or.inl (hw _ (List.mem_of_getElem? (i := 28) rfl))) (by decide) (t := .boolean) (t' := (.object "java/util/ArrayDeque")) (by decide) (by decide)))
  have f24 : Fld Z h4 a0 "com/example/eager_courier/eagercourier/connection/OutboundQueue" "socketFull" "Z" (.int (0 : Int32)) := f16.other W4 (Or.inr (slot_ne (Or.inl (hw _ (List.mem_of_getElem? (i := 80) rfl))) (Or.inl (hw _ (List.mem_of_getElem? (i := 28) rfl))) (by decide) (t := .boolean) (t' := (.object "java/util/ArrayDeque")) (by decide) (by decide)))
  have f25 : Exa Z h4 b2 "java/util/ArrayDeque" := f17.wr W4
  have f26 : Fld Z h4 b2 "java/util/ArrayDeque" "head" "I" (.int (0 : Int32)) := f18.other W4 (Or.inl (Ne.symm ne_a0_b2))
  have f27 : Fld Z h4 b2 "java/util/ArrayDeque" "tail" "I" (.int (0 : Int32)) := f19.other W4 (Or.inl (Ne.symm ne_a0_b2))
  have Zp4 : n0 ≤ h4.size := Nat.le_trans Zp3 (Keep.of_wr W4).1
  have K4 : Keep h0 h4 [a0] := K3.wr W4 (Or.inl (List.mem_of_getElem? (i := 0) rfl))
  have N4 := Fr.snoc X4 N3 r1
  have f28 : Fld Z h4 a0 "com/example/eager_courier/eagercourier/connection/OutboundQueue" "packets" "Ljava/util/ArrayDeque;" (.ref b2) := f12.same W4
  have go3 : Go p e below A0 (T4.setTop (mkF m 16 #[.val (.ref a0)] [])) := by
    intro t k
    refine go2 t ?_
    refine st4 _ ?_
    show Steps p.tables e below (T4.setTop (mkF m 16 #[.val (.ref a0)] [])) _
    exact k
  subst hA0
  obtain ⟨fs, hr, hrun, hended, hW, hsame⟩ := X4.leave (v := none) (fun _ => rfl)
  refine ⟨_, _, go3 _ (X4.returnOut hx Bd.returns (hb hby d1_16) hr), hrun, hended, _, _, rfl, ?_, ⟨_, rfl⟩, hW, hsame.mono (by decide) (by decide)⟩
  show Q1 Z a0 h0 n0 _ T4.heap _
  rw [e4]
  exact ⟨rfl, N4, K4, b2, sz_b2, f28, f25, f26, f27, f21, f22, f23, f24, trivial⟩
theorem d5_0 : decode prog_33_method_3_code 0 = .ok (.aload_n 0, 1) := by decide +kernel
theorem d5_1 : decode prog_33_method_3_code 1 = .ok (.dup, 1) := by decide +kernel
theorem d5_2 : decode prog_33_method_3_code 2 = .ok (.getfield 36, 3) := by decide +kernel
theorem d5_5 : decode prog_33_method_3_code 5 = .ok (.lload_n 1, 1) := by decide +kernel
theorem d5_6 : decode prog_33_method_3_code 6 = .ok (.ladd, 1) := by decide +kernel
theorem d5_7 : decode prog_33_method_3_code 7 = .ok (.putfield 36, 3) := by decide +kernel
theorem d5_10 : decode prog_33_method_3_code 10 = .ok (.aload_n 0, 1) := by decide +kernel
theorem d5_11 : decode prog_33_method_3_code 11 = .ok (.dup, 1) := by decide +kernel
theorem d5_12 : decode prog_33_method_3_code 12 = .ok (.getfield 40, 3) := by decide +kernel
theorem d5_15 : decode prog_33_method_3_code 15 = .ok (.lload_n 3, 1) := by decide +kernel
theorem d5_16 : decode prog_33_method_3_code 16 = .ok (.ladd, 1) := by decide +kernel
theorem d5_17 : decode prog_33_method_3_code 17 = .ok (.putfield 40, 3) := by decide +kernel
theorem d5_20 : decode prog_33_method_3_code 20 = .ok (.return_, 1) := by decide +kernel
theorem ef_5 (m : MethodId) (x0 : Addr) (x1 : Int64) (x2 : Int64) : entryFrame m #[(.ref x0), (.long x1), (.long x2)] 5 = mkF m 0 #[.val (.ref x0), .val (.long x1), .second, .val (.long x2), .second] [] := by first | (simp [entryFrame, mkF, argsToLocals, Value.category]; done) | rfl
def Q5 (Z : State) (a0 : Addr) (q1 : Int64) (q2 : Int64) (u1 : Int64) (u2 : Int64) (bq : Addr) (h0 : Heap) (n0 : Nat) (v : Option Value) (h : Heap) (L : List Loc) : Prop := v = none ∧ Fr n0 L ∧ Keep h0 h [a0] ∧ Fld Z h a0 "com/example/eager_courier/eagercourier/connection/OutboundQueue" "notTaken" "J" (.long (u1 + q1)) ∧ Fld Z h a0 "com/example/eager_courier/eagercourier/connection/OutboundQueue" "held" "J" (.long (u2 + q2)) ∧ Fld Z h a0 "com/example/eager_courier/eagercourier/connection/OutboundQueue" "lagging" "Z" (.int (0 : Int32)) ∧ Fld Z h a0 "com/example/eager_courier/eagercourier/connection/OutboundQueue" "socketFull" "Z" (.int (0 : Int32)) ∧ Fld Z h a0 "com/example/eager_courier/eagercourier/connection/OutboundQueue" "packets" "Ljava/util/ArrayDeque;" (.ref bq) ∧ True
set_option maxRecDepth 65536 in
set_option maxHeartbeats 40000000 in
theorem rm5 (l : Launch) (Z : State) (aw : Array Value) (hw : ∀ d ∈ tables_1, d.before aw Z = true) (ws : List Jvm.Cond) (a0 : Addr) (q1 : Int64) (q2 : Int64) (u1 : Int64) (u2 : Int64) (bq : Addr) (h0 : Heap) (n0 : Nat) (Z0 : n0 ≤ h0.size) (r0 : Exa Z h0 a0 "com/example/eager_courier/eagercourier/connection/OutboundQueue") (r1 : n0 ≤ a0) (r2 : Fld Z h0 a0 "com/example/eager_courier/eagercourier/connection/OutboundQueue" "notTaken" "J" (.long u1)) (r3 : Fld Z h0 a0 "com/example/eager_courier/eagercourier/connection/OutboundQueue" "held" "J" (.long u2)) (r4 : Fld Z h0 a0 "com/example/eager_courier/eagercourier/connection/OutboundQueue" "lagging" "Z" (.int (0 : Int32))) (r5 : Fld Z h0 a0 "com/example/eager_courier/eagercourier/connection/OutboundQueue" "socketFull" "Z" (.int (0 : Int32))) (r6 : Fld Z h0 a0 "com/example/eager_courier/eagercourier/connection/OutboundQueue" "packets" "Ljava/util/ArrayDeque;" (.ref bq)) :
    MetFree l (⟨"com/example/eager_courier/eagercourier/connection/OutboundQueue", "count", "(JJ)V"⟩ : MethodName) (head1 (Jvm.Cond.code (⟨"com/example/eager_courier/eagercourier/connection/OutboundQueue", "count", "(JJ)V"⟩ : MethodName) prog_33_method_3_code 5 none :: ws) ({ frames := 0, cells := 0, slots := 0, locals := 0 } : Room)) (fun a U => a = #[(.ref a0), (.long q1), (.long q2)] ∧ Z.Warmed39 U.vm ∧ U.heap = h0) (fun _ _ _ _ _ => True) (fun _ U o U' => ∃ v L, o = .returned v ∧ Q5 Z a0 q1 q2 u1 u2 bq h0 n0 v U'.heap L ∧ FrameEnd U o U' L ({ frames := 0, cells := 0, slots := 0, locals := 0 } : Room).cells ({ frames := 0, cells := 0, slots := 0, locals := 0 } : Room).slots) := by
  refine MetFree.of_bodySF (plainFor_of_name pn_1) hisR ?_
  intro p e s m args below meth c s₁ Bd hml0 hP hK
  obtain ⟨rfl, hZ, hh⟩ := hP
  have hx := Bd.exec
  have hby := Bd.bytes
  have hml : c.maxLocals = 5 := hml0
  have hown : s.vm.findClass "com/example/eager_courier/eagercourier/connection/OutboundQueue" = some m.cls := findClass_of_methodNamed Bd.named
  have hnm := (name_of_methodNamed Bd.named Bd.method).1
  have X0 : Stand p l e ({ frames := 0, cells := 0, slots := 0, locals := 0 } : Room) s m #[(.ref a0), (.long q1), (.long q2)] below meth c s₁ [] 0 0 := Stand.of_body Bd
  have e0 : s₁.heap = h0 := by rw [← hh, Bd.state]; rfl
  have N0 := Fr.nil n0
  obtain ⟨A0, hA0⟩ : ∃ A0, A0 = s₁.setTop (entryFrame m #[(.ref a0), (.long q1), (.long q2)] 5) := ⟨_, rfl⟩
  have go0 : Go p e below A0 (s₁.setTop (mkF m 0 #[.val (.ref a0), .val (.long q1), .second, .val (.long q2), .second] [])) := fun t k => by rw [hA0]; exact castTop (ef_5 m a0 q1 q2) k
  obtain ⟨T1, X1, e1, st1⟩ := getF X0 hx hZ hown (host := "") (Or.inl (hw _ (List.mem_of_getElem? (i := 34) rfl))) Via.refl e0 r2 (g := (mkF m 2 #[.val (.ref a0), .val (.long q1), .second, .val (.long q2), .second] [(.ref a0), (.ref a0)])) rfl rfl (hb hby d5_2)
  have go1 : Go p e below A0 (T1.setTop (mkF m 7 #[.val (.ref a0), .val (.long q1), .second, .val (.long q2), .second] [(.long (u1 + q1)), (.ref a0)])) := by
    intro t k
    refine go0 t ?_
    refine o_aloadN X0 hx hby d5_0 1 rfl rfl rfl ?_
    refine o_dup X0 hx hby d5_1 2 rfl rfl ?_
    refine st1 _ ?_
    show Steps p.tables e below (T1.setTop (mkF m 5 #[.val (.ref a0), .val (.long q1), .second, .val (.long q2), .second] [(.long u1), (.ref a0)])) _
    refine o_lloadN X1 hx hby d5_5 6 rfl rfl ?_
    refine o_ladd X1 hx hby d5_6 7 rfl ?_
    exact k
  obtain ⟨v1, hv1, go2⟩ : ∃ v1 : Int64, v1 = (u1 + q1) ∧ Go p e below A0 (T1.setTop (mkF m 7 #[.val (.ref a0), .val (.long q1), .second, .val (.long q2), .second] [(.long v1), (.ref a0)])) := ⟨_, rfl, go1⟩
  obtain ⟨T2, h2, X2, e2, W2, st2⟩ := putF X1 hx hZ hown (host := "") (Or.inl (hw _ (List.mem_of_getElem? (i := 34) rfl))) Via.refl e1 r2 r0 (Or.inl (hw _ (List.mem_of_getElem? (i := 35) rfl))) (hw _ (List.mem_of_getElem? (i := 1) rfl)) (ty := .long) (by decide) rfl rfl (g := (mkF m 7 #[.val (.ref a0), .val (.long q1), .second, .val (.long q2), .second] [(.long v1), (.ref a0)])) rfl rfl (hb hby d5_7)
  have f1 : Exa Z h2 a0 "com/example/eager_courier/eagercourier/connection/OutboundQueue" := r0.wr W2
  have f2 : Fld Z h2 a0 "com/example/eager_courier/eagercourier/connection/OutboundQueue" "held" "J" (.long u2) := r3.other W2 (Or.inr (slot_ne (Or.inl (hw _ (List.mem_of_getElem? (i := 37) rfl))) (Or.inl (hw _ (List.mem_of_getElem? (i := 35) rfl))) (by decide) (t := .long) (t' := .long) (by decide) (by decide)))
  have f3 : Fld Z h2 a0 "com/example/eager_courier/eagercourier/connection/OutboundQueue" "lagging" "Z" (.int (0 : Int32)) := r4.other W2 (Or.inr (slot_ne (Or.inl (hw _ (List.mem_of_getElem? (i := 73) rfl))) (Or.inl (hw _ (List.mem_of_getElem? (i := 35) rfl))) (by decide) (t := .boolean) (t' := .long) (by decide) (by decide)))
  have f4 : Fld Z h2 a0 "com/example/eager_courier/eagercourier/connection/OutboundQueue" "socketFull" "Z" (.int (0 : Int32)) := r5.other W2 (Or.inr (slot_ne (Or.inl (hw _ (List.mem_of_getElem? (i := 80) rfl))) (Or.inl (hw _ (List.mem_of_getElem? (i := 35) rfl))) (by decide) (t := .boolean) (t' := .long) (by decide) (by decide)))
  have f5 : Fld Z h2 a0 "com/example/eager_courier/eagercourier/connection/OutboundQueue" "packets" "Ljava/util/ArrayDeque;" (.ref bq) := r6.other W2 (Or.inr (slot_ne (Or.inl (hw _ (List.mem_of_getElem? (i := 28) rfl))) (Or.inl (hw _ (List.mem_of_getElem? (i := 35) rfl))) (by decide) (t := (.object "java/util/ArrayDeque")) (t' := .long) (by decide) (by decide)))
  have Zp2 : n0 ≤ h2.size := Nat.le_trans Z0 (Keep.of_wr W2).1
  have K2 : Keep h0 h2 [a0] := (Keep.refl h0 [a0]).wr W2 (Or.inl (List.mem_of_getElem? (i := 0) rfl))
  have N2 := Fr.snoc X2 N0 r1
  have f6 : Fld Z h2 a0 "com/example/eager_courier/eagercourier/connection/OutboundQueue" "notTaken" "J" (.long v1) := r2.same W2
  obtain ⟨T3, X3, e3, st3⟩ := getF X2 hx hZ hown (host := "") (Or.inl (hw _ (List.mem_of_getElem? (i := 36) rfl))) Via.refl e2 f2 (g := (mkF m 12 #[.val (.ref a0), .val (.long q1), .second, .val (.long q2), .second] [(.ref a0), (.ref a0)])) rfl rfl (hb hby d5_12)
  have go3 : Go p e below A0 (T3.setTop (mkF m 17 #[.val (.ref a0), .val (.long q1), .second, .val (.long q2), .second] [(.long (u2 + q2)), (.ref a0)])) := by
    intro t k
    refine go2 t ?_
    refine st2 _ ?_
    show Steps p.tables e below (T2.setTop (mkF m 10 #[.val (.ref a0), .val (.long q1), .second, .val (.long q2), .second] [])) _
    refine o_aloadN X2 hx hby d5_10 11 rfl rfl rfl ?_
    refine o_dup X2 hx hby d5_11 12 rfl rfl ?_
    refine st3 _ ?_
    show Steps p.tables e below (T3.setTop (mkF m 15 #[.val (.ref a0), .val (.long q1), .second, .val (.long q2), .second] [(.long u2), (.ref a0)])) _
    refine o_lloadN X3 hx hby d5_15 16 rfl rfl ?_
    refine o_ladd X3 hx hby d5_16 17 rfl ?_
    exact k
  obtain ⟨v2, hv2, go4⟩ : ∃ v2 : Int64, v2 = (u2 + q2) ∧ Go p e below A0 (T3.setTop (mkF m 17 #[.val (.ref a0), .val (.long q1), .second, .val (.long q2), .second] [(.long v2), (.ref a0)])) := ⟨_, rfl, go3⟩
  obtain ⟨T4, h4, X4, e4, W4, st4⟩ := putF X3 hx hZ hown (host := "") (Or.inl (hw _ (List.mem_of_getElem? (i := 36) rfl))) Via.refl e3 f2 f1 (Or.inl (hw _ (List.mem_of_getElem? (i := 37) rfl))) (hw _ (List.mem_of_getElem? (i := 1) rfl)) (ty := .long) (by decide) rfl rfl (g := (mkF m 17 #[.val (.ref a0), .val (.long q1), .second, .val (.long q2), .second] [(.long v2), (.ref a0)])) rfl rfl (hb hby d5_17)
  have f7 : Exa Z h4 a0 "com/example/eager_courier/eagercourier/connection/OutboundQueue" := f1.wr W4
  have f8 : Fld Z h4 a0 "com/example/eager_courier/eagercourier/connection/OutboundQueue" "lagging" "Z" (.int (0 : Int32)) := f3.other W4 (Or.inr (slot_ne (Or.inl (hw _ (List.mem_of_getElem? (i := 73) rfl))) (Or.inl (hw _ (List.mem_of_getElem? (i := 37) rfl))) (by decide) (t := .boolean) (t' := .long) (by decide) (by decide)))
  have f9 : Fld Z h4 a0 "com/example/eager_courier/eagercourier/connection/OutboundQueue" "socketFull" "Z" (.int (0 : Int32)) := f4.other W4 (Or.inr (slot_ne (Or.inl (hw _ (List.mem_of_getElem? (i := 80) rfl))) (Or.inl (hw _ (List.mem_of_getElem? (i := 37) rfl))) (by decide) (t := .boolean) (t' := .long) (by decide) (by decide)))
  have f10 : Fld Z h4 a0 "com/example/eager_courier/eagercourier/connection/OutboundQueue" "packets" "Ljava/util/ArrayDeque;" (.ref bq) := f5.other W4 (Or.inr (slot_ne (Or.inl (hw _ (List.mem_of_getElem? (i := 28) rfl))) (Or.inl (hw _ (List.mem_of_getElem? (i := 37) rfl))) (by decide) (t := (.object "java/util/ArrayDeque")) (t' := .long) (by decide) (by decide)))
  have f11 : Fld Z h4 a0 "com/example/eager_courier/eagercourier/connection/OutboundQueue" "notTaken" "J" (.long v1) := f6.other W4 (Or.inr (slot_ne (Or.inl (hw _ (List.mem_of_getElem? (i := 35) rfl))) (Or.inl (hw _ (List.mem_of_getElem? (i := 37) rfl))) (by decide) (t := .long) (t' := .long) (by decide) (by decide)))
  have Zp4 : n0 ≤ h4.size := Nat.le_trans Zp2 (Keep.of_wr W4).1
  have K4 : Keep h0 h4 [a0] := K2.wr W4 (Or.inl (List.mem_of_getElem? (i := 0) rfl))
  have N4 := Fr.snoc X4 N2 r1
  have f12 : Fld Z h4 a0 "com/example/eager_courier/eagercourier/connection/OutboundQueue" "held" "J" (.long v2) := f2.same W4
  have go5 : Go p e below A0 (T4.setTop (mkF m 20 #[.val (.ref a0), .val (.long q1), .second, .val (.long q2), .second] [])) := by
    intro t k
    refine go4 t ?_
    refine st4 _ ?_
    show Steps p.tables e below (T4.setTop (mkF m 20 #[.val (.ref a0), .val (.long q1), .second, .val (.long q2), .second] [])) _
    exact k
  subst hv1
  subst hv2
  subst hA0
  obtain ⟨fs, hr, hrun, hended, hW, hsame⟩ := X4.leave (v := none) (fun _ => rfl)
  refine ⟨_, _, go5 _ (X4.returnOut hx Bd.returns (hb hby d5_20) hr), hrun, hended, _, _, rfl, ?_, ⟨_, rfl⟩, hW, hsame.mono (by decide) (by decide)⟩
  show Q5 Z a0 q1 q2 u1 u2 bq h0 n0 _ T4.heap _
  rw [e4]
  exact ⟨rfl, N4, K4, f11, f12, f8, f9, f10, trivial⟩
theorem d6_0 : decode prog_33_method_9_code 0 = .ok (.aload_n 0, 1) := by decide +kernel
theorem d6_1 : decode prog_33_method_9_code 1 = .ok (.getfield 36, 3) := by decide +kernel
theorem d6_4 : decode prog_33_method_9_code 4 = .ok (.lreturn, 1) := by decide +kernel
theorem ef_6 (m : MethodId) (x0 : Addr) : entryFrame m #[(.ref x0)] 1 = mkF m 0 #[.val (.ref x0)] [] := by first | (simp [entryFrame, mkF, argsToLocals, Value.category]; done) | rfl
def Q6 (Z : State) (a0 : Addr) (u1 : Int64) (h0 : Heap) (n0 : Nat) (v : Option Value) (h : Heap) (L : List Loc) : Prop := v = some (.long u1) ∧ Fr n0 L ∧ h = h0
set_option maxRecDepth 65536 in
set_option maxHeartbeats 40000000 in
theorem rm6 (l : Launch) (Z : State) (aw : Array Value) (hw : ∀ d ∈ tables_1, d.before aw Z = true) (ws : List Jvm.Cond) (a0 : Addr) (u1 : Int64) (h0 : Heap) (n0 : Nat) (Z0 : n0 ≤ h0.size) (r0 : Fld Z h0 a0 "com/example/eager_courier/eagercourier/connection/OutboundQueue" "notTaken" "J" (.long u1)) :
    MetFree l (⟨"com/example/eager_courier/eagercourier/connection/OutboundQueue", "getNotTaken", "()J"⟩ : MethodName) (head1 (Jvm.Cond.code (⟨"com/example/eager_courier/eagercourier/connection/OutboundQueue", "getNotTaken", "()J"⟩ : MethodName) prog_33_method_9_code 1 (some .long) :: ws) ({ frames := 0, cells := 0, slots := 0, locals := 0 } : Room)) (fun a U => a = #[(.ref a0)] ∧ Z.Warmed39 U.vm ∧ U.heap = h0) (fun _ _ _ _ _ => True) (fun _ U o U' => ∃ v L, o = .returned v ∧ Q6 Z a0 u1 h0 n0 v U'.heap L ∧ FrameEnd U o U' L ({ frames := 0, cells := 0, slots := 0, locals := 0 } : Room).cells ({ frames := 0, cells := 0, slots := 0, locals := 0 } : Room).slots) := by
  refine MetFree.of_bodySF (plainFor_of_name pn_1) hisR ?_
  intro p e s m args below meth c s₁ Bd hml0 hP hK
  obtain ⟨rfl, hZ, hh⟩ := hP
  have hx := Bd.exec
  have hby := Bd.bytes
  have hml : c.maxLocals = 1 := hml0
  have hown : s.vm.findClass "com/example/eager_courier/eagercourier/connection/OutboundQueue" = some m.cls := findClass_of_methodNamed Bd.named
  have hnm := (name_of_methodNamed Bd.named Bd.method).1
  have X0 : Stand p l e ({ frames := 0, cells := 0, slots := 0, locals := 0 } : Room) s m #[(.ref a0)] below meth c s₁ [] 0 0 := Stand.of_body Bd
  have e0 : s₁.heap = h0 := by rw [← hh, Bd.state]; rfl
  have N0 := Fr.nil n0
  obtain ⟨A0, hA0⟩ : ∃ A0, A0 = s₁.setTop (entryFrame m #[(.ref a0)] 1) := ⟨_, rfl⟩
  have go0 : Go p e below A0 (s₁.setTop (mkF m 0 #[.val (.ref a0)] [])) := fun t k => by rw [hA0]; exact castTop (ef_6 m a0) k
  obtain ⟨T1, X1, e1, st1⟩ := getF X0 hx hZ hown (host := "") (Or.inl (hw _ (List.mem_of_getElem? (i := 34) rfl))) Via.refl e0 r0 (g := (mkF m 1 #[.val (.ref a0)] [(.ref a0)])) rfl rfl (hb hby d6_1)
  have go1 : Go p e below A0 (T1.setTop (mkF m 4 #[.val (.ref a0)] [(.long u1)])) := by
    intro t k
    refine go0 t ?_
    refine o_aloadN X0 hx hby d6_0 1 rfl rfl rfl ?_
    refine st1 _ ?_
    show Steps p.tables e below (T1.setTop (mkF m 4 #[.val (.ref a0)] [(.long u1)])) _
    exact k
  have hF : u1 = u1 := by first | rfl | simp only [*]
  subst hA0
  obtain ⟨fs, hr, hrun, hended, hW, hsame⟩ := X1.leave (v := some (.long u1)) (fun h => by rw [Bd.returns] at h; cases h)
  refine ⟨_, _, go1 _ (o_retJ X1 hx Bd.returns (hb hby d6_4) hr), hrun, hended, _, _, rfl, ?_, ⟨_, rfl⟩, hW, hsame.mono (by decide) (by decide)⟩
  show Q6 Z a0 u1 h0 n0 _ T1.heap _
  rw [e1]
  exact ⟨congrArg (fun z => some (Value.long z)) hF, N0, rfl⟩
theorem d7_0 : decode prog_33_method_10_code 0 = .ok (.aload_n 0, 1) := by decide +kernel
theorem d7_1 : decode prog_33_method_10_code 1 = .ok (.getfield 40, 3) := by decide +kernel
theorem d7_4 : decode prog_33_method_10_code 4 = .ok (.lreturn, 1) := by decide +kernel
theorem ef_7 (m : MethodId) (x0 : Addr) : entryFrame m #[(.ref x0)] 1 = mkF m 0 #[.val (.ref x0)] [] := by first | (simp [entryFrame, mkF, argsToLocals, Value.category]; done) | rfl
def Q7 (Z : State) (a0 : Addr) (u1 : Int64) (h0 : Heap) (n0 : Nat) (v : Option Value) (h : Heap) (L : List Loc) : Prop := v = some (.long u1) ∧ Fr n0 L ∧ h = h0
set_option maxRecDepth 65536 in
set_option maxHeartbeats 40000000 in
theorem rm7 (l : Launch) (Z : State) (aw : Array Value) (hw : ∀ d ∈ tables_1, d.before aw Z = true) (ws : List Jvm.Cond) (a0 : Addr) (u1 : Int64) (h0 : Heap) (n0 : Nat) (Z0 : n0 ≤ h0.size) (r0 : Fld Z h0 a0 "com/example/eager_courier/eagercourier/connection/OutboundQueue" "held" "J" (.long u1)) :
    MetFree l (⟨"com/example/eager_courier/eagercourier/connection/OutboundQueue", "getHeld", "()J"⟩ : MethodName) (head1 (Jvm.Cond.code (⟨"com/example/eager_courier/eagercourier/connection/OutboundQueue", "getHeld", "()J"⟩ : MethodName) prog_33_method_10_code 1 (some .long) :: ws) ({ frames := 0, cells := 0, slots := 0, locals := 0 } : Room)) (fun a U => a = #[(.ref a0)] ∧ Z.Warmed39 U.vm ∧ U.heap = h0) (fun _ _ _ _ _ => True) (fun _ U o U' => ∃ v L, o = .returned v ∧ Q7 Z a0 u1 h0 n0 v U'.heap L ∧ FrameEnd U o U' L ({ frames := 0, cells := 0, slots := 0, locals := 0 } : Room).cells ({ frames := 0, cells := 0, slots := 0, locals := 0 } : Room).slots) := by
  refine MetFree.of_bodySF (plainFor_of_name pn_1) hisR ?_
  intro p e s m args below meth c s₁ Bd hml0 hP hK
  obtain ⟨rfl, hZ, hh⟩ := hP
  have hx := Bd.exec
  have hby := Bd.bytes
  have hml : c.maxLocals = 1 := hml0
  have hown : s.vm.findClass "com/example/eager_courier/eagercourier/connection/OutboundQueue" = some m.cls := findClass_of_methodNamed Bd.named
  have hnm := (name_of_methodNamed Bd.named Bd.method).1
  have X0 : Stand p l e ({ frames := 0, cells := 0, slots := 0, locals := 0 } : Room) s m #[(.ref a0)] below meth c s₁ [] 0 0 := Stand.of_body Bd
  have e0 : s₁.heap = h0 := by rw [← hh, Bd.state]; rfl
  have N0 := Fr.nil n0
  obtain ⟨A0, hA0⟩ : ∃ A0, A0 = s₁.setTop (entryFrame m #[(.ref a0)] 1) := ⟨_, rfl⟩
  have go0 : Go p e below A0 (s₁.setTop (mkF m 0 #[.val (.ref a0)] [])) := fun t k => by rw [hA0]; exact castTop (ef_7 m a0) k
  obtain ⟨T1, X1, e1, st1⟩ := getF X0 hx hZ hown (host := "") (Or.inl (hw _ (List.mem_of_getElem? (i := 36) rfl))) Via.refl e0 r0 (g := (mkF m 1 #[.val (.ref a0)] [(.ref a0)])) rfl rfl (hb hby d7_1)
  have go1 : Go p e below A0 (T1.setTop (mkF m 4 #[.val (.ref a0)] [(.long u1)])) := by
    intro t k
    refine go0 t ?_
    refine o_aloadN X0 hx hby d7_0 1 rfl rfl rfl ?_
    refine st1 _ ?_
    show Steps p.tables e below (T1.setTop (mkF m 4 #[.val (.ref a0)] [(.long u1)])) _
    exact k
  have hF : u1 = u1 := by first | rfl | simp only [*]
  subst hA0
  obtain ⟨fs, hr, hrun, hended, hW, hsame⟩ := X1.leave (v := some (.long u1)) (fun h => by rw [Bd.returns] at h; cases h)
  refine ⟨_, _, go1 _ (o_retJ X1 hx Bd.returns (hb hby d7_4) hr), hrun, hended, _, _, rfl, ?_, ⟨_, rfl⟩, hW, hsame.mono (by decide) (by decide)⟩
  show Q7 Z a0 u1 h0 n0 _ T1.heap _
  rw [e1]
  exact ⟨congrArg (fun z => some (Value.long z)) hF, N0, rfl⟩
theorem d9_0 : decode jdk_21_method_38_code 0 = .ok (.aload_n 0, 1) := by decide +kernel
theorem d9_1 : decode jdk_21_method_38_code 1 = .ok (.getfield 24, 3) := by decide +kernel
theorem d9_4 : decode jdk_21_method_38_code 4 = .ok (.aload_n 0, 1) := by decide +kernel
theorem d9_5 : decode jdk_21_method_38_code 5 = .ok (.getfield 20, 3) := by decide +kernel
theorem d9_8 : decode jdk_21_method_38_code 8 = .ok (.if_icmp .ne 7, 3) := by decide +kernel
theorem d9_11 : decode jdk_21_method_38_code 11 = .ok (.iconst 1, 1) := by decide +kernel
theorem d9_12 : decode jdk_21_method_38_code 12 = .ok (.goto 4, 3) := by decide +kernel
theorem d9_15 : decode jdk_21_method_38_code 15 = .ok (.iconst 0, 1) := by decide +kernel
theorem d9_16 : decode jdk_21_method_38_code 16 = .ok (.ireturn, 1) := by decide +kernel
theorem ef_9 (m : MethodId) (x0 : Addr) : entryFrame m #[(.ref x0)] 1 = mkF m 0 #[.val (.ref x0)] [] := by first | (simp [entryFrame, mkF, argsToLocals, Value.category]; done) | rfl
def Q9 (Z : State) (a0 : Addr) (h0 : Heap) (n0 : Nat) (v : Option Value) (h : Heap) (L : List Loc) : Prop := v = some (.int (1 : Int32)) ∧ Fr n0 L ∧ h = h0
set_option maxRecDepth 65536 in
set_option maxHeartbeats 40000000 in
theorem rm9 (l : Launch) (Z : State) (aw : Array Value) (hw : ∀ d ∈ tables_1, d.before aw Z = true) (ws : List Jvm.Cond) (a0 : Addr) (h0 : Heap) (n0 : Nat) (Z0 : n0 ≤ h0.size) (r0 : Fld Z h0 a0 "java/util/ArrayDeque" "head" "I" (.int (0 : Int32))) (r1 : Fld Z h0 a0 "java/util/ArrayDeque" "tail" "I" (.int (0 : Int32))) :
    MetFree l (⟨"java/util/ArrayDeque", "isEmpty", "()Z"⟩ : MethodName) (head1 (Jvm.Cond.code (⟨"java/util/ArrayDeque", "isEmpty", "()Z"⟩ : MethodName) jdk_21_method_38_code 1 (some .boolean) :: ws) ({ frames := 0, cells := 0, slots := 0, locals := 0 } : Room)) (fun a U => a = #[(.ref a0)] ∧ Z.Warmed39 U.vm ∧ U.heap = h0) (fun _ _ _ _ _ => True) (fun _ U o U' => ∃ v L, o = .returned v ∧ Q9 Z a0 h0 n0 v U'.heap L ∧ FrameEnd U o U' L ({ frames := 0, cells := 0, slots := 0, locals := 0 } : Room).cells ({ frames := 0, cells := 0, slots := 0, locals := 0 } : Room).slots) := by
  refine MetFree.of_bodySF (plainFor_of_name pn_3) hisR ?_
  intro p e s m args below meth c s₁ Bd hml0 hP hK
  obtain ⟨rfl, hZ, hh⟩ := hP
  have hx := Bd.exec
  have hby := Bd.bytes
  have hml : c.maxLocals = 1 := hml0
  have hown : s.vm.findClass "java/util/ArrayDeque" = some m.cls := findClass_of_methodNamed Bd.named
  have hnm := (name_of_methodNamed Bd.named Bd.method).1
  have X0 : Stand p l e ({ frames := 0, cells := 0, slots := 0, locals := 0 } : Room) s m #[(.ref a0)] below meth c s₁ [] 0 0 := Stand.of_body Bd
  have e0 : s₁.heap = h0 := by rw [← hh, Bd.state]; rfl
  have N0 := Fr.nil n0
  obtain ⟨A0, hA0⟩ : ∃ A0, A0 = s₁.setTop (entryFrame m #[(.ref a0)] 1) := ⟨_, rfl⟩
  have go0 : Go p e below A0 (s₁.setTop (mkF m 0 #[.val (.ref a0)] [])) := fun t k => by rw [hA0]; exact castTop (ef_9 m a0) k
  obtain ⟨T1, X1, e1, st1⟩ := getF X0 hx hZ hown (host := "") (Or.inl (hw _ (List.mem_of_getElem? (i := 58) rfl))) Via.refl e0 r0 (g := (mkF m 1 #[.val (.ref a0)] [(.ref a0)])) rfl rfl (hb hby d9_1)
  obtain ⟨T2, X2, e2, st2⟩ := getF X1 hx hZ hown (host := "") (Or.inl (hw _ (List.mem_of_getElem? (i := 60) rfl))) Via.refl e1 r1 (g := (mkF m 5 #[.val (.ref a0)] [(.ref a0), (.int (0 : Int32))])) rfl rfl (hb hby d9_5)
  have go1 : Go p e below A0 (T2.setTop (mkF m 16 #[.val (.ref a0)] [(.int (1 : Int32))])) := by
    intro t k
    refine go0 t ?_
    refine o_aloadN X0 hx hby d9_0 1 rfl rfl rfl ?_
    refine st1 _ ?_
    show Steps p.tables e below (T1.setTop (mkF m 4 #[.val (.ref a0)] [(.int (0 : Int32))])) _
    refine o_aloadN X1 hx hby d9_4 5 rfl rfl rfl ?_
    refine st2 _ ?_
    show Steps p.tables e below (T2.setTop (mkF m 8 #[.val (.ref a0)] [(.int (0 : Int32)), (.int (0 : Int32))])) _
    refine o_icmpN X2 hx hby d9_8 11 rfl (teq (by decide)).2 ?_
    refine o_iconst X2 hx hby d9_11 12 rfl (v := (1 : Int32)) rfl ?_
    refine o_goto X2 hx hby d9_12 16 rfl ?_
    exact k
  have hF : (1 : Int32) = (1 : Int32) := by first | rfl | simp only [*]
  subst hA0
  obtain ⟨fs, hr, hrun, hended, hW, hsame⟩ := X2.leave (v := some (.int (1 : Int32))) (fun h => by rw [Bd.returns] at h; cases h)
  refine ⟨_, _, go1 _ (o_retZ X2 hx Bd.returns (hb hby d9_16) (Or.inr rfl) hr), hrun, hended, _, _, rfl, ?_, ⟨_, rfl⟩, hW, hsame.mono (by decide) (by decide)⟩
  show Q9 Z a0 h0 n0 _ T2.heap _
  rw [e2]
  exact ⟨congrArg (fun z => some (Value.int z)) hF, N0, rfl⟩
theorem d8_0 : decode prog_33_method_8_code 0 = .ok (.aload_n 0, 1) := by decide +kernel
theorem d8_1 : decode prog_33_method_8_code 1 = .ok (.getfield 14, 3) := by decide +kernel
theorem d8_4 : decode prog_33_method_8_code 4 = .ok (.invokevirtual 72, 3) := by decide +kernel
theorem d8_7 : decode prog_33_method_8_code 7 = .ok (.ifCond .eq 25, 3) := by decide +kernel
theorem d8_10 : decode prog_33_method_8_code 10 = .ok (.aload_n 0, 1) := by decide +kernel
theorem d8_11 : decode prog_33_method_8_code 11 = .ok (.getfield 36, 3) := by decide +kernel
theorem d8_14 : decode prog_33_method_8_code 14 = .ok (.lconst 0, 1) := by decide +kernel
theorem d8_15 : decode prog_33_method_8_code 15 = .ok (.lcmp, 1) := by decide +kernel
theorem d8_16 : decode prog_33_method_8_code 16 = .ok (.ifCond .ne 16, 3) := by decide +kernel
theorem d8_19 : decode prog_33_method_8_code 19 = .ok (.aload_n 0, 1) := by decide +kernel
theorem d8_20 : decode prog_33_method_8_code 20 = .ok (.getfield 40, 3) := by decide +kernel
theorem d8_23 : decode prog_33_method_8_code 23 = .ok (.lconst 0, 1) := by decide +kernel
theorem d8_24 : decode prog_33_method_8_code 24 = .ok (.lcmp, 1) := by decide +kernel
theorem d8_25 : decode prog_33_method_8_code 25 = .ok (.ifCond .ne 7, 3) := by decide +kernel
theorem d8_28 : decode prog_33_method_8_code 28 = .ok (.iconst 1, 1) := by decide +kernel
theorem d8_29 : decode prog_33_method_8_code 29 = .ok (.goto 4, 3) := by decide +kernel
theorem d8_32 : decode prog_33_method_8_code 32 = .ok (.iconst 0, 1) := by decide +kernel
theorem d8_33 : decode prog_33_method_8_code 33 = .ok (.ireturn, 1) := by decide +kernel
theorem pd_5 : parseMethodDescriptor "()Z" = some ⟨[], some .boolean⟩ := by decide +kernel
theorem ef_8 (m : MethodId) (x0 : Addr) : entryFrame m #[(.ref x0)] 1 = mkF m 0 #[.val (.ref x0)] [] := by first | (simp [entryFrame, mkF, argsToLocals, Value.category]; done) | rfl
def Fempty (u1 : Int64) (u2 : Int64) : Int32 := let v2 : Int32 := (if u1 = (0 : Int64) then (if u2 = (0 : Int64) then (1 : Int32) else (0 : Int32)) else (0 : Int32)); v2
def Q8 (Z : State) (a0 : Addr) (u1 : Int64) (u2 : Int64) (bq : Addr) (h0 : Heap) (n0 : Nat) (v : Option Value) (h : Heap) (L : List Loc) : Prop := v = some (.int (Fempty u1 u2)) ∧ Fr n0 L ∧ h = h0
set_option maxRecDepth 65536 in
set_option maxHeartbeats 40000000 in
theorem rm8 (l : Launch) (Z : State) (aw : Array Value) (hw : ∀ d ∈ tables_1, d.before aw Z = true) (ws : List Jvm.Cond) (a0 : Addr) (u1 : Int64) (u2 : Int64) (bq : Addr) (h0 : Heap) (n0 : Nat) (Z0 : n0 ≤ h0.size) (r0 : Fld Z h0 a0 "com/example/eager_courier/eagercourier/connection/OutboundQueue" "packets" "Ljava/util/ArrayDeque;" (.ref bq)) (r1 : Exa Z h0 bq "java/util/ArrayDeque") (r2 : Fld Z h0 bq "java/util/ArrayDeque" "head" "I" (.int (0 : Int32))) (r3 : Fld Z h0 bq "java/util/ArrayDeque" "tail" "I" (.int (0 : Int32))) (r4 : Fld Z h0 a0 "com/example/eager_courier/eagercourier/connection/OutboundQueue" "notTaken" "J" (.long u1)) (r5 : Fld Z h0 a0 "com/example/eager_courier/eagercourier/connection/OutboundQueue" "held" "J" (.long u2)) :
    MetFree l (⟨"com/example/eager_courier/eagercourier/connection/OutboundQueue", "isEmpty", "()Z"⟩ : MethodName) (head1 (Jvm.Cond.code (⟨"com/example/eager_courier/eagercourier/connection/OutboundQueue", "isEmpty", "()Z"⟩ : MethodName) prog_33_method_8_code 1 (some .boolean) :: ws) ({ frames := 1, cells := 0, slots := 0, locals := 12 } : Room)) (fun a U => a = #[(.ref a0)] ∧ Z.Warmed39 U.vm ∧ U.heap = h0) (fun _ _ _ _ _ => True) (fun _ U o U' => ∃ v L, o = .returned v ∧ Q8 Z a0 u1 u2 bq h0 n0 v U'.heap L ∧ FrameEnd U o U' L ({ frames := 1, cells := 0, slots := 0, locals := 12 } : Room).cells ({ frames := 1, cells := 0, slots := 0, locals := 12 } : Room).slots) := by
  refine MetFree.of_bodySF (plainFor_of_name pn_1) hisR ?_
  intro p e s m args below meth c s₁ Bd hml0 hP hK
  obtain ⟨rfl, hZ, hh⟩ := hP
  have hx := Bd.exec
  have hby := Bd.bytes
  have hml : c.maxLocals = 1 := hml0
  have hown : s.vm.findClass "com/example/eager_courier/eagercourier/connection/OutboundQueue" = some m.cls := findClass_of_methodNamed Bd.named
  have hnm := (name_of_methodNamed Bd.named Bd.method).1
  have X0 : Stand p l e ({ frames := 1, cells := 0, slots := 0, locals := 12 } : Room) s m #[(.ref a0)] below meth c s₁ [] 0 0 := Stand.of_body Bd
  have e0 : s₁.heap = h0 := by rw [← hh, Bd.state]; rfl
  have N0 := Fr.nil n0
  obtain ⟨A0, hA0⟩ : ∃ A0, A0 = s₁.setTop (entryFrame m #[(.ref a0)] 1) := ⟨_, rfl⟩
  have go0 : Go p e below A0 (s₁.setTop (mkF m 0 #[.val (.ref a0)] [])) := fun t k => by rw [hA0]; exact castTop (ef_8 m a0) k
  obtain ⟨T1, X1, e1, st1⟩ := getF X0 hx hZ hown (host := "") (Or.inl (hw _ (List.mem_of_getElem? (i := 27) rfl))) Via.refl e0 r0 (g := (mkF m 1 #[.val (.ref a0)] [(.ref a0)])) rfl rfl (hb hby d8_1)
  obtain ⟨cq2, kq2, q2a, q2b, q2c⟩ := isOf hZ e1 r1
  obtain ⟨_, _, ⟨T2, L2, k2, n2⟩, -, X2, ⟨Lc2, hQ2, l2, y2, z2⟩, st2⟩ := X1.virtualBack hx (y := (⟨"java/util/ArrayDeque", "isEmpty", "()Z"⟩ : MethodName)) (z := (⟨"java/util/ArrayDeque", "isEmpty", "()Z"⟩ : MethodName)) hown (mvT hZ (hw _ (List.mem_of_getElem? (i := 53) rfl))) (mvT hZ (hw _ (List.mem_of_getElem? (i := 54) rfl))) (notFace_of_selects (args := #[]) (mvT hZ (hw _ (List.mem_of_getElem? (i := 56) rfl)))) (mvT hZ (hw _ (List.mem_of_getElem? (i := 56) rfl))) (mvT hZ (hw _ (List.mem_of_getElem? (i := 55) rfl))) (by decide) (backOf (W := 0) (rm9 l Z aw hw [] bq h0 n0 Z0 (r2) (r3)) hZ (hw _ (List.mem_of_getElem? (i := 57) rfl)) (hw _ (List.mem_of_getElem? (i := 11) rfl)) (by decide) (by decide)) q2a q2c (g := (mkF m 4 #[.val (.ref a0)] [(.ref bq)])) rfl (by rw [hml]; rfl) (Steps.refl _) (argsL := []) (rest := []) (lenOf pd_5 rfl) rfl (by show 2 * 0 + _ ≤ _; exact Nat.le_of_eq rfl) (hb hby d8_4) (fun _ _ => ⟨rfl, e1, (by decide : 0 + 0 ≤ _), (by decide : 0 + 0 ≤ _)⟩)
  dsimp only [Pt.U, Pt.locs, Pt.cells, Pt.slots] at X2 l2 y2 z2 st2 hQ2
  subst l2 y2 z2
  obtain ⟨rfl, N2q, e2⟩ := hQ2
  have N2 := Fr.app N0 N2q
  have go1 : Go p e below A0 (T2.setTop (mkF m 7 #[.val (.ref a0)] [(.int (1 : Int32))])) := by
    intro t k
    refine go0 t ?_
    refine o_aloadN X0 hx hby d8_0 1 rfl rfl rfl ?_
    refine st1 _ ?_
    show Steps p.tables e below (T1.setTop (mkF m 4 #[.val (.ref a0)] [(.ref bq)])) _
    refine st2.trans ?_
    show Steps p.tables e below (T2.setTop (mkF m 7 #[.val (.ref a0)] [(.int (1 : Int32))])) _
    exact k
  obtain ⟨T3, X3, e3, st3⟩ := getF X2 hx hZ hown (host := "") (Or.inl (hw _ (List.mem_of_getElem? (i := 34) rfl))) Via.refl e2 r4 (g := (mkF m 11 #[.val (.ref a0)] [(.ref a0)])) rfl rfl (hb hby d8_11)
  have go2 : Go p e below A0 (T3.setTop (mkF m 16 #[.val (.ref a0)] [(.int (lcmpW u1 (0 : Int64)))])) := by
    intro t k
    refine go1 t ?_
    refine o_ifN X2 hx hby d8_7 10 rfl (feq (by decide)).1 ?_
    refine o_aloadN X2 hx hby d8_10 11 rfl rfl rfl ?_
    refine st3 _ ?_
    show Steps p.tables e below (T3.setTop (mkF m 14 #[.val (.ref a0)] [(.long u1)])) _
    refine o_lconst X3 hx hby d8_14 15 rfl (v := (0 : Int64)) rfl ?_
    refine o_lcmp X3 hx hby d8_15 16 rfl ?_
    exact k
  obtain ⟨T7, l7, v2, X7, N7, e7, hv2, go8⟩ : ∃ (T7 : State) (l7 : List Loc) (v2 : Int32), Stand p l e ({ frames := 1, cells := 0, slots := 0, locals := 12 } : Room) s m #[(.ref a0)] below meth c T7 l7 0 0 ∧ Fr n0 l7 ∧ T7.heap = h0 ∧ v2 = (if u1 = (0 : Int64) then (if u2 = (0 : Int64) then (1 : Int32) else (0 : Int32)) else (0 : Int32)) ∧ Go p e below A0 (T7.setTop (mkF m 33 #[.val (.ref a0)] [(.int v2)])) := by
    by_cases hc16_4 : u1 = (0 : Int64)
    · obtain ⟨T5, X5, e5, st5⟩ := getF X3 hx hZ hown (host := "") (Or.inl (hw _ (List.mem_of_getElem? (i := 36) rfl))) Via.refl e3 r5 (g := (mkF m 20 #[.val (.ref a0)] [(.ref a0)])) rfl rfl (hb hby d8_20)
      have go3 : Go p e below A0 (T5.setTop (mkF m 25 #[.val (.ref a0)] [(.int (lcmpW u2 (0 : Int64)))])) := by
        intro t k
        refine go2 t ?_
        refine o_ifN X3 hx hby d8_16 19 rfl (teq ((lw_eq u1 (0 : Int64)).mpr hc16_4)).2 ?_
        refine o_aloadN X3 hx hby d8_19 20 rfl rfl rfl ?_
        refine st5 _ ?_
        show Steps p.tables e below (T5.setTop (mkF m 23 #[.val (.ref a0)] [(.long u2)])) _
        refine o_lconst X5 hx hby d8_23 24 rfl (v := (0 : Int64)) rfl ?_
        refine o_lcmp X5 hx hby d8_24 25 rfl ?_
        exact k
      obtain ⟨v1, hv1, go6⟩ : ∃ (v1 : Int32), v1 = (if u2 = (0 : Int64) then (1 : Int32) else (0 : Int32)) ∧ Go p e below A0 (T5.setTop (mkF m 33 #[.val (.ref a0)] [(.int v1)])) := by
        by_cases hc25_6 : u2 = (0 : Int64)
        · have go4 : Go p e below A0 (T5.setTop (mkF m 33 #[.val (.ref a0)] [(.int (1 : Int32))])) := by
            intro t k
            refine go3 t ?_
            refine o_ifN X5 hx hby d8_25 28 rfl (teq ((lw_eq u2 (0 : Int64)).mpr hc25_6)).2 ?_
            refine o_iconst X5 hx hby d8_28 29 rfl (v := (1 : Int32)) rfl ?_
            refine o_goto X5 hx hby d8_29 33 rfl ?_
            exact k
          exact ⟨(1 : Int32), (if_pos hc25_6).symm, go4⟩
        · have go5 : Go p e below A0 (T5.setTop (mkF m 33 #[.val (.ref a0)] [(.int (0 : Int32))])) := by
            intro t k
            refine go3 t ?_
            refine o_ifY X5 hx hby d8_25 32 rfl (feq (fun q => hc25_6 ((lw_eq u2 (0 : Int64)).mp q))).2 ?_
            refine o_iconst X5 hx hby d8_32 33 rfl (v := (0 : Int32)) rfl ?_
            exact k
          exact ⟨(0 : Int32), (if_neg hc25_6).symm, go5⟩
      subst hv1
      exact ⟨T5, _, (if u2 = (0 : Int64) then (1 : Int32) else (0 : Int32)), X5, N2, e5, (if_pos hc16_4).symm, go6⟩
    · have go7 : Go p e below A0 (T3.setTop (mkF m 33 #[.val (.ref a0)] [(.int (0 : Int32))])) := by
        intro t k
        refine go2 t ?_
        refine o_ifY X3 hx hby d8_16 32 rfl (feq (fun q => hc16_4 ((lw_eq u1 (0 : Int64)).mp q))).2 ?_
        refine o_iconst X3 hx hby d8_32 33 rfl (v := (0 : Int32)) rfl ?_
        exact k
      exact ⟨T3, _, (0 : Int32), X3, N2, e3, (if_neg hc16_4).symm, go7⟩
  have hF : v2 = (Fempty u1 u2) := by subst hv2; rfl
  subst hA0
  obtain ⟨fs, hr, hrun, hended, hW, hsame⟩ := X7.leave (v := some (.int v2)) (fun h => by rw [Bd.returns] at h; cases h)
  refine ⟨_, _, go8 _ (o_retZ X7 hx Bd.returns (hb hby d8_33) (by rw [hv2]; repeat' (first | exact Or.inl rfl | exact Or.inr rfl | split)) hr), hrun, hended, _, _, rfl, ?_, ⟨_, rfl⟩, hW, hsame.mono (by decide) (by decide)⟩
  show Q8 Z a0 u1 u2 bq h0 n0 _ T7.heap _
  rw [e7]
  exact ⟨congrArg (fun z => some (Value.int z)) hF, N7, rfl⟩
theorem d10_0 : decode prog_33_method_7_code 0 = .ok (.aload_n 0, 1) := by decide +kernel
theorem d10_1 : decode prog_33_method_7_code 1 = .ok (.getfield 14, 3) := by decide +kernel
theorem d10_4 : decode prog_33_method_7_code 4 = .ok (.invokevirtual 72, 3) := by decide +kernel
theorem d10_7 : decode prog_33_method_7_code 7 = .ok (.ifCond .ne 7, 3) := by decide +kernel
theorem d10_10 : decode prog_33_method_7_code 10 = .ok (.iconst 1, 1) := by decide +kernel
theorem d10_11 : decode prog_33_method_7_code 11 = .ok (.goto 4, 3) := by decide +kernel
theorem d10_14 : decode prog_33_method_7_code 14 = .ok (.iconst 0, 1) := by decide +kernel
theorem d10_15 : decode prog_33_method_7_code 15 = .ok (.ireturn, 1) := by decide +kernel
theorem ef_10 (m : MethodId) (x0 : Addr) : entryFrame m #[(.ref x0)] 1 = mkF m 0 #[.val (.ref x0)] [] := by first | (simp [entryFrame, mkF, argsToLocals, Value.category]; done) | rfl
def Q10 (Z : State) (a0 : Addr) (bq : Addr) (h0 : Heap) (n0 : Nat) (v : Option Value) (h : Heap) (L : List Loc) : Prop := v = some (.int (0 : Int32)) ∧ Fr n0 L ∧ h = h0
set_option maxRecDepth 65536 in
set_option maxHeartbeats 40000000 in
theorem rm10 (l : Launch) (Z : State) (aw : Array Value) (hw : ∀ d ∈ tables_1, d.before aw Z = true) (ws : List Jvm.Cond) (a0 : Addr) (bq : Addr) (h0 : Heap) (n0 : Nat) (Z0 : n0 ≤ h0.size) (r0 : Fld Z h0 a0 "com/example/eager_courier/eagercourier/connection/OutboundQueue" "packets" "Ljava/util/ArrayDeque;" (.ref bq)) (r1 : Exa Z h0 bq "java/util/ArrayDeque") (r2 : Fld Z h0 bq "java/util/ArrayDeque" "head" "I" (.int (0 : Int32))) (r3 : Fld Z h0 bq "java/util/ArrayDeque" "tail" "I" (.int (0 : Int32))) :
    MetFree l (⟨"com/example/eager_courier/eagercourier/connection/OutboundQueue", "hasPackets", "()Z"⟩ : MethodName) (head1 (Jvm.Cond.code (⟨"com/example/eager_courier/eagercourier/connection/OutboundQueue", "hasPackets", "()Z"⟩ : MethodName) prog_33_method_7_code 1 (some .boolean) :: ws) ({ frames := 1, cells := 0, slots := 0, locals := 12 } : Room)) (fun a U => a = #[(.ref a0)] ∧ Z.Warmed39 U.vm ∧ U.heap = h0) (fun _ _ _ _ _ => True) (fun _ U o U' => ∃ v L, o = .returned v ∧ Q10 Z a0 bq h0 n0 v U'.heap L ∧ FrameEnd U o U' L ({ frames := 1, cells := 0, slots := 0, locals := 12 } : Room).cells ({ frames := 1, cells := 0, slots := 0, locals := 12 } : Room).slots) := by
  refine MetFree.of_bodySF (plainFor_of_name pn_1) hisR ?_
  intro p e s m args below meth c s₁ Bd hml0 hP hK
  obtain ⟨rfl, hZ, hh⟩ := hP
  have hx := Bd.exec
  have hby := Bd.bytes
  have hml : c.maxLocals = 1 := hml0
  have hown : s.vm.findClass "com/example/eager_courier/eagercourier/connection/OutboundQueue" = some m.cls := findClass_of_methodNamed Bd.named
  have hnm := (name_of_methodNamed Bd.named Bd.method).1
  have X0 : Stand p l e ({ frames := 1, cells := 0, slots := 0, locals := 12 } : Room) s m #[(.ref a0)] below meth c s₁ [] 0 0 := Stand.of_body Bd
  have e0 : s₁.heap = h0 := by rw [← hh, Bd.state]; rfl
  have N0 := Fr.nil n0
  obtain ⟨A0, hA0⟩ : ∃ A0, A0 = s₁.setTop (entryFrame m #[(.ref a0)] 1) := ⟨_, rfl⟩
  have go0 : Go p e below A0 (s₁.setTop (mkF m 0 #[.val (.ref a0)] [])) := fun t k => by rw [hA0]; exact castTop (ef_10 m a0) k
  obtain ⟨T1, X1, e1, st1⟩ := getF X0 hx hZ hown (host := "") (Or.inl (hw _ (List.mem_of_getElem? (i := 27) rfl))) Via.refl e0 r0 (g := (mkF m 1 #[.val (.ref a0)] [(.ref a0)])) rfl rfl (hb hby d10_1)
  obtain ⟨cq2, kq2, q2a, q2b, q2c⟩ := isOf hZ e1 r1
  obtain ⟨_, _, ⟨T2, L2, k2, n2⟩, -, X2, ⟨Lc2, hQ2, l2, y2, z2⟩, st2⟩ := X1.virtualBack hx (y := (⟨"java/util/ArrayDeque", "isEmpty", "()Z"⟩ : MethodName)) (z := (⟨"java/util/ArrayDeque", "isEmpty", "()Z"⟩ : MethodName)) hown (mvT hZ (hw _ (List.mem_of_getElem? (i := 53) rfl))) (mvT hZ (hw _ (List.mem_of_getElem? (i := 54) rfl))) (notFace_of_selects (args := #[]) (mvT hZ (hw _ (List.mem_of_getElem? (i := 56) rfl)))) (mvT hZ (hw _ (List.mem_of_getElem? (i := 56) rfl))) (mvT hZ (hw _ (List.mem_of_getElem? (i := 55) rfl))) (by decide) (backOf (W := 0) (rm9 l Z aw hw [] bq h0 n0 Z0 (r2) (r3)) hZ (hw _ (List.mem_of_getElem? (i := 57) rfl)) (hw _ (List.mem_of_getElem? (i := 11) rfl)) (by decide) (by decide)) q2a q2c (g := (mkF m 4 #[.val (.ref a0)] [(.ref bq)])) rfl (by rw [hml]; rfl) (Steps.refl _) (argsL := []) (rest := []) (lenOf pd_5 rfl) rfl (by show 2 * 0 + _ ≤ _; exact Nat.le_of_eq rfl) (hb hby d10_4) (fun _ _ => ⟨rfl, e1, (by decide : 0 + 0 ≤ _), (by decide : 0 + 0 ≤ _)⟩)
  dsimp only [Pt.U, Pt.locs, Pt.cells, Pt.slots] at X2 l2 y2 z2 st2 hQ2
  subst l2 y2 z2
  obtain ⟨rfl, N2q, e2⟩ := hQ2
  have N2 := Fr.app N0 N2q
  have go1 : Go p e below A0 (T2.setTop (mkF m 7 #[.val (.ref a0)] [(.int (1 : Int32))])) := by
    intro t k
    refine go0 t ?_
    refine o_aloadN X0 hx hby d10_0 1 rfl rfl rfl ?_
    refine st1 _ ?_
    show Steps p.tables e below (T1.setTop (mkF m 4 #[.val (.ref a0)] [(.ref bq)])) _
    refine st2.trans ?_
    show Steps p.tables e below (T2.setTop (mkF m 7 #[.val (.ref a0)] [(.int (1 : Int32))])) _
    exact k
  have go2 : Go p e below A0 (T2.setTop (mkF m 15 #[.val (.ref a0)] [(.int (0 : Int32))])) := by
    intro t k
    refine go1 t ?_
    refine o_ifY X2 hx hby d10_7 14 rfl (feq (by decide)).2 ?_
    refine o_iconst X2 hx hby d10_14 15 rfl (v := (0 : Int32)) rfl ?_
    exact k
  have hF : (0 : Int32) = (0 : Int32) := by first | rfl | simp only [*]
  subst hA0
  obtain ⟨fs, hr, hrun, hended, hW, hsame⟩ := X2.leave (v := some (.int (0 : Int32))) (fun h => by rw [Bd.returns] at h; cases h)
  refine ⟨_, _, go2 _ (o_retZ X2 hx Bd.returns (hb hby d10_15) (Or.inl rfl) hr), hrun, hended, _, _, rfl, ?_, ⟨_, rfl⟩, hW, hsame.mono (by decide) (by decide)⟩
  show Q10 Z a0 bq h0 n0 _ T2.heap _
  rw [e2]
  exact ⟨congrArg (fun z => some (Value.int z)) hF, N2, rfl⟩
theorem d11_0 : decode prog_33_method_11_code 0 = .ok (.aload_n 0, 1) := by decide +kernel
theorem d11_1 : decode prog_33_method_11_code 1 = .ok (.getfield 75, 3) := by decide +kernel
theorem d11_4 : decode prog_33_method_11_code 4 = .ok (.ireturn, 1) := by decide +kernel
theorem ef_11 (m : MethodId) (x0 : Addr) : entryFrame m #[(.ref x0)] 1 = mkF m 0 #[.val (.ref x0)] [] := by first | (simp [entryFrame, mkF, argsToLocals, Value.category]; done) | rfl
def Q11 (Z : State) (a0 : Addr) (h0 : Heap) (n0 : Nat) (v : Option Value) (h : Heap) (L : List Loc) : Prop := v = some (.int (0 : Int32)) ∧ Fr n0 L ∧ h = h0
set_option maxRecDepth 65536 in
set_option maxHeartbeats 40000000 in
theorem rm11 (l : Launch) (Z : State) (aw : Array Value) (hw : ∀ d ∈ tables_1, d.before aw Z = true) (ws : List Jvm.Cond) (a0 : Addr) (h0 : Heap) (n0 : Nat) (Z0 : n0 ≤ h0.size) (r0 : Fld Z h0 a0 "com/example/eager_courier/eagercourier/connection/OutboundQueue" "lagging" "Z" (.int (0 : Int32))) :
    MetFree l (⟨"com/example/eager_courier/eagercourier/connection/OutboundQueue", "isLagging", "()Z"⟩ : MethodName) (head1 (Jvm.Cond.code (⟨"com/example/eager_courier/eagercourier/connection/OutboundQueue", "isLagging", "()Z"⟩ : MethodName) prog_33_method_11_code 1 (some .boolean) :: ws) ({ frames := 0, cells := 0, slots := 0, locals := 0 } : Room)) (fun a U => a = #[(.ref a0)] ∧ Z.Warmed39 U.vm ∧ U.heap = h0) (fun _ _ _ _ _ => True) (fun _ U o U' => ∃ v L, o = .returned v ∧ Q11 Z a0 h0 n0 v U'.heap L ∧ FrameEnd U o U' L ({ frames := 0, cells := 0, slots := 0, locals := 0 } : Room).cells ({ frames := 0, cells := 0, slots := 0, locals := 0 } : Room).slots) := by
  refine MetFree.of_bodySF (plainFor_of_name pn_1) hisR ?_
  intro p e s m args below meth c s₁ Bd hml0 hP hK
  obtain ⟨rfl, hZ, hh⟩ := hP
  have hx := Bd.exec
  have hby := Bd.bytes
  have hml : c.maxLocals = 1 := hml0
  have hown : s.vm.findClass "com/example/eager_courier/eagercourier/connection/OutboundQueue" = some m.cls := findClass_of_methodNamed Bd.named
  have hnm := (name_of_methodNamed Bd.named Bd.method).1
  have X0 : Stand p l e ({ frames := 0, cells := 0, slots := 0, locals := 0 } : Room) s m #[(.ref a0)] below meth c s₁ [] 0 0 := Stand.of_body Bd
  have e0 : s₁.heap = h0 := by rw [← hh, Bd.state]; rfl
  have N0 := Fr.nil n0
  obtain ⟨A0, hA0⟩ : ∃ A0, A0 = s₁.setTop (entryFrame m #[(.ref a0)] 1) := ⟨_, rfl⟩
  have go0 : Go p e below A0 (s₁.setTop (mkF m 0 #[.val (.ref a0)] [])) := fun t k => by rw [hA0]; exact castTop (ef_11 m a0) k
  obtain ⟨T1, X1, e1, st1⟩ := getF X0 hx hZ hown (host := "") (Or.inl (hw _ (List.mem_of_getElem? (i := 72) rfl))) Via.refl e0 r0 (g := (mkF m 1 #[.val (.ref a0)] [(.ref a0)])) rfl rfl (hb hby d11_1)
  have go1 : Go p e below A0 (T1.setTop (mkF m 4 #[.val (.ref a0)] [(.int (0 : Int32))])) := by
    intro t k
    refine go0 t ?_
    refine o_aloadN X0 hx hby d11_0 1 rfl rfl rfl ?_
    refine st1 _ ?_
    show Steps p.tables e below (T1.setTop (mkF m 4 #[.val (.ref a0)] [(.int (0 : Int32))])) _
    exact k
  have hF : (0 : Int32) = (0 : Int32) := by first | rfl | simp only [*]
  subst hA0
  obtain ⟨fs, hr, hrun, hended, hW, hsame⟩ := X1.leave (v := some (.int (0 : Int32))) (fun h => by rw [Bd.returns] at h; cases h)
  refine ⟨_, _, go1 _ (o_retZ X1 hx Bd.returns (hb hby d11_4) (Or.inl rfl) hr), hrun, hended, _, _, rfl, ?_, ⟨_, rfl⟩, hW, hsame.mono (by decide) (by decide)⟩
  show Q11 Z a0 h0 n0 _ T1.heap _
  rw [e1]
  exact ⟨congrArg (fun z => some (Value.int z)) hF, N0, rfl⟩
theorem d12_0 : decode prog_33_method_13_code 0 = .ok (.aload_n 0, 1) := by decide +kernel
theorem d12_1 : decode prog_33_method_13_code 1 = .ok (.getfield 79, 3) := by decide +kernel
theorem d12_4 : decode prog_33_method_13_code 4 = .ok (.ireturn, 1) := by decide +kernel
theorem ef_12 (m : MethodId) (x0 : Addr) : entryFrame m #[(.ref x0)] 1 = mkF m 0 #[.val (.ref x0)] [] := by first | (simp [entryFrame, mkF, argsToLocals, Value.category]; done) | rfl
def Q12 (Z : State) (a0 : Addr) (h0 : Heap) (n0 : Nat) (v : Option Value) (h : Heap) (L : List Loc) : Prop := v = some (.int (0 : Int32)) ∧ Fr n0 L ∧ h = h0
set_option maxRecDepth 65536 in
set_option maxHeartbeats 40000000 in
theorem rm12 (l : Launch) (Z : State) (aw : Array Value) (hw : ∀ d ∈ tables_1, d.before aw Z = true) (ws : List Jvm.Cond) (a0 : Addr) (h0 : Heap) (n0 : Nat) (Z0 : n0 ≤ h0.size) (r0 : Fld Z h0 a0 "com/example/eager_courier/eagercourier/connection/OutboundQueue" "socketFull" "Z" (.int (0 : Int32))) :
    MetFree l (⟨"com/example/eager_courier/eagercourier/connection/OutboundQueue", "isSocketFull", "()Z"⟩ : MethodName) (head1 (Jvm.Cond.code (⟨"com/example/eager_courier/eagercourier/connection/OutboundQueue", "isSocketFull", "()Z"⟩ : MethodName) prog_33_method_13_code 1 (some .boolean) :: ws) ({ frames := 0, cells := 0, slots := 0, locals := 0 } : Room)) (fun a U => a = #[(.ref a0)] ∧ Z.Warmed39 U.vm ∧ U.heap = h0) (fun _ _ _ _ _ => True) (fun _ U o U' => ∃ v L, o = .returned v ∧ Q12 Z a0 h0 n0 v U'.heap L ∧ FrameEnd U o U' L ({ frames := 0, cells := 0, slots := 0, locals := 0 } : Room).cells ({ frames := 0, cells := 0, slots := 0, locals := 0 } : Room).slots) := by
  refine MetFree.of_bodySF (plainFor_of_name pn_1) hisR ?_
  intro p e s m args below meth c s₁ Bd hml0 hP hK
  obtain ⟨rfl, hZ, hh⟩ := hP
  have hx := Bd.exec
  have hby := Bd.bytes
  have hml : c.maxLocals = 1 := hml0
  have hown : s.vm.findClass "com/example/eager_courier/eagercourier/connection/OutboundQueue" = some m.cls := findClass_of_methodNamed Bd.named
  have hnm := (name_of_methodNamed Bd.named Bd.method).1
  have X0 : Stand p l e ({ frames := 0, cells := 0, slots := 0, locals := 0 } : Room) s m #[(.ref a0)] below meth c s₁ [] 0 0 := Stand.of_body Bd
  have e0 : s₁.heap = h0 := by rw [← hh, Bd.state]; rfl
  have N0 := Fr.nil n0
  obtain ⟨A0, hA0⟩ : ∃ A0, A0 = s₁.setTop (entryFrame m #[(.ref a0)] 1) := ⟨_, rfl⟩
  have go0 : Go p e below A0 (s₁.setTop (mkF m 0 #[.val (.ref a0)] [])) := fun t k => by rw [hA0]; exact castTop (ef_12 m a0) k
  obtain ⟨T1, X1, e1, st1⟩ := getF X0 hx hZ hown (host := "") (Or.inl (hw _ (List.mem_of_getElem? (i := 79) rfl))) Via.refl e0 r0 (g := (mkF m 1 #[.val (.ref a0)] [(.ref a0)])) rfl rfl (hb hby d12_1)
  have go1 : Go p e below A0 (T1.setTop (mkF m 4 #[.val (.ref a0)] [(.int (0 : Int32))])) := by
    intro t k
    refine go0 t ?_
    refine o_aloadN X0 hx hby d12_0 1 rfl rfl rfl ?_
    refine st1 _ ?_
    show Steps p.tables e below (T1.setTop (mkF m 4 #[.val (.ref a0)] [(.int (0 : Int32))])) _
    exact k
  have hF : (0 : Int32) = (0 : Int32) := by first | rfl | simp only [*]
  subst hA0
  obtain ⟨fs, hr, hrun, hended, hW, hsame⟩ := X1.leave (v := some (.int (0 : Int32))) (fun h => by rw [Bd.returns] at h; cases h)
  refine ⟨_, _, go1 _ (o_retZ X1 hx Bd.returns (hb hby d12_4) (Or.inl rfl) hr), hrun, hended, _, _, rfl, ?_, ⟨_, rfl⟩, hW, hsame.mono (by decide) (by decide)⟩
  show Q12 Z a0 h0 n0 _ T1.heap _
  rw [e1]
  exact ⟨congrArg (fun z => some (Value.int z)) hF, N0, rfl⟩
theorem pn_0 : plainName "com/example/eager_courier/eagercourier/connection/OutboundQueueCountPinLaw" = true := by first | (simp [plainName, overriddenIn]; done) | decide +kernel
theorem pd_7 : parseMethodDescriptor "(JJ)V" = some ⟨[.long, .long], none⟩ := by decide +kernel
theorem pd_8 : parseMethodDescriptor "()J" = some ⟨[], some .long⟩ := by decide +kernel
theorem ef_0 (m : MethodId) (x0 : Int64) (x1 : Int64) (x2 : Int64) (x3 : Int64) (x4 : Int32) : entryFrame m #[(.long x0), (.long x1), (.long x2), (.long x3), (.int x4)] maxLocals = mkF m 0 #[.val (.long x0), .second, .val (.long x1), .second, .val (.long x2), .second, .val (.long x3), .second, .val (.int x4), .unset, .unset, .unset, .unset, .unset, .unset, .unset, .unset, .unset, .unset, .unset] [] := by first | (simp [entryFrame, mkF, argsToLocals, Value.category, maxLocals]; done) | rfl
set_option maxRecDepth 65536 in
set_option maxHeartbeats 4000000 in
theorem pl_0_0 (q0 : Int64) (q1 : Int64) (q2 : Int64) (q3 : Int64) (p4 : Int32) (v1 : Int64) (v2 : Int64) (v3 : Int64) (v8 : Int32) (v9 : Int64) (v10 : Int64) (v11 : Int64) (v16 : Int32) (v18 : Int32) (hv1 : v1 = (if (p4 &&& (1 : Int32)) = (0 : Int32) then q2 else (-q0))) (hv2 : v2 = (if (p4 &&& (2 : Int32)) = (0 : Int32) then q3 else (-q1))) (hv3 : v3 = ((0 : Int64) + q0)) (hv8 : v8 = (if v3 = q0 then (if ((0 : Int64) + q1) = q1 then (if (Fempty ((0 : Int64) + q0) ((0 : Int64) + q1)) = (if q0 = (0 : Int64) then (if q1 = (0 : Int64) then (1 : Int32) else (0 : Int32)) else (0 : Int32)) then (1 : Int32) else (0 : Int32)) else (0 : Int32)) else (0 : Int32))) (hv9 : v9 = (q0 + v1)) (hv10 : v10 = (q1 + v2)) (hv11 : v11 = (((0 : Int64) + q0) + v1)) (hv16 : v16 = (if v11 = v9 then (if (((0 : Int64) + q1) + v2) = v10 then (if (Fempty (((0 : Int64) + q0) + v1) (((0 : Int64) + q1) + v2)) = (if v9 = (0 : Int64) then (if v10 = (0 : Int64) then (1 : Int32) else (0 : Int32)) else (0 : Int32)) then (1 : Int32) else (0 : Int32)) else (0 : Int32)) else (0 : Int32))) (hv18 : v18 = (if v8 = (0 : Int32) then (0 : Int32) else (if v16 = (0 : Int32) then (0 : Int32) else (1 : Int32)))) : v18 = (1 : Int32) := by
  have e8 : v8 = 1 := by
    rw [hv8, hv3]; simp only [Int64.zero_add, Fempty]; simp
  have e19 : v16 = 1 := by
    rw [hv16, hv11, hv10, hv9]; simp only [Int64.zero_add, Fempty]; simp
  rw [hv18, e8, e19]; decide
def Q0 (Z : State) (q0 : Int64) (q1 : Int64) (q2 : Int64) (q3 : Int64) (p4 : Int32) (h0 : Heap) (n0 : Nat) (v : Option Value) (h : Heap) (L : List Loc) : Prop := v = some (.int 1) ∧ Fr n0 L
set_option maxRecDepth 65536 in
set_option maxHeartbeats 40000000 in
theorem rm0 (l : Launch) (Z : State) (aw : Array Value) (hw : ∀ d ∈ tables_1, d.before aw Z = true) (ws : List Jvm.Cond) (q0 : Int64) (q1 : Int64) (q2 : Int64) (q3 : Int64) (p4 : Int32) (h0 : Heap) (n0 : Nat) (Z0 : n0 ≤ h0.size) :
    MetFree l x (head1 (Jvm.Cond.code x code maxLocals ret :: ws) room_1) (fun a U => a = #[(.long q0), (.long q1), (.long q2), (.long q3), (.int p4)] ∧ Z.Warmed39 U.vm ∧ U.heap = h0) (fun _ _ _ _ _ => True) (fun _ U o U' => ∃ v L, o = .returned v ∧ Q0 Z q0 q1 q2 q3 p4 h0 n0 v U'.heap L ∧ FrameEnd U o U' L room_1.cells room_1.slots) := by
  refine MetFree.of_bodySF (plainFor_of_name pn_0) hisR ?_
  intro p e s m args below meth c s₁ Bd hml0 hP hK
  obtain ⟨rfl, hZ, hh⟩ := hP
  have hx := Bd.exec
  have hby := Bd.bytes
  have hml : c.maxLocals = 20 := hml0
  have hown : s.vm.findClass "com/example/eager_courier/eagercourier/connection/OutboundQueueCountPinLaw" = some m.cls := findClass_of_methodNamed Bd.named
  have hnm := (name_of_methodNamed Bd.named Bd.method).1
  have X0 : Stand p l e room_1 s m #[(.long q0), (.long q1), (.long q2), (.long q3), (.int p4)] below meth c s₁ [] 0 0 := Stand.of_body Bd
  have e0 : s₁.heap = h0 := by rw [← hh, Bd.state]; rfl
  have N0 := Fr.nil n0
  obtain ⟨A0, hA0⟩ : ∃ A0, A0 = s₁.setTop (entryFrame m #[(.long q0), (.long q1), (.long q2), (.long q3), (.int p4)] maxLocals) := ⟨_, rfl⟩
  have go0 : Go p e below A0 (s₁.setTop (mkF m 0 #[.val (.long q0), .second, .val (.long q1), .second, .val (.long q2), .second, .val (.long q3), .second, .val (.int p4), .unset, .unset, .unset, .unset, .unset, .unset, .unset, .unset, .unset, .unset, .unset] [])) := fun t k => by rw [hA0]; exact castTop (ef_0 m q0 q1 q2 q3 p4) k
  have go1 : Go p e below A0 (s₁.setTop (mkF m 4 #[.val (.long q0), .second, .val (.long q1), .second, .val (.long q2), .second, .val (.long q3), .second, .val (.int p4), .unset, .unset, .unset, .unset, .unset, .unset, .unset, .unset, .unset, .unset, .unset] [(.int (p4 &&& (1 : Int32)))])) := by
    intro t k
    refine go0 t ?_
    refine o_iload X0 hx hby at_0 2 rfl rfl ?_
    refine o_iconst X0 hx hby at_2 3 rfl (v := (1 : Int32)) rfl ?_
    refine o_iand X0 hx hby at_3 4 rfl ?_
    exact k
  obtain ⟨v1, hv1, go4⟩ : ∃ (v1 : Int64), v1 = (if (p4 &&& (1 : Int32)) = (0 : Int32) then q2 else (-q0)) ∧ Go p e below A0 (s₁.setTop (mkF m 14 #[.val (.long q0), .second, .val (.long q1), .second, .val (.long q2), .second, .val (.long q3), .second, .val (.int p4), .unset, .unset, .unset, .unset, .unset, .unset, .unset, .unset, .unset, .unset, .unset] [(.long v1)])) := by
    by_cases hc4_1 : (p4 &&& (1 : Int32)) = (0 : Int32)
    · have go2 : Go p e below A0 (s₁.setTop (mkF m 14 #[.val (.long q0), .second, .val (.long q1), .second, .val (.long q2), .second, .val (.long q3), .second, .val (.int p4), .unset, .unset, .unset, .unset, .unset, .unset, .unset, .unset, .unset, .unset, .unset] [(.long q2)])) := by
        intro t k
        refine go1 t ?_
        refine o_ifY X0 hx hby at_4 12 rfl (teq hc4_1).1 ?_
        refine o_lload X0 hx hby at_12 14 rfl rfl ?_
        exact k
      exact ⟨q2, (if_pos hc4_1).symm, go2⟩
    · have go3 : Go p e below A0 (s₁.setTop (mkF m 14 #[.val (.long q0), .second, .val (.long q1), .second, .val (.long q2), .second, .val (.long q3), .second, .val (.int p4), .unset, .unset, .unset, .unset, .unset, .unset, .unset, .unset, .unset, .unset, .unset] [(.long (-q0))])) := by
        intro t k
        refine go1 t ?_
        refine o_ifN X0 hx hby at_4 7 rfl (feq hc4_1).1 ?_
        refine o_lloadN X0 hx hby at_7 8 rfl rfl ?_
        refine o_lneg X0 hx hby at_8 9 rfl ?_
        refine o_goto X0 hx hby at_9 14 rfl ?_
        exact k
      exact ⟨(-q0), (if_neg hc4_1).symm, go3⟩
  have go5 : Go p e below A0 (s₁.setTop (mkF m 16 #[.val (.long q0), .second, .val (.long q1), .second, .val (.long q2), .second, .val (.long q3), .second, .val (.int p4), .val (.long v1), .second, .unset, .unset, .unset, .unset, .unset, .unset, .unset, .unset, .unset] [])) := by
    intro t k
    refine go4 t ?_
    refine o_lstore X0 hx hby at_14 16 rfl (l' := #[.val (.long q0), .second, .val (.long q1), .second, .val (.long q2), .second, .val (.long q3), .second, .val (.int p4), .val (.long v1), .second, .unset, .unset, .unset, .unset, .unset, .unset, .unset, .unset, .unset]) rfl ?_
    exact k
  have go6 : Go p e below A0 (s₁.setTop (mkF m 20 #[.val (.long q0), .second, .val (.long q1), .second, .val (.long q2), .second, .val (.long q3), .second, .val (.int p4), .val (.long v1), .second, .unset, .unset, .unset, .unset, .unset, .unset, .unset, .unset, .unset] [(.int (p4 &&& (2 : Int32)))])) := by
    intro t k
    refine go5 t ?_
    refine o_iload X0 hx hby at_16 18 rfl rfl ?_
    refine o_iconst X0 hx hby at_18 19 rfl (v := (2 : Int32)) rfl ?_
    refine o_iand X0 hx hby at_19 20 rfl ?_
    exact k
  obtain ⟨v2, hv2, go9⟩ : ∃ (v2 : Int64), v2 = (if (p4 &&& (2 : Int32)) = (0 : Int32) then q3 else (-q1)) ∧ Go p e below A0 (s₁.setTop (mkF m 30 #[.val (.long q0), .second, .val (.long q1), .second, .val (.long q2), .second, .val (.long q3), .second, .val (.int p4), .val (.long v1), .second, .unset, .unset, .unset, .unset, .unset, .unset, .unset, .unset, .unset] [(.long v2)])) := by
    by_cases hc20_2 : (p4 &&& (2 : Int32)) = (0 : Int32)
    · have go7 : Go p e below A0 (s₁.setTop (mkF m 30 #[.val (.long q0), .second, .val (.long q1), .second, .val (.long q2), .second, .val (.long q3), .second, .val (.int p4), .val (.long v1), .second, .unset, .unset, .unset, .unset, .unset, .unset, .unset, .unset, .unset] [(.long q3)])) := by
        intro t k
        refine go6 t ?_
        refine o_ifY X0 hx hby at_20 28 rfl (teq hc20_2).1 ?_
        refine o_lload X0 hx hby at_28 30 rfl rfl ?_
        exact k
      exact ⟨q3, (if_pos hc20_2).symm, go7⟩
    · have go8 : Go p e below A0 (s₁.setTop (mkF m 30 #[.val (.long q0), .second, .val (.long q1), .second, .val (.long q2), .second, .val (.long q3), .second, .val (.int p4), .val (.long v1), .second, .unset, .unset, .unset, .unset, .unset, .unset, .unset, .unset, .unset] [(.long (-q1))])) := by
        intro t k
        refine go6 t ?_
        refine o_ifN X0 hx hby at_20 23 rfl (feq hc20_2).1 ?_
        refine o_lloadN X0 hx hby at_23 24 rfl rfl ?_
        refine o_lneg X0 hx hby at_24 25 rfl ?_
        refine o_goto X0 hx hby at_25 30 rfl ?_
        exact k
      exact ⟨(-q1), (if_neg hc20_2).symm, go8⟩
  have go10 : Go p e below A0 (s₁.setTop (mkF m 32 #[.val (.long q0), .second, .val (.long q1), .second, .val (.long q2), .second, .val (.long q3), .second, .val (.int p4), .val (.long v1), .second, .val (.long v2), .second, .unset, .unset, .unset, .unset, .unset, .unset, .unset] [])) := by
    intro t k
    refine go9 t ?_
    refine o_lstore X0 hx hby at_30 32 rfl (l' := #[.val (.long q0), .second, .val (.long q1), .second, .val (.long q2), .second, .val (.long q3), .second, .val (.int p4), .val (.long v1), .second, .val (.long v2), .second, .unset, .unset, .unset, .unset, .unset, .unset, .unset]) rfl ?_
    exact k
  obtain ⟨T3, h3, X3, e3, E3, A3, D3, -, st3⟩ := newO X0 hx hZ hown (hw _ (List.mem_of_getElem? (i := 0) rfl)) (hw _ (List.mem_of_getElem? (i := 1) rfl)) (hw _ (List.mem_of_getElem? (i := 2) rfl)) e0 (g := (mkF m 32 #[.val (.long q0), .second, .val (.long q1), .second, .val (.long q2), .second, .val (.long q3), .second, .val (.int p4), .val (.long v1), .second, .val (.long v2), .second, .unset, .unset, .unset, .unset, .unset, .unset, .unset] [])) rfl (hb hby at_32) (by decide) (by decide)
  obtain ⟨b3, g3⟩ : ∃ z, z = h0.size := ⟨_, rfl⟩
  rw [← g3] at A3 D3 st3
  have g_b3 : n0 ≤ b3 := Nat.le_trans Z0 (Nat.le_of_eq g3.symm)
  have sz_b3 : h0.size ≤ b3 := Nat.le_trans (Keep.refl h0 []).1 (Nat.le_of_eq g3.symm)
  have Zp3 : n0 ≤ h3.size := Nat.le_trans Z0 E3.1
  have K3 : Keep h0 h3 [] := (Keep.refl h0 []).ext E3
  have f1 : Exa Z h3 b3 "com/example/eager_courier/eagercourier/connection/OutboundQueue" := A3
  have f2 : Fld Z h3 b3 "com/example/eager_courier/eagercourier/connection/OutboundQueue" "packets" "Ljava/util/ArrayDeque;" .null := D3 (Or.inl (hw _ (List.mem_of_getElem? (i := 28) rfl))) (ty := (.object "java/util/ArrayDeque")) (by decide)
  have f3 : Fld Z h3 b3 "com/example/eager_courier/eagercourier/connection/OutboundQueue" "notTaken" "J" (.long (0 : Int64)) := D3 (Or.inl (hw _ (List.mem_of_getElem? (i := 35) rfl))) (ty := .long) (by decide)
  have f4 : Fld Z h3 b3 "com/example/eager_courier/eagercourier/connection/OutboundQueue" "held" "J" (.long (0 : Int64)) := D3 (Or.inl (hw _ (List.mem_of_getElem? (i := 37) rfl))) (ty := .long) (by decide)
  have f5 : Fld Z h3 b3 "com/example/eager_courier/eagercourier/connection/OutboundQueue" "lagging" "Z" (.int (0 : Int32)) := D3 (Or.inl (hw _ (List.mem_of_getElem? (i := 73) rfl))) (ty := .boolean) (by decide)
  have f6 : Fld Z h3 b3 "com/example/eager_courier/eagercourier/connection/OutboundQueue" "socketFull" "Z" (.int (0 : Int32)) := D3 (Or.inl (hw _ (List.mem_of_getElem? (i := 80) rfl))) (ty := .boolean) (by decide)
  obtain ⟨_, _, ⟨T4, L4, k4, n4⟩, -, X4, ⟨Lc4, hQ4, l4, y4, z4⟩, st4⟩ := X3.specialBack hx (y := (⟨"com/example/eager_courier/eagercourier/connection/OutboundQueue", "<init>", "()V"⟩ : MethodName)) rfl hown (mvT hZ (hw _ (List.mem_of_getElem? (i := 3) rfl))) (mvT hZ (hw _ (List.mem_of_getElem? (i := 4) rfl))) (mvT hZ (hw _ (List.mem_of_getElem? (i := 5) rfl))) (by decide) (backOf (W := 1) (rm1 l Z aw hw [] b3 h3 n0 Zp3 (f1) (g_b3) (f2) (f3) (f4) (f5) (f6)) hZ (hw _ (List.mem_of_getElem? (i := 5) rfl)) (hw _ (List.mem_of_getElem? (i := 2) rfl)) (by decide) (by decide)) (g := (mkF m 36 #[.val (.long q0), .second, .val (.long q1), .second, .val (.long q2), .second, .val (.long q3), .second, .val (.int p4), .val (.long v1), .second, .val (.long v2), .second, .unset, .unset, .unset, .unset, .unset, .unset, .unset] [(.ref b3), (.ref b3)])) rfl (by rw [hml]; rfl) (Steps.refl _) (a := b3) (argsL := []) (rest := [(.ref b3)]) (lenOf pd_2 rfl) rfl (by show 2 * 0 + _ ≤ _; exact Nat.le_of_eq rfl) (hb hby at_36) (fun _ _ => ⟨rfl, e3, (by decide : 1 + 2 ≤ _), (by decide : 6 + 7 ≤ _)⟩)
  dsimp only [Pt.U, Pt.locs, Pt.cells, Pt.slots] at X4 l4 y4 z4 st4 hQ4
  subst l4 y4 z4
  obtain ⟨rfl, N4q, K4q, b4_bq, sz_b4_bqq, qf4_0, qf4_1, qf4_2, qf4_3, qf4_4, qf4_5, qf4_6, qf4_7, -⟩ := hQ4
  have ne_b3_b4_bq : b3 ≠ b4_bq := Nat.ne_of_lt (Nat.lt_of_lt_of_le f1.lt sz_b4_bqq)
  have g_b4_bq : n0 ≤ b4_bq := Nat.le_trans Zp3 sz_b4_bqq
  have sz_b4_bq : h0.size ≤ b4_bq := Nat.le_trans K3.1 sz_b4_bqq
  have f7 : Exa Z T4.heap b3 "com/example/eager_courier/eagercourier/connection/OutboundQueue" := f1.keep K4q
  have Zp4 : n0 ≤ T4.heap.size := Nat.le_trans Zp3 K4q.1
  have K4 : Keep h0 T4.heap [] := Keep.trans K3 K4q (allS (P := fun x => x ∈ ([] : List Addr) ∨ h0.size ≤ x) (Or.inr sz_b3) all0)
  have f8 : Fld Z T4.heap b3 "com/example/eager_courier/eagercourier/connection/OutboundQueue" "packets" "Ljava/util/ArrayDeque;" (.ref b4_bq) := qf4_0
  have f9 : Exa Z T4.heap b4_bq "java/util/ArrayDeque" := qf4_1
  have f10 : Fld Z T4.heap b4_bq "java/util/ArrayDeque" "head" "I" (.int (0 : Int32)) := qf4_2
  have f11 : Fld Z T4.heap b4_bq "java/util/ArrayDeque" "tail" "I" (.int (0 : Int32)) := qf4_3
  have f12 : Fld Z T4.heap b3 "com/example/eager_courier/eagercourier/connection/OutboundQueue" "notTaken" "J" (.long (0 : Int64)) := qf4_4
  have f13 : Fld Z T4.heap b3 "com/example/eager_courier/eagercourier/connection/OutboundQueue" "held" "J" (.long (0 : Int64)) := qf4_5
  have f14 : Fld Z T4.heap b3 "com/example/eager_courier/eagercourier/connection/OutboundQueue" "lagging" "Z" (.int (0 : Int32)) := qf4_6
  have f15 : Fld Z T4.heap b3 "com/example/eager_courier/eagercourier/connection/OutboundQueue" "socketFull" "Z" (.int (0 : Int32)) := qf4_7
  have N4 := Fr.app N0 N4q
  have go11 : Go p e below A0 (T4.setTop (mkF m 45 #[.val (.long q0), .second, .val (.long q1), .second, .val (.long q2), .second, .val (.long q3), .second, .val (.int p4), .val (.long v1), .second, .val (.long v2), .second, .val (.ref b3), .unset, .unset, .unset, .unset, .unset, .unset] [(.long q1), (.long q0), (.ref b3)])) := by
    intro t k
    refine go10 t ?_
    refine st3 _ ?_
    show Steps p.tables e below (T3.setTop (mkF m 35 #[.val (.long q0), .second, .val (.long q1), .second, .val (.long q2), .second, .val (.long q3), .second, .val (.int p4), .val (.long v1), .second, .val (.long v2), .second, .unset, .unset, .unset, .unset, .unset, .unset, .unset] [(.ref b3)])) _
    refine o_dup X3 hx hby at_35 36 rfl rfl ?_
    refine st4.trans ?_
    show Steps p.tables e below (T4.setTop (mkF m 39 #[.val (.long q0), .second, .val (.long q1), .second, .val (.long q2), .second, .val (.long q3), .second, .val (.int p4), .val (.long v1), .second, .val (.long v2), .second, .unset, .unset, .unset, .unset, .unset, .unset, .unset] [(.ref b3)])) _
    refine o_astore X4 hx hby at_39 41 rfl rfl (l' := #[.val (.long q0), .second, .val (.long q1), .second, .val (.long q2), .second, .val (.long q3), .second, .val (.int p4), .val (.long v1), .second, .val (.long v2), .second, .val (.ref b3), .unset, .unset, .unset, .unset, .unset, .unset]) rfl ?_
    refine o_aload X4 hx hby at_41 43 rfl rfl rfl ?_
    refine o_lloadN X4 hx hby at_43 44 rfl rfl ?_
    refine o_lloadN X4 hx hby at_44 45 rfl rfl ?_
    exact k
  obtain ⟨cq5, kq5, q5a, q5b, q5c⟩ := isOf hZ rfl f7
  obtain ⟨_, _, ⟨T5, L5, k5, n5⟩, -, X5, ⟨Lc5, hQ5, l5, y5, z5⟩, st5⟩ := X4.virtualBack hx (y := (⟨"com/example/eager_courier/eagercourier/connection/OutboundQueue", "count", "(JJ)V"⟩ : MethodName)) (z := (⟨"com/example/eager_courier/eagercourier/connection/OutboundQueue", "count", "(JJ)V"⟩ : MethodName)) hown (mvT hZ (hw _ (List.mem_of_getElem? (i := 29) rfl))) (mvT hZ (hw _ (List.mem_of_getElem? (i := 30) rfl))) (notFace_of_selects (args := #[]) (mvT hZ (hw _ (List.mem_of_getElem? (i := 32) rfl)))) (mvT hZ (hw _ (List.mem_of_getElem? (i := 32) rfl))) (mvT hZ (hw _ (List.mem_of_getElem? (i := 31) rfl))) (by decide) (backOf (W := 0) (rm5 l Z aw hw [] b3 q0 q1 (0 : Int64) (0 : Int64) b4_bq T4.heap n0 Zp4 (f7) (g_b3) (f12) (f13) (f14) (f15) (f8)) hZ (hw _ (List.mem_of_getElem? (i := 33) rfl)) (hw _ (List.mem_of_getElem? (i := 2) rfl)) (by decide) (by decide)) q5a q5c (g := (mkF m 45 #[.val (.long q0), .second, .val (.long q1), .second, .val (.long q2), .second, .val (.long q3), .second, .val (.int p4), .val (.long v1), .second, .val (.long v2), .second, .val (.ref b3), .unset, .unset, .unset, .unset, .unset, .unset] [(.long q1), (.long q0), (.ref b3)])) rfl (by rw [hml]; rfl) (Steps.refl _) (argsL := [(.long q0), (.long q1)]) (rest := []) (lenOf pd_7 rfl) rfl (by show 2 * 0 + _ ≤ _; exact Nat.le_of_eq rfl) (hb hby at_45) (fun _ _ => ⟨rfl, rfl, (by decide : 3 + 0 ≤ _), (by decide : 13 + 0 ≤ _)⟩)
  dsimp only [Pt.U, Pt.locs, Pt.cells, Pt.slots] at X5 l5 y5 z5 st5 hQ5
  subst l5 y5 z5
  obtain ⟨rfl, N5q, K5q, qf5_0, qf5_1, qf5_2, qf5_3, qf5_4, -⟩ := hQ5
  have f16 : Exa Z T5.heap b3 "com/example/eager_courier/eagercourier/connection/OutboundQueue" := f7.keep K5q
  have f17 : Exa Z T5.heap b4_bq "java/util/ArrayDeque" := f9.keep K5q
  have f18 : Fld Z T5.heap b4_bq "java/util/ArrayDeque" "head" "I" (.int (0 : Int32)) := f10.keep K5q (ninS (Ne.symm ne_b3_b4_bq) nin0)
  have f19 : Fld Z T5.heap b4_bq "java/util/ArrayDeque" "tail" "I" (.int (0 : Int32)) := f11.keep K5q (ninS (Ne.symm ne_b3_b4_bq) nin0)
  have Zp5 : n0 ≤ T5.heap.size := Nat.le_trans Zp4 K5q.1
  have K5 : Keep h0 T5.heap [] := Keep.trans K4 K5q (allS (P := fun x => x ∈ ([] : List Addr) ∨ h0.size ≤ x) (Or.inr sz_b3) all0)
  have f20 : Fld Z T5.heap b3 "com/example/eager_courier/eagercourier/connection/OutboundQueue" "notTaken" "J" (.long ((0 : Int64) + q0)) := qf5_0
  have f21 : Fld Z T5.heap b3 "com/example/eager_courier/eagercourier/connection/OutboundQueue" "held" "J" (.long ((0 : Int64) + q1)) := qf5_1
  have f22 : Fld Z T5.heap b3 "com/example/eager_courier/eagercourier/connection/OutboundQueue" "lagging" "Z" (.int (0 : Int32)) := qf5_2
  have f23 : Fld Z T5.heap b3 "com/example/eager_courier/eagercourier/connection/OutboundQueue" "socketFull" "Z" (.int (0 : Int32)) := qf5_3
  have f24 : Fld Z T5.heap b3 "com/example/eager_courier/eagercourier/connection/OutboundQueue" "packets" "Ljava/util/ArrayDeque;" (.ref b4_bq) := qf5_4
  have N5 := Fr.app N4 N5q
  obtain ⟨cq6, kq6, q6a, q6b, q6c⟩ := isOf hZ rfl f16
  obtain ⟨_, _, ⟨T6, L6, k6, n6⟩, -, X6, ⟨Lc6, hQ6, l6, y6, z6⟩, st6⟩ := X5.virtualBack hx (y := (⟨"com/example/eager_courier/eagercourier/connection/OutboundQueue", "getNotTaken", "()J"⟩ : MethodName)) (z := (⟨"com/example/eager_courier/eagercourier/connection/OutboundQueue", "getNotTaken", "()J"⟩ : MethodName)) hown (mvT hZ (hw _ (List.mem_of_getElem? (i := 38) rfl))) (mvT hZ (hw _ (List.mem_of_getElem? (i := 39) rfl))) (notFace_of_selects (args := #[]) (mvT hZ (hw _ (List.mem_of_getElem? (i := 41) rfl)))) (mvT hZ (hw _ (List.mem_of_getElem? (i := 41) rfl))) (mvT hZ (hw _ (List.mem_of_getElem? (i := 40) rfl))) (by decide) (backOf (W := 0) (rm6 l Z aw hw [] b3 (((0 : Int64) + q0)) T5.heap n0 Zp5 (f20)) hZ (hw _ (List.mem_of_getElem? (i := 42) rfl)) (hw _ (List.mem_of_getElem? (i := 2) rfl)) (by decide) (by decide)) q6a q6c (g := (mkF m 50 #[.val (.long q0), .second, .val (.long q1), .second, .val (.long q2), .second, .val (.long q3), .second, .val (.int p4), .val (.long v1), .second, .val (.long v2), .second, .val (.ref b3), .unset, .unset, .unset, .unset, .unset, .unset] [(.ref b3)])) rfl (by rw [hml]; rfl) (Steps.refl _) (argsL := []) (rest := []) (lenOf pd_8 rfl) rfl (by show 2 * 0 + _ ≤ _; exact Nat.le_of_eq rfl) (hb hby at_50) (fun _ _ => ⟨rfl, rfl, (by decide : 3 + 0 ≤ _), (by decide : 13 + 0 ≤ _)⟩)
  dsimp only [Pt.U, Pt.locs, Pt.cells, Pt.slots] at X6 l6 y6 z6 st6 hQ6
  subst l6 y6 z6
  obtain ⟨rfl, N6q, e6⟩ := hQ6
  have N6 := Fr.app N5 N6q
  have go12 : Go p e below A0 (T6.setTop (mkF m 53 #[.val (.long q0), .second, .val (.long q1), .second, .val (.long q2), .second, .val (.long q3), .second, .val (.int p4), .val (.long v1), .second, .val (.long v2), .second, .val (.ref b3), .unset, .unset, .unset, .unset, .unset, .unset] [(.long ((0 : Int64) + q0))])) := by
    intro t k
    refine go11 t ?_
    refine st5.trans ?_
    show Steps p.tables e below (T5.setTop (mkF m 48 #[.val (.long q0), .second, .val (.long q1), .second, .val (.long q2), .second, .val (.long q3), .second, .val (.int p4), .val (.long v1), .second, .val (.long v2), .second, .val (.ref b3), .unset, .unset, .unset, .unset, .unset, .unset] [])) _
    refine o_aload X5 hx hby at_48 50 rfl rfl rfl ?_
    refine st6.trans ?_
    show Steps p.tables e below (T6.setTop (mkF m 53 #[.val (.long q0), .second, .val (.long q1), .second, .val (.long q2), .second, .val (.long q3), .second, .val (.int p4), .val (.long v1), .second, .val (.long v2), .second, .val (.ref b3), .unset, .unset, .unset, .unset, .unset, .unset] [(.long ((0 : Int64) + q0))])) _
    exact k
  obtain ⟨v3, hv3, go13⟩ : ∃ v3 : Int64, v3 = ((0 : Int64) + q0) ∧ Go p e below A0 (T6.setTop (mkF m 53 #[.val (.long q0), .second, .val (.long q1), .second, .val (.long q2), .second, .val (.long q3), .second, .val (.int p4), .val (.long v1), .second, .val (.long v2), .second, .val (.ref b3), .unset, .unset, .unset, .unset, .unset, .unset] [(.long v3)])) := ⟨_, rfl, go12⟩
  have go14 : Go p e below A0 (T6.setTop (mkF m 55 #[.val (.long q0), .second, .val (.long q1), .second, .val (.long q2), .second, .val (.long q3), .second, .val (.int p4), .val (.long v1), .second, .val (.long v2), .second, .val (.ref b3), .unset, .unset, .unset, .unset, .unset, .unset] [(.int (lcmpW v3 q0))])) := by
    intro t k
    refine go13 t ?_
    refine o_lloadN X6 hx hby at_53 54 rfl rfl ?_
    refine o_lcmp X6 hx hby at_54 55 rfl ?_
    exact k
  obtain ⟨T15, l15, v8, X15, N15, e15, hv8, go29⟩ : ∃ (T15 : State) (l15 : List Loc) (v8 : Int32), Stand p l e room_1 s m #[(.long q0), (.long q1), (.long q2), (.long q3), (.int p4)] below meth c T15 l15 3 13 ∧ Fr n0 l15 ∧ T15.heap = T5.heap ∧ v8 = (if v3 = q0 then (if ((0 : Int64) + q1) = q1 then (if (Fempty ((0 : Int64) + q0) ((0 : Int64) + q1)) = (if q0 = (0 : Int64) then (if q1 = (0 : Int64) then (1 : Int32) else (0 : Int32)) else (0 : Int32)) then (1 : Int32) else (0 : Int32)) else (0 : Int32)) else (0 : Int32)) ∧ Go p e below A0 (T15.setTop (mkF m 98 #[.val (.long q0), .second, .val (.long q1), .second, .val (.long q2), .second, .val (.long q3), .second, .val (.int p4), .val (.long v1), .second, .val (.long v2), .second, .val (.ref b3), .unset, .unset, .unset, .unset, .unset, .unset] [(.int v8)])) := by
    by_cases hc55_7 : v3 = q0
    · obtain ⟨cq8, kq8, q8a, q8b, q8c⟩ := isOf hZ e6 f16
      obtain ⟨_, _, ⟨T8, L8, k8, n8⟩, -, X8, ⟨Lc8, hQ8, l8, y8, z8⟩, st8⟩ := X6.virtualBack hx (y := (⟨"com/example/eager_courier/eagercourier/connection/OutboundQueue", "getHeld", "()J"⟩ : MethodName)) (z := (⟨"com/example/eager_courier/eagercourier/connection/OutboundQueue", "getHeld", "()J"⟩ : MethodName)) hown (mvT hZ (hw _ (List.mem_of_getElem? (i := 43) rfl))) (mvT hZ (hw _ (List.mem_of_getElem? (i := 44) rfl))) (notFace_of_selects (args := #[]) (mvT hZ (hw _ (List.mem_of_getElem? (i := 46) rfl)))) (mvT hZ (hw _ (List.mem_of_getElem? (i := 46) rfl))) (mvT hZ (hw _ (List.mem_of_getElem? (i := 45) rfl))) (by decide) (backOf (W := 0) (rm7 l Z aw hw [] b3 (((0 : Int64) + q1)) T5.heap n0 Zp5 (f21)) hZ (hw _ (List.mem_of_getElem? (i := 47) rfl)) (hw _ (List.mem_of_getElem? (i := 2) rfl)) (by decide) (by decide)) q8a q8c (g := (mkF m 60 #[.val (.long q0), .second, .val (.long q1), .second, .val (.long q2), .second, .val (.long q3), .second, .val (.int p4), .val (.long v1), .second, .val (.long v2), .second, .val (.ref b3), .unset, .unset, .unset, .unset, .unset, .unset] [(.ref b3)])) rfl (by rw [hml]; rfl) (Steps.refl _) (argsL := []) (rest := []) (lenOf pd_8 rfl) rfl (by show 2 * 0 + _ ≤ _; exact Nat.le_of_eq rfl) (hb hby at_60) (fun _ _ => ⟨rfl, e6, (by decide : 3 + 0 ≤ _), (by decide : 13 + 0 ≤ _)⟩)
      dsimp only [Pt.U, Pt.locs, Pt.cells, Pt.slots] at X8 l8 y8 z8 st8 hQ8
      subst l8 y8 z8
      obtain ⟨rfl, N8q, e8⟩ := hQ8
      have N8 := Fr.app N6 N8q
      have go15 : Go p e below A0 (T8.setTop (mkF m 65 #[.val (.long q0), .second, .val (.long q1), .second, .val (.long q2), .second, .val (.long q3), .second, .val (.int p4), .val (.long v1), .second, .val (.long v2), .second, .val (.ref b3), .unset, .unset, .unset, .unset, .unset, .unset] [(.int (lcmpW ((0 : Int64) + q1) q1))])) := by
        intro t k
        refine go14 t ?_
        refine o_ifN X6 hx hby at_55 58 rfl (teq ((lw_eq v3 q0).mpr hc55_7)).2 ?_
        refine o_aload X6 hx hby at_58 60 rfl rfl rfl ?_
        refine st8.trans ?_
        show Steps p.tables e below (T8.setTop (mkF m 63 #[.val (.long q0), .second, .val (.long q1), .second, .val (.long q2), .second, .val (.long q3), .second, .val (.int p4), .val (.long v1), .second, .val (.long v2), .second, .val (.ref b3), .unset, .unset, .unset, .unset, .unset, .unset] [(.long ((0 : Int64) + q1))])) _
        refine o_lloadN X8 hx hby at_63 64 rfl rfl ?_
        refine o_lcmp X8 hx hby at_64 65 rfl ?_
        exact k
      obtain ⟨T14, l14, v7, X14, N14, e14, hv7, go27⟩ : ∃ (T14 : State) (l14 : List Loc) (v7 : Int32), Stand p l e room_1 s m #[(.long q0), (.long q1), (.long q2), (.long q3), (.int p4)] below meth c T14 l14 3 13 ∧ Fr n0 l14 ∧ T14.heap = T5.heap ∧ v7 = (if ((0 : Int64) + q1) = q1 then (if (Fempty ((0 : Int64) + q0) ((0 : Int64) + q1)) = (if q0 = (0 : Int64) then (if q1 = (0 : Int64) then (1 : Int32) else (0 : Int32)) else (0 : Int32)) then (1 : Int32) else (0 : Int32)) else (0 : Int32)) ∧ Go p e below A0 (T14.setTop (mkF m 98 #[.val (.long q0), .second, .val (.long q1), .second, .val (.long q2), .second, .val (.long q3), .second, .val (.int p4), .val (.long v1), .second, .val (.long v2), .second, .val (.ref b3), .unset, .unset, .unset, .unset, .unset, .unset] [(.int v7)])) := by
        by_cases hc65_9 : ((0 : Int64) + q1) = q1
        · obtain ⟨cq10, kq10, q10a, q10b, q10c⟩ := isOf hZ e8 f16
          obtain ⟨_, _, ⟨T10, L10, k10, n10⟩, -, X10, ⟨Lc10, hQ10, l10, y10, z10⟩, st10⟩ := X8.virtualBack hx (y := (⟨"com/example/eager_courier/eagercourier/connection/OutboundQueue", "isEmpty", "()Z"⟩ : MethodName)) (z := (⟨"com/example/eager_courier/eagercourier/connection/OutboundQueue", "isEmpty", "()Z"⟩ : MethodName)) hown (mvT hZ (hw _ (List.mem_of_getElem? (i := 48) rfl))) (mvT hZ (hw _ (List.mem_of_getElem? (i := 49) rfl))) (notFace_of_selects (args := #[]) (mvT hZ (hw _ (List.mem_of_getElem? (i := 51) rfl)))) (mvT hZ (hw _ (List.mem_of_getElem? (i := 51) rfl))) (mvT hZ (hw _ (List.mem_of_getElem? (i := 50) rfl))) (by decide) (backOf (W := 0) (rm8 l Z aw hw [] b3 (((0 : Int64) + q0)) (((0 : Int64) + q1)) b4_bq T5.heap n0 Zp5 (f24) (f17) (f18) (f19) (f20) (f21)) hZ (hw _ (List.mem_of_getElem? (i := 52) rfl)) (hw _ (List.mem_of_getElem? (i := 2) rfl)) (by decide) (by decide)) q10a q10c (g := (mkF m 70 #[.val (.long q0), .second, .val (.long q1), .second, .val (.long q2), .second, .val (.long q3), .second, .val (.int p4), .val (.long v1), .second, .val (.long v2), .second, .val (.ref b3), .unset, .unset, .unset, .unset, .unset, .unset] [(.ref b3)])) rfl (by rw [hml]; rfl) (Steps.refl _) (argsL := []) (rest := []) (lenOf pd_5 rfl) rfl (by show 2 * 0 + _ ≤ _; exact Nat.le_of_eq rfl) (hb hby at_70) (fun _ _ => ⟨rfl, e8, (by decide : 3 + 0 ≤ _), (by decide : 13 + 0 ≤ _)⟩)
          dsimp only [Pt.U, Pt.locs, Pt.cells, Pt.slots] at X10 l10 y10 z10 st10 hQ10
          subst l10 y10 z10
          obtain ⟨rfl, N10q, e10⟩ := hQ10
          have N10 := Fr.app N8 N10q
          have go16 : Go p e below A0 (T10.setTop (mkF m 76 #[.val (.long q0), .second, .val (.long q1), .second, .val (.long q2), .second, .val (.long q3), .second, .val (.int p4), .val (.long v1), .second, .val (.long v2), .second, .val (.ref b3), .unset, .unset, .unset, .unset, .unset, .unset] [(.int (lcmpW q0 (0 : Int64))), (.int (Fempty ((0 : Int64) + q0) ((0 : Int64) + q1)))])) := by
            intro t k
            refine go15 t ?_
            refine o_ifN X8 hx hby at_65 68 rfl (teq ((lw_eq ((0 : Int64) + q1) q1).mpr hc65_9)).2 ?_
            refine o_aload X8 hx hby at_68 70 rfl rfl rfl ?_
            refine st10.trans ?_
            show Steps p.tables e below (T10.setTop (mkF m 73 #[.val (.long q0), .second, .val (.long q1), .second, .val (.long q2), .second, .val (.long q3), .second, .val (.int p4), .val (.long v1), .second, .val (.long v2), .second, .val (.ref b3), .unset, .unset, .unset, .unset, .unset, .unset] [(.int (Fempty ((0 : Int64) + q0) ((0 : Int64) + q1)))])) _
            refine o_lloadN X10 hx hby at_73 74 rfl rfl ?_
            refine o_lconst X10 hx hby at_74 75 rfl (v := (0 : Int64)) rfl ?_
            refine o_lcmp X10 hx hby at_75 76 rfl ?_
            exact k
          obtain ⟨v5, hv5, go22⟩ : ∃ (v5 : Int32), v5 = (if q0 = (0 : Int64) then (if q1 = (0 : Int64) then (1 : Int32) else (0 : Int32)) else (0 : Int32)) ∧ Go p e below A0 (T10.setTop (mkF m 90 #[.val (.long q0), .second, .val (.long q1), .second, .val (.long q2), .second, .val (.long q3), .second, .val (.int p4), .val (.long v1), .second, .val (.long v2), .second, .val (.ref b3), .unset, .unset, .unset, .unset, .unset, .unset] [(.int v5), (.int (Fempty ((0 : Int64) + q0) ((0 : Int64) + q1)))])) := by
            by_cases hc76_11 : q0 = (0 : Int64)
            · have go17 : Go p e below A0 (T10.setTop (mkF m 82 #[.val (.long q0), .second, .val (.long q1), .second, .val (.long q2), .second, .val (.long q3), .second, .val (.int p4), .val (.long v1), .second, .val (.long v2), .second, .val (.ref b3), .unset, .unset, .unset, .unset, .unset, .unset] [(.int (lcmpW q1 (0 : Int64))), (.int (Fempty ((0 : Int64) + q0) ((0 : Int64) + q1)))])) := by
                intro t k
                refine go16 t ?_
                refine o_ifN X10 hx hby at_76 79 rfl (teq ((lw_eq q0 (0 : Int64)).mpr hc76_11)).2 ?_
                refine o_lloadN X10 hx hby at_79 80 rfl rfl ?_
                refine o_lconst X10 hx hby at_80 81 rfl (v := (0 : Int64)) rfl ?_
                refine o_lcmp X10 hx hby at_81 82 rfl ?_
                exact k
              obtain ⟨v4, hv4, go20⟩ : ∃ (v4 : Int32), v4 = (if q1 = (0 : Int64) then (1 : Int32) else (0 : Int32)) ∧ Go p e below A0 (T10.setTop (mkF m 90 #[.val (.long q0), .second, .val (.long q1), .second, .val (.long q2), .second, .val (.long q3), .second, .val (.int p4), .val (.long v1), .second, .val (.long v2), .second, .val (.ref b3), .unset, .unset, .unset, .unset, .unset, .unset] [(.int v4), (.int (Fempty ((0 : Int64) + q0) ((0 : Int64) + q1)))])) := by
                by_cases hc82_12 : q1 = (0 : Int64)
                · have go18 : Go p e below A0 (T10.setTop (mkF m 90 #[.val (.long q0), .second, .val (.long q1), .second, .val (.long q2), .second, .val (.long q3), .second, .val (.int p4), .val (.long v1), .second, .val (.long v2), .second, .val (.ref b3), .unset, .unset, .unset, .unset, .unset, .unset] [(.int (1 : Int32)), (.int (Fempty ((0 : Int64) + q0) ((0 : Int64) + q1)))])) := by
                    intro t k
                    refine go17 t ?_
                    refine o_ifN X10 hx hby at_82 85 rfl (teq ((lw_eq q1 (0 : Int64)).mpr hc82_12)).2 ?_
                    refine o_iconst X10 hx hby at_85 86 rfl (v := (1 : Int32)) rfl ?_
                    refine o_goto X10 hx hby at_86 90 rfl ?_
                    exact k
                  exact ⟨(1 : Int32), (if_pos hc82_12).symm, go18⟩
                · have go19 : Go p e below A0 (T10.setTop (mkF m 90 #[.val (.long q0), .second, .val (.long q1), .second, .val (.long q2), .second, .val (.long q3), .second, .val (.int p4), .val (.long v1), .second, .val (.long v2), .second, .val (.ref b3), .unset, .unset, .unset, .unset, .unset, .unset] [(.int (0 : Int32)), (.int (Fempty ((0 : Int64) + q0) ((0 : Int64) + q1)))])) := by
                    intro t k
                    refine go17 t ?_
                    refine o_ifY X10 hx hby at_82 89 rfl (feq (fun q => hc82_12 ((lw_eq q1 (0 : Int64)).mp q))).2 ?_
                    refine o_iconst X10 hx hby at_89 90 rfl (v := (0 : Int32)) rfl ?_
                    exact k
                  exact ⟨(0 : Int32), (if_neg hc82_12).symm, go19⟩
              subst hv4
              exact ⟨(if q1 = (0 : Int64) then (1 : Int32) else (0 : Int32)), (if_pos hc76_11).symm, go20⟩
            · have go21 : Go p e below A0 (T10.setTop (mkF m 90 #[.val (.long q0), .second, .val (.long q1), .second, .val (.long q2), .second, .val (.long q3), .second, .val (.int p4), .val (.long v1), .second, .val (.long v2), .second, .val (.ref b3), .unset, .unset, .unset, .unset, .unset, .unset] [(.int (0 : Int32)), (.int (Fempty ((0 : Int64) + q0) ((0 : Int64) + q1)))])) := by
                intro t k
                refine go16 t ?_
                refine o_ifY X10 hx hby at_76 89 rfl (feq (fun q => hc76_11 ((lw_eq q0 (0 : Int64)).mp q))).2 ?_
                refine o_iconst X10 hx hby at_89 90 rfl (v := (0 : Int32)) rfl ?_
                exact k
              exact ⟨(0 : Int32), (if_neg hc76_11).symm, go21⟩
          subst hv5
          obtain ⟨v6, hv6, go25⟩ : ∃ (v6 : Int32), v6 = (if (Fempty ((0 : Int64) + q0) ((0 : Int64) + q1)) = (if q0 = (0 : Int64) then (if q1 = (0 : Int64) then (1 : Int32) else (0 : Int32)) else (0 : Int32)) then (1 : Int32) else (0 : Int32)) ∧ Go p e below A0 (T10.setTop (mkF m 98 #[.val (.long q0), .second, .val (.long q1), .second, .val (.long q2), .second, .val (.long q3), .second, .val (.int p4), .val (.long v1), .second, .val (.long v2), .second, .val (.ref b3), .unset, .unset, .unset, .unset, .unset, .unset] [(.int v6)])) := by
            by_cases hc90_13 : (Fempty ((0 : Int64) + q0) ((0 : Int64) + q1)) = (if q0 = (0 : Int64) then (if q1 = (0 : Int64) then (1 : Int32) else (0 : Int32)) else (0 : Int32))
            · have go23 : Go p e below A0 (T10.setTop (mkF m 98 #[.val (.long q0), .second, .val (.long q1), .second, .val (.long q2), .second, .val (.long q3), .second, .val (.int p4), .val (.long v1), .second, .val (.long v2), .second, .val (.ref b3), .unset, .unset, .unset, .unset, .unset, .unset] [(.int (1 : Int32))])) := by
                intro t k
                refine go22 t ?_
                refine o_icmpN X10 hx hby at_90 93 rfl (teq hc90_13).2 ?_
                refine o_iconst X10 hx hby at_93 94 rfl (v := (1 : Int32)) rfl ?_
                refine o_goto X10 hx hby at_94 98 rfl ?_
                exact k
              exact ⟨(1 : Int32), (if_pos hc90_13).symm, go23⟩
            · have go24 : Go p e below A0 (T10.setTop (mkF m 98 #[.val (.long q0), .second, .val (.long q1), .second, .val (.long q2), .second, .val (.long q3), .second, .val (.int p4), .val (.long v1), .second, .val (.long v2), .second, .val (.ref b3), .unset, .unset, .unset, .unset, .unset, .unset] [(.int (0 : Int32))])) := by
                intro t k
                refine go22 t ?_
                refine o_icmpY X10 hx hby at_90 97 rfl (feq hc90_13).2 ?_
                refine o_iconst X10 hx hby at_97 98 rfl (v := (0 : Int32)) rfl ?_
                exact k
              exact ⟨(0 : Int32), (if_neg hc90_13).symm, go24⟩
          subst hv6
          exact ⟨T10, _, (if (Fempty ((0 : Int64) + q0) ((0 : Int64) + q1)) = (if q0 = (0 : Int64) then (if q1 = (0 : Int64) then (1 : Int32) else (0 : Int32)) else (0 : Int32)) then (1 : Int32) else (0 : Int32)), X10, N10, e10, (if_pos hc65_9).symm, go25⟩
        · have go26 : Go p e below A0 (T8.setTop (mkF m 98 #[.val (.long q0), .second, .val (.long q1), .second, .val (.long q2), .second, .val (.long q3), .second, .val (.int p4), .val (.long v1), .second, .val (.long v2), .second, .val (.ref b3), .unset, .unset, .unset, .unset, .unset, .unset] [(.int (0 : Int32))])) := by
            intro t k
            refine go15 t ?_
            refine o_ifY X8 hx hby at_65 97 rfl (feq (fun q => hc65_9 ((lw_eq ((0 : Int64) + q1) q1).mp q))).2 ?_
            refine o_iconst X8 hx hby at_97 98 rfl (v := (0 : Int32)) rfl ?_
            exact k
          exact ⟨T8, _, (0 : Int32), X8, N8, e8, (if_neg hc65_9).symm, go26⟩
      subst hv7
      exact ⟨T14, _, (if ((0 : Int64) + q1) = q1 then (if (Fempty ((0 : Int64) + q0) ((0 : Int64) + q1)) = (if q0 = (0 : Int64) then (if q1 = (0 : Int64) then (1 : Int32) else (0 : Int32)) else (0 : Int32)) then (1 : Int32) else (0 : Int32)) else (0 : Int32)), X14, N14, e14, (if_pos hc55_7).symm, go27⟩
    · have go28 : Go p e below A0 (T6.setTop (mkF m 98 #[.val (.long q0), .second, .val (.long q1), .second, .val (.long q2), .second, .val (.long q3), .second, .val (.int p4), .val (.long v1), .second, .val (.long v2), .second, .val (.ref b3), .unset, .unset, .unset, .unset, .unset, .unset] [(.int (0 : Int32))])) := by
        intro t k
        refine go14 t ?_
        refine o_ifY X6 hx hby at_55 97 rfl (feq (fun q => hc55_7 ((lw_eq v3 q0).mp q))).2 ?_
        refine o_iconst X6 hx hby at_97 98 rfl (v := (0 : Int32)) rfl ?_
        exact k
      exact ⟨T6, _, (0 : Int32), X6, N6, e6, (if_neg hc55_7).symm, go28⟩
  have go30 : Go p e below A0 (T15.setTop (mkF m 100 #[.val (.long q0), .second, .val (.long q1), .second, .val (.long q2), .second, .val (.long q3), .second, .val (.int p4), .val (.long v1), .second, .val (.long v2), .second, .val (.ref b3), .val (.int v8), .unset, .unset, .unset, .unset, .unset] [])) := by
    intro t k
    refine go29 t ?_
    refine o_istore X15 hx hby at_98 100 rfl (l' := #[.val (.long q0), .second, .val (.long q1), .second, .val (.long q2), .second, .val (.long q3), .second, .val (.int p4), .val (.long v1), .second, .val (.long v2), .second, .val (.ref b3), .val (.int v8), .unset, .unset, .unset, .unset, .unset]) rfl ?_
    exact k
  have go31 : Go p e below A0 (T15.setTop (mkF m 106 #[.val (.long q0), .second, .val (.long q1), .second, .val (.long q2), .second, .val (.long q3), .second, .val (.int p4), .val (.long v1), .second, .val (.long v2), .second, .val (.ref b3), .val (.int v8), .unset, .unset, .unset, .unset, .unset] [(.long v2), (.long v1), (.ref b3)])) := by
    intro t k
    refine go30 t ?_
    refine o_aload X15 hx hby at_100 102 rfl rfl rfl ?_
    refine o_lload X15 hx hby at_102 104 rfl rfl ?_
    refine o_lload X15 hx hby at_104 106 rfl rfl ?_
    exact k
  obtain ⟨cq16, kq16, q16a, q16b, q16c⟩ := isOf hZ e15 f16
  obtain ⟨_, _, ⟨T16, L16, k16, n16⟩, -, X16, ⟨Lc16, hQ16, l16, y16, z16⟩, st16⟩ := X15.virtualBack hx (y := (⟨"com/example/eager_courier/eagercourier/connection/OutboundQueue", "count", "(JJ)V"⟩ : MethodName)) (z := (⟨"com/example/eager_courier/eagercourier/connection/OutboundQueue", "count", "(JJ)V"⟩ : MethodName)) hown (mvT hZ (hw _ (List.mem_of_getElem? (i := 29) rfl))) (mvT hZ (hw _ (List.mem_of_getElem? (i := 30) rfl))) (notFace_of_selects (args := #[]) (mvT hZ (hw _ (List.mem_of_getElem? (i := 32) rfl)))) (mvT hZ (hw _ (List.mem_of_getElem? (i := 32) rfl))) (mvT hZ (hw _ (List.mem_of_getElem? (i := 31) rfl))) (by decide) (backOf (W := 0) (rm5 l Z aw hw [] b3 v1 v2 (((0 : Int64) + q0)) (((0 : Int64) + q1)) b4_bq T5.heap n0 Zp5 (f16) (g_b3) (f20) (f21) (f22) (f23) (f24)) hZ (hw _ (List.mem_of_getElem? (i := 33) rfl)) (hw _ (List.mem_of_getElem? (i := 2) rfl)) (by decide) (by decide)) q16a q16c (g := (mkF m 106 #[.val (.long q0), .second, .val (.long q1), .second, .val (.long q2), .second, .val (.long q3), .second, .val (.int p4), .val (.long v1), .second, .val (.long v2), .second, .val (.ref b3), .val (.int v8), .unset, .unset, .unset, .unset, .unset] [(.long v2), (.long v1), (.ref b3)])) rfl (by rw [hml]; rfl) (Steps.refl _) (argsL := [(.long v1), (.long v2)]) (rest := []) (lenOf pd_7 rfl) rfl (by show 2 * 0 + _ ≤ _; exact Nat.le_of_eq rfl) (hb hby at_106) (fun _ _ => ⟨rfl, e15, (by decide : 3 + 0 ≤ _), (by decide : 13 + 0 ≤ _)⟩)
  dsimp only [Pt.U, Pt.locs, Pt.cells, Pt.slots] at X16 l16 y16 z16 st16 hQ16
  subst l16 y16 z16
  obtain ⟨rfl, N16q, K16q, qf16_0, qf16_1, qf16_2, qf16_3, qf16_4, -⟩ := hQ16
  have f25 : Exa Z T16.heap b3 "com/example/eager_courier/eagercourier/connection/OutboundQueue" := f16.keep K16q
  have f26 : Exa Z T16.heap b4_bq "java/util/ArrayDeque" := f17.keep K16q
  have f27 : Fld Z T16.heap b4_bq "java/util/ArrayDeque" "head" "I" (.int (0 : Int32)) := f18.keep K16q (ninS (Ne.symm ne_b3_b4_bq) nin0)
  have f28 : Fld Z T16.heap b4_bq "java/util/ArrayDeque" "tail" "I" (.int (0 : Int32)) := f19.keep K16q (ninS (Ne.symm ne_b3_b4_bq) nin0)
  have Zp16 : n0 ≤ T16.heap.size := Nat.le_trans Zp5 K16q.1
  have K16 : Keep h0 T16.heap [] := Keep.trans K5 K16q (allS (P := fun x => x ∈ ([] : List Addr) ∨ h0.size ≤ x) (Or.inr sz_b3) all0)
  have f29 : Fld Z T16.heap b3 "com/example/eager_courier/eagercourier/connection/OutboundQueue" "notTaken" "J" (.long (((0 : Int64) + q0) + v1)) := qf16_0
  have f30 : Fld Z T16.heap b3 "com/example/eager_courier/eagercourier/connection/OutboundQueue" "held" "J" (.long (((0 : Int64) + q1) + v2)) := qf16_1
  have f31 : Fld Z T16.heap b3 "com/example/eager_courier/eagercourier/connection/OutboundQueue" "lagging" "Z" (.int (0 : Int32)) := qf16_2
  have f32 : Fld Z T16.heap b3 "com/example/eager_courier/eagercourier/connection/OutboundQueue" "socketFull" "Z" (.int (0 : Int32)) := qf16_3
  have f33 : Fld Z T16.heap b3 "com/example/eager_courier/eagercourier/connection/OutboundQueue" "packets" "Ljava/util/ArrayDeque;" (.ref b4_bq) := qf16_4
  have N16 := Fr.app N15 N16q
  have go32 : Go p e below A0 (T16.setTop (mkF m 115 #[.val (.long q0), .second, .val (.long q1), .second, .val (.long q2), .second, .val (.long q3), .second, .val (.int p4), .val (.long v1), .second, .val (.long v2), .second, .val (.ref b3), .val (.int v8), .val (.long (q0 + v1)), .second, .unset, .unset, .unset] [])) := by
    intro t k
    refine go31 t ?_
    refine st16.trans ?_
    show Steps p.tables e below (T16.setTop (mkF m 109 #[.val (.long q0), .second, .val (.long q1), .second, .val (.long q2), .second, .val (.long q3), .second, .val (.int p4), .val (.long v1), .second, .val (.long v2), .second, .val (.ref b3), .val (.int v8), .unset, .unset, .unset, .unset, .unset] [])) _
    refine o_lloadN X16 hx hby at_109 110 rfl rfl ?_
    refine o_lload X16 hx hby at_110 112 rfl rfl ?_
    refine o_ladd X16 hx hby at_112 113 rfl ?_
    refine o_lstore X16 hx hby at_113 115 rfl (l' := #[.val (.long q0), .second, .val (.long q1), .second, .val (.long q2), .second, .val (.long q3), .second, .val (.int p4), .val (.long v1), .second, .val (.long v2), .second, .val (.ref b3), .val (.int v8), .val (.long (q0 + v1)), .second, .unset, .unset, .unset]) rfl ?_
    exact k
  obtain ⟨v9, hv9, go33⟩ : ∃ v9 : Int64, v9 = (q0 + v1) ∧ Go p e below A0 (T16.setTop (mkF m 115 #[.val (.long q0), .second, .val (.long q1), .second, .val (.long q2), .second, .val (.long q3), .second, .val (.int p4), .val (.long v1), .second, .val (.long v2), .second, .val (.ref b3), .val (.int v8), .val (.long v9), .second, .unset, .unset, .unset] [])) := ⟨_, rfl, go32⟩
  have go34 : Go p e below A0 (T16.setTop (mkF m 121 #[.val (.long q0), .second, .val (.long q1), .second, .val (.long q2), .second, .val (.long q3), .second, .val (.int p4), .val (.long v1), .second, .val (.long v2), .second, .val (.ref b3), .val (.int v8), .val (.long v9), .second, .val (.long (q1 + v2)), .second, .unset] [])) := by
    intro t k
    refine go33 t ?_
    refine o_lloadN X16 hx hby at_115 116 rfl rfl ?_
    refine o_lload X16 hx hby at_116 118 rfl rfl ?_
    refine o_ladd X16 hx hby at_118 119 rfl ?_
    refine o_lstore X16 hx hby at_119 121 rfl (l' := #[.val (.long q0), .second, .val (.long q1), .second, .val (.long q2), .second, .val (.long q3), .second, .val (.int p4), .val (.long v1), .second, .val (.long v2), .second, .val (.ref b3), .val (.int v8), .val (.long v9), .second, .val (.long (q1 + v2)), .second, .unset]) rfl ?_
    exact k
  obtain ⟨v10, hv10, go35⟩ : ∃ v10 : Int64, v10 = (q1 + v2) ∧ Go p e below A0 (T16.setTop (mkF m 121 #[.val (.long q0), .second, .val (.long q1), .second, .val (.long q2), .second, .val (.long q3), .second, .val (.int p4), .val (.long v1), .second, .val (.long v2), .second, .val (.ref b3), .val (.int v8), .val (.long v9), .second, .val (.long v10), .second, .unset] [])) := ⟨_, rfl, go34⟩
  obtain ⟨cq17, kq17, q17a, q17b, q17c⟩ := isOf hZ rfl f25
  obtain ⟨_, _, ⟨T17, L17, k17, n17⟩, -, X17, ⟨Lc17, hQ17, l17, y17, z17⟩, st17⟩ := X16.virtualBack hx (y := (⟨"com/example/eager_courier/eagercourier/connection/OutboundQueue", "getNotTaken", "()J"⟩ : MethodName)) (z := (⟨"com/example/eager_courier/eagercourier/connection/OutboundQueue", "getNotTaken", "()J"⟩ : MethodName)) hown (mvT hZ (hw _ (List.mem_of_getElem? (i := 38) rfl))) (mvT hZ (hw _ (List.mem_of_getElem? (i := 39) rfl))) (notFace_of_selects (args := #[]) (mvT hZ (hw _ (List.mem_of_getElem? (i := 41) rfl)))) (mvT hZ (hw _ (List.mem_of_getElem? (i := 41) rfl))) (mvT hZ (hw _ (List.mem_of_getElem? (i := 40) rfl))) (by decide) (backOf (W := 0) (rm6 l Z aw hw [] b3 ((((0 : Int64) + q0) + v1)) T16.heap n0 Zp16 (f29)) hZ (hw _ (List.mem_of_getElem? (i := 42) rfl)) (hw _ (List.mem_of_getElem? (i := 2) rfl)) (by decide) (by decide)) q17a q17c (g := (mkF m 123 #[.val (.long q0), .second, .val (.long q1), .second, .val (.long q2), .second, .val (.long q3), .second, .val (.int p4), .val (.long v1), .second, .val (.long v2), .second, .val (.ref b3), .val (.int v8), .val (.long v9), .second, .val (.long v10), .second, .unset] [(.ref b3)])) rfl (by rw [hml]; rfl) (Steps.refl _) (argsL := []) (rest := []) (lenOf pd_8 rfl) rfl (by show 2 * 0 + _ ≤ _; exact Nat.le_of_eq rfl) (hb hby at_123) (fun _ _ => ⟨rfl, rfl, (by decide : 3 + 0 ≤ _), (by decide : 13 + 0 ≤ _)⟩)
  dsimp only [Pt.U, Pt.locs, Pt.cells, Pt.slots] at X17 l17 y17 z17 st17 hQ17
  subst l17 y17 z17
  obtain ⟨rfl, N17q, e17⟩ := hQ17
  have N17 := Fr.app N16 N17q
  have go36 : Go p e below A0 (T17.setTop (mkF m 126 #[.val (.long q0), .second, .val (.long q1), .second, .val (.long q2), .second, .val (.long q3), .second, .val (.int p4), .val (.long v1), .second, .val (.long v2), .second, .val (.ref b3), .val (.int v8), .val (.long v9), .second, .val (.long v10), .second, .unset] [(.long (((0 : Int64) + q0) + v1))])) := by
    intro t k
    refine go35 t ?_
    refine o_aload X16 hx hby at_121 123 rfl rfl rfl ?_
    refine st17.trans ?_
    show Steps p.tables e below (T17.setTop (mkF m 126 #[.val (.long q0), .second, .val (.long q1), .second, .val (.long q2), .second, .val (.long q3), .second, .val (.int p4), .val (.long v1), .second, .val (.long v2), .second, .val (.ref b3), .val (.int v8), .val (.long v9), .second, .val (.long v10), .second, .unset] [(.long (((0 : Int64) + q0) + v1))])) _
    exact k
  obtain ⟨v11, hv11, go37⟩ : ∃ v11 : Int64, v11 = (((0 : Int64) + q0) + v1) ∧ Go p e below A0 (T17.setTop (mkF m 126 #[.val (.long q0), .second, .val (.long q1), .second, .val (.long q2), .second, .val (.long q3), .second, .val (.int p4), .val (.long v1), .second, .val (.long v2), .second, .val (.ref b3), .val (.int v8), .val (.long v9), .second, .val (.long v10), .second, .unset] [(.long v11)])) := ⟨_, rfl, go36⟩
  have go38 : Go p e below A0 (T17.setTop (mkF m 129 #[.val (.long q0), .second, .val (.long q1), .second, .val (.long q2), .second, .val (.long q3), .second, .val (.int p4), .val (.long v1), .second, .val (.long v2), .second, .val (.ref b3), .val (.int v8), .val (.long v9), .second, .val (.long v10), .second, .unset] [(.int (lcmpW v11 v9))])) := by
    intro t k
    refine go37 t ?_
    refine o_lload X17 hx hby at_126 128 rfl rfl ?_
    refine o_lcmp X17 hx hby at_128 129 rfl ?_
    exact k
  obtain ⟨T30, l30, v16, X30, N30, e30, hv16, go53⟩ : ∃ (T30 : State) (l30 : List Loc) (v16 : Int32), Stand p l e room_1 s m #[(.long q0), (.long q1), (.long q2), (.long q3), (.int p4)] below meth c T30 l30 3 13 ∧ Fr n0 l30 ∧ T30.heap = T16.heap ∧ v16 = (if v11 = v9 then (if (((0 : Int64) + q1) + v2) = v10 then (if (Fempty (((0 : Int64) + q0) + v1) (((0 : Int64) + q1) + v2)) = (if v9 = (0 : Int64) then (if v10 = (0 : Int64) then (1 : Int32) else (0 : Int32)) else (0 : Int32)) then (1 : Int32) else (0 : Int32)) else (0 : Int32)) else (0 : Int32)) ∧ Go p e below A0 (T30.setTop (mkF m 199 #[.val (.long q0), .second, .val (.long q1), .second, .val (.long q2), .second, .val (.long q3), .second, .val (.int p4), .val (.long v1), .second, .val (.long v2), .second, .val (.ref b3), .val (.int v8), .val (.long v9), .second, .val (.long v10), .second, .unset] [(.int v16)])) := by
    by_cases hc129_18 : v11 = v9
    · obtain ⟨cq19, kq19, q19a, q19b, q19c⟩ := isOf hZ e17 f25
      obtain ⟨_, _, ⟨T19, L19, k19, n19⟩, -, X19, ⟨Lc19, hQ19, l19, y19, z19⟩, st19⟩ := X17.virtualBack hx (y := (⟨"com/example/eager_courier/eagercourier/connection/OutboundQueue", "getHeld", "()J"⟩ : MethodName)) (z := (⟨"com/example/eager_courier/eagercourier/connection/OutboundQueue", "getHeld", "()J"⟩ : MethodName)) hown (mvT hZ (hw _ (List.mem_of_getElem? (i := 43) rfl))) (mvT hZ (hw _ (List.mem_of_getElem? (i := 44) rfl))) (notFace_of_selects (args := #[]) (mvT hZ (hw _ (List.mem_of_getElem? (i := 46) rfl)))) (mvT hZ (hw _ (List.mem_of_getElem? (i := 46) rfl))) (mvT hZ (hw _ (List.mem_of_getElem? (i := 45) rfl))) (by decide) (backOf (W := 0) (rm7 l Z aw hw [] b3 ((((0 : Int64) + q1) + v2)) T16.heap n0 Zp16 (f30)) hZ (hw _ (List.mem_of_getElem? (i := 47) rfl)) (hw _ (List.mem_of_getElem? (i := 2) rfl)) (by decide) (by decide)) q19a q19c (g := (mkF m 134 #[.val (.long q0), .second, .val (.long q1), .second, .val (.long q2), .second, .val (.long q3), .second, .val (.int p4), .val (.long v1), .second, .val (.long v2), .second, .val (.ref b3), .val (.int v8), .val (.long v9), .second, .val (.long v10), .second, .unset] [(.ref b3)])) rfl (by rw [hml]; rfl) (Steps.refl _) (argsL := []) (rest := []) (lenOf pd_8 rfl) rfl (by show 2 * 0 + _ ≤ _; exact Nat.le_of_eq rfl) (hb hby at_134) (fun _ _ => ⟨rfl, e17, (by decide : 3 + 0 ≤ _), (by decide : 13 + 0 ≤ _)⟩)
      dsimp only [Pt.U, Pt.locs, Pt.cells, Pt.slots] at X19 l19 y19 z19 st19 hQ19
      subst l19 y19 z19
      obtain ⟨rfl, N19q, e19⟩ := hQ19
      have N19 := Fr.app N17 N19q
      have go39 : Go p e below A0 (T19.setTop (mkF m 140 #[.val (.long q0), .second, .val (.long q1), .second, .val (.long q2), .second, .val (.long q3), .second, .val (.int p4), .val (.long v1), .second, .val (.long v2), .second, .val (.ref b3), .val (.int v8), .val (.long v9), .second, .val (.long v10), .second, .unset] [(.int (lcmpW (((0 : Int64) + q1) + v2) v10))])) := by
        intro t k
        refine go38 t ?_
        refine o_ifN X17 hx hby at_129 132 rfl (teq ((lw_eq v11 v9).mpr hc129_18)).2 ?_
        refine o_aload X17 hx hby at_132 134 rfl rfl rfl ?_
        refine st19.trans ?_
        show Steps p.tables e below (T19.setTop (mkF m 137 #[.val (.long q0), .second, .val (.long q1), .second, .val (.long q2), .second, .val (.long q3), .second, .val (.int p4), .val (.long v1), .second, .val (.long v2), .second, .val (.ref b3), .val (.int v8), .val (.long v9), .second, .val (.long v10), .second, .unset] [(.long (((0 : Int64) + q1) + v2))])) _
        refine o_lload X19 hx hby at_137 139 rfl rfl ?_
        refine o_lcmp X19 hx hby at_139 140 rfl ?_
        exact k
      obtain ⟨T29, l29, v15, X29, N29, e29, hv15, go51⟩ : ∃ (T29 : State) (l29 : List Loc) (v15 : Int32), Stand p l e room_1 s m #[(.long q0), (.long q1), (.long q2), (.long q3), (.int p4)] below meth c T29 l29 3 13 ∧ Fr n0 l29 ∧ T29.heap = T16.heap ∧ v15 = (if (((0 : Int64) + q1) + v2) = v10 then (if (Fempty (((0 : Int64) + q0) + v1) (((0 : Int64) + q1) + v2)) = (if v9 = (0 : Int64) then (if v10 = (0 : Int64) then (1 : Int32) else (0 : Int32)) else (0 : Int32)) then (1 : Int32) else (0 : Int32)) else (0 : Int32)) ∧ Go p e below A0 (T29.setTop (mkF m 199 #[.val (.long q0), .second, .val (.long q1), .second, .val (.long q2), .second, .val (.long q3), .second, .val (.int p4), .val (.long v1), .second, .val (.long v2), .second, .val (.ref b3), .val (.int v8), .val (.long v9), .second, .val (.long v10), .second, .unset] [(.int v15)])) := by
        by_cases hc140_20 : (((0 : Int64) + q1) + v2) = v10
        · obtain ⟨cq21, kq21, q21a, q21b, q21c⟩ := isOf hZ e19 f25
          obtain ⟨_, _, ⟨T21, L21, k21, n21⟩, -, X21, ⟨Lc21, hQ21, l21, y21, z21⟩, st21⟩ := X19.virtualBack hx (y := (⟨"com/example/eager_courier/eagercourier/connection/OutboundQueue", "isEmpty", "()Z"⟩ : MethodName)) (z := (⟨"com/example/eager_courier/eagercourier/connection/OutboundQueue", "isEmpty", "()Z"⟩ : MethodName)) hown (mvT hZ (hw _ (List.mem_of_getElem? (i := 48) rfl))) (mvT hZ (hw _ (List.mem_of_getElem? (i := 49) rfl))) (notFace_of_selects (args := #[]) (mvT hZ (hw _ (List.mem_of_getElem? (i := 51) rfl)))) (mvT hZ (hw _ (List.mem_of_getElem? (i := 51) rfl))) (mvT hZ (hw _ (List.mem_of_getElem? (i := 50) rfl))) (by decide) (backOf (W := 0) (rm8 l Z aw hw [] b3 ((((0 : Int64) + q0) + v1)) ((((0 : Int64) + q1) + v2)) b4_bq T16.heap n0 Zp16 (f33) (f26) (f27) (f28) (f29) (f30)) hZ (hw _ (List.mem_of_getElem? (i := 52) rfl)) (hw _ (List.mem_of_getElem? (i := 2) rfl)) (by decide) (by decide)) q21a q21c (g := (mkF m 145 #[.val (.long q0), .second, .val (.long q1), .second, .val (.long q2), .second, .val (.long q3), .second, .val (.int p4), .val (.long v1), .second, .val (.long v2), .second, .val (.ref b3), .val (.int v8), .val (.long v9), .second, .val (.long v10), .second, .unset] [(.ref b3)])) rfl (by rw [hml]; rfl) (Steps.refl _) (argsL := []) (rest := []) (lenOf pd_5 rfl) rfl (by show 2 * 0 + _ ≤ _; exact Nat.le_of_eq rfl) (hb hby at_145) (fun _ _ => ⟨rfl, e19, (by decide : 3 + 0 ≤ _), (by decide : 13 + 0 ≤ _)⟩)
          dsimp only [Pt.U, Pt.locs, Pt.cells, Pt.slots] at X21 l21 y21 z21 st21 hQ21
          subst l21 y21 z21
          obtain ⟨rfl, N21q, e21⟩ := hQ21
          have N21 := Fr.app N19 N21q
          have go40 : Go p e below A0 (T21.setTop (mkF m 152 #[.val (.long q0), .second, .val (.long q1), .second, .val (.long q2), .second, .val (.long q3), .second, .val (.int p4), .val (.long v1), .second, .val (.long v2), .second, .val (.ref b3), .val (.int v8), .val (.long v9), .second, .val (.long v10), .second, .unset] [(.int (lcmpW v9 (0 : Int64))), (.int (Fempty (((0 : Int64) + q0) + v1) (((0 : Int64) + q1) + v2)))])) := by
            intro t k
            refine go39 t ?_
            refine o_ifN X19 hx hby at_140 143 rfl (teq ((lw_eq (((0 : Int64) + q1) + v2) v10).mpr hc140_20)).2 ?_
            refine o_aload X19 hx hby at_143 145 rfl rfl rfl ?_
            refine st21.trans ?_
            show Steps p.tables e below (T21.setTop (mkF m 148 #[.val (.long q0), .second, .val (.long q1), .second, .val (.long q2), .second, .val (.long q3), .second, .val (.int p4), .val (.long v1), .second, .val (.long v2), .second, .val (.ref b3), .val (.int v8), .val (.long v9), .second, .val (.long v10), .second, .unset] [(.int (Fempty (((0 : Int64) + q0) + v1) (((0 : Int64) + q1) + v2)))])) _
            refine o_lload X21 hx hby at_148 150 rfl rfl ?_
            refine o_lconst X21 hx hby at_150 151 rfl (v := (0 : Int64)) rfl ?_
            refine o_lcmp X21 hx hby at_151 152 rfl ?_
            exact k
          obtain ⟨v13, hv13, go46⟩ : ∃ (v13 : Int32), v13 = (if v9 = (0 : Int64) then (if v10 = (0 : Int64) then (1 : Int32) else (0 : Int32)) else (0 : Int32)) ∧ Go p e below A0 (T21.setTop (mkF m 167 #[.val (.long q0), .second, .val (.long q1), .second, .val (.long q2), .second, .val (.long q3), .second, .val (.int p4), .val (.long v1), .second, .val (.long v2), .second, .val (.ref b3), .val (.int v8), .val (.long v9), .second, .val (.long v10), .second, .unset] [(.int v13), (.int (Fempty (((0 : Int64) + q0) + v1) (((0 : Int64) + q1) + v2)))])) := by
            by_cases hc152_22 : v9 = (0 : Int64)
            · have go41 : Go p e below A0 (T21.setTop (mkF m 159 #[.val (.long q0), .second, .val (.long q1), .second, .val (.long q2), .second, .val (.long q3), .second, .val (.int p4), .val (.long v1), .second, .val (.long v2), .second, .val (.ref b3), .val (.int v8), .val (.long v9), .second, .val (.long v10), .second, .unset] [(.int (lcmpW v10 (0 : Int64))), (.int (Fempty (((0 : Int64) + q0) + v1) (((0 : Int64) + q1) + v2)))])) := by
                intro t k
                refine go40 t ?_
                refine o_ifN X21 hx hby at_152 155 rfl (teq ((lw_eq v9 (0 : Int64)).mpr hc152_22)).2 ?_
                refine o_lload X21 hx hby at_155 157 rfl rfl ?_
                refine o_lconst X21 hx hby at_157 158 rfl (v := (0 : Int64)) rfl ?_
                refine o_lcmp X21 hx hby at_158 159 rfl ?_
                exact k
              obtain ⟨v12, hv12, go44⟩ : ∃ (v12 : Int32), v12 = (if v10 = (0 : Int64) then (1 : Int32) else (0 : Int32)) ∧ Go p e below A0 (T21.setTop (mkF m 167 #[.val (.long q0), .second, .val (.long q1), .second, .val (.long q2), .second, .val (.long q3), .second, .val (.int p4), .val (.long v1), .second, .val (.long v2), .second, .val (.ref b3), .val (.int v8), .val (.long v9), .second, .val (.long v10), .second, .unset] [(.int v12), (.int (Fempty (((0 : Int64) + q0) + v1) (((0 : Int64) + q1) + v2)))])) := by
                by_cases hc159_23 : v10 = (0 : Int64)
                · have go42 : Go p e below A0 (T21.setTop (mkF m 167 #[.val (.long q0), .second, .val (.long q1), .second, .val (.long q2), .second, .val (.long q3), .second, .val (.int p4), .val (.long v1), .second, .val (.long v2), .second, .val (.ref b3), .val (.int v8), .val (.long v9), .second, .val (.long v10), .second, .unset] [(.int (1 : Int32)), (.int (Fempty (((0 : Int64) + q0) + v1) (((0 : Int64) + q1) + v2)))])) := by
                    intro t k
                    refine go41 t ?_
                    refine o_ifN X21 hx hby at_159 162 rfl (teq ((lw_eq v10 (0 : Int64)).mpr hc159_23)).2 ?_
                    refine o_iconst X21 hx hby at_162 163 rfl (v := (1 : Int32)) rfl ?_
                    refine o_goto X21 hx hby at_163 167 rfl ?_
                    exact k
                  exact ⟨(1 : Int32), (if_pos hc159_23).symm, go42⟩
                · have go43 : Go p e below A0 (T21.setTop (mkF m 167 #[.val (.long q0), .second, .val (.long q1), .second, .val (.long q2), .second, .val (.long q3), .second, .val (.int p4), .val (.long v1), .second, .val (.long v2), .second, .val (.ref b3), .val (.int v8), .val (.long v9), .second, .val (.long v10), .second, .unset] [(.int (0 : Int32)), (.int (Fempty (((0 : Int64) + q0) + v1) (((0 : Int64) + q1) + v2)))])) := by
                    intro t k
                    refine go41 t ?_
                    refine o_ifY X21 hx hby at_159 166 rfl (feq (fun q => hc159_23 ((lw_eq v10 (0 : Int64)).mp q))).2 ?_
                    refine o_iconst X21 hx hby at_166 167 rfl (v := (0 : Int32)) rfl ?_
                    exact k
                  exact ⟨(0 : Int32), (if_neg hc159_23).symm, go43⟩
              subst hv12
              exact ⟨(if v10 = (0 : Int64) then (1 : Int32) else (0 : Int32)), (if_pos hc152_22).symm, go44⟩
            · have go45 : Go p e below A0 (T21.setTop (mkF m 167 #[.val (.long q0), .second, .val (.long q1), .second, .val (.long q2), .second, .val (.long q3), .second, .val (.int p4), .val (.long v1), .second, .val (.long v2), .second, .val (.ref b3), .val (.int v8), .val (.long v9), .second, .val (.long v10), .second, .unset] [(.int (0 : Int32)), (.int (Fempty (((0 : Int64) + q0) + v1) (((0 : Int64) + q1) + v2)))])) := by
                intro t k
                refine go40 t ?_
                refine o_ifY X21 hx hby at_152 166 rfl (feq (fun q => hc152_22 ((lw_eq v9 (0 : Int64)).mp q))).2 ?_
                refine o_iconst X21 hx hby at_166 167 rfl (v := (0 : Int32)) rfl ?_
                exact k
              exact ⟨(0 : Int32), (if_neg hc152_22).symm, go45⟩
          subst hv13
          obtain ⟨T28, l28, v14, X28, N28, e28, hv14, go49⟩ : ∃ (T28 : State) (l28 : List Loc) (v14 : Int32), Stand p l e room_1 s m #[(.long q0), (.long q1), (.long q2), (.long q3), (.int p4)] below meth c T28 l28 3 13 ∧ Fr n0 l28 ∧ T28.heap = T16.heap ∧ v14 = (if (Fempty (((0 : Int64) + q0) + v1) (((0 : Int64) + q1) + v2)) = (if v9 = (0 : Int64) then (if v10 = (0 : Int64) then (1 : Int32) else (0 : Int32)) else (0 : Int32)) then (1 : Int32) else (0 : Int32)) ∧ Go p e below A0 (T28.setTop (mkF m 199 #[.val (.long q0), .second, .val (.long q1), .second, .val (.long q2), .second, .val (.long q3), .second, .val (.int p4), .val (.long v1), .second, .val (.long v2), .second, .val (.ref b3), .val (.int v8), .val (.long v9), .second, .val (.long v10), .second, .unset] [(.int v14)])) := by
            by_cases hc167_24 : (Fempty (((0 : Int64) + q0) + v1) (((0 : Int64) + q1) + v2)) = (if v9 = (0 : Int64) then (if v10 = (0 : Int64) then (1 : Int32) else (0 : Int32)) else (0 : Int32))
            · obtain ⟨cq25, kq25, q25a, q25b, q25c⟩ := isOf hZ e21 f25
              obtain ⟨_, _, ⟨T25, L25, k25, n25⟩, -, X25, ⟨Lc25, hQ25, l25, y25, z25⟩, st25⟩ := X21.virtualBack hx (y := (⟨"com/example/eager_courier/eagercourier/connection/OutboundQueue", "hasPackets", "()Z"⟩ : MethodName)) (z := (⟨"com/example/eager_courier/eagercourier/connection/OutboundQueue", "hasPackets", "()Z"⟩ : MethodName)) hown (mvT hZ (hw _ (List.mem_of_getElem? (i := 62) rfl))) (mvT hZ (hw _ (List.mem_of_getElem? (i := 63) rfl))) (notFace_of_selects (args := #[]) (mvT hZ (hw _ (List.mem_of_getElem? (i := 65) rfl)))) (mvT hZ (hw _ (List.mem_of_getElem? (i := 65) rfl))) (mvT hZ (hw _ (List.mem_of_getElem? (i := 64) rfl))) (by decide) (backOf (W := 0) (rm10 l Z aw hw [] b3 b4_bq T16.heap n0 Zp16 (f33) (f26) (f27) (f28)) hZ (hw _ (List.mem_of_getElem? (i := 66) rfl)) (hw _ (List.mem_of_getElem? (i := 2) rfl)) (by decide) (by decide)) q25a q25c (g := (mkF m 172 #[.val (.long q0), .second, .val (.long q1), .second, .val (.long q2), .second, .val (.long q3), .second, .val (.int p4), .val (.long v1), .second, .val (.long v2), .second, .val (.ref b3), .val (.int v8), .val (.long v9), .second, .val (.long v10), .second, .unset] [(.ref b3)])) rfl (by rw [hml]; rfl) (Steps.refl _) (argsL := []) (rest := []) (lenOf pd_5 rfl) rfl (by show 2 * 0 + _ ≤ _; exact Nat.le_of_eq rfl) (hb hby at_172) (fun _ _ => ⟨rfl, e21, (by decide : 3 + 0 ≤ _), (by decide : 13 + 0 ≤ _)⟩)
              dsimp only [Pt.U, Pt.locs, Pt.cells, Pt.slots] at X25 l25 y25 z25 st25 hQ25
              subst l25 y25 z25
              obtain ⟨rfl, N25q, e25⟩ := hQ25
              have N25 := Fr.app N21 N25q
              obtain ⟨cq26, kq26, q26a, q26b, q26c⟩ := isOf hZ e25 f25
              obtain ⟨_, _, ⟨T26, L26, k26, n26⟩, -, X26, ⟨Lc26, hQ26, l26, y26, z26⟩, st26⟩ := X25.virtualBack hx (y := (⟨"com/example/eager_courier/eagercourier/connection/OutboundQueue", "isLagging", "()Z"⟩ : MethodName)) (z := (⟨"com/example/eager_courier/eagercourier/connection/OutboundQueue", "isLagging", "()Z"⟩ : MethodName)) hown (mvT hZ (hw _ (List.mem_of_getElem? (i := 67) rfl))) (mvT hZ (hw _ (List.mem_of_getElem? (i := 68) rfl))) (notFace_of_selects (args := #[]) (mvT hZ (hw _ (List.mem_of_getElem? (i := 70) rfl)))) (mvT hZ (hw _ (List.mem_of_getElem? (i := 70) rfl))) (mvT hZ (hw _ (List.mem_of_getElem? (i := 69) rfl))) (by decide) (backOf (W := 0) (rm11 l Z aw hw [] b3 T16.heap n0 Zp16 (f31)) hZ (hw _ (List.mem_of_getElem? (i := 71) rfl)) (hw _ (List.mem_of_getElem? (i := 2) rfl)) (by decide) (by decide)) q26a q26c (g := (mkF m 180 #[.val (.long q0), .second, .val (.long q1), .second, .val (.long q2), .second, .val (.long q3), .second, .val (.int p4), .val (.long v1), .second, .val (.long v2), .second, .val (.ref b3), .val (.int v8), .val (.long v9), .second, .val (.long v10), .second, .unset] [(.ref b3)])) rfl (by rw [hml]; rfl) (Steps.refl _) (argsL := []) (rest := []) (lenOf pd_5 rfl) rfl (by show 2 * 0 + _ ≤ _; exact Nat.le_of_eq rfl) (hb hby at_180) (fun _ _ => ⟨rfl, e25, (by decide : 3 + 0 ≤ _), (by decide : 13 + 0 ≤ _)⟩)
              dsimp only [Pt.U, Pt.locs, Pt.cells, Pt.slots] at X26 l26 y26 z26 st26 hQ26
              subst l26 y26 z26
              obtain ⟨rfl, N26q, e26⟩ := hQ26
              have N26 := Fr.app N25 N26q
              obtain ⟨cq27, kq27, q27a, q27b, q27c⟩ := isOf hZ e26 f25
              obtain ⟨_, _, ⟨T27, L27, k27, n27⟩, -, X27, ⟨Lc27, hQ27, l27, y27, z27⟩, st27⟩ := X26.virtualBack hx (y := (⟨"com/example/eager_courier/eagercourier/connection/OutboundQueue", "isSocketFull", "()Z"⟩ : MethodName)) (z := (⟨"com/example/eager_courier/eagercourier/connection/OutboundQueue", "isSocketFull", "()Z"⟩ : MethodName)) hown (mvT hZ (hw _ (List.mem_of_getElem? (i := 74) rfl))) (mvT hZ (hw _ (List.mem_of_getElem? (i := 75) rfl))) (notFace_of_selects (args := #[]) (mvT hZ (hw _ (List.mem_of_getElem? (i := 77) rfl)))) (mvT hZ (hw _ (List.mem_of_getElem? (i := 77) rfl))) (mvT hZ (hw _ (List.mem_of_getElem? (i := 76) rfl))) (by decide) (backOf (W := 0) (rm12 l Z aw hw [] b3 T16.heap n0 Zp16 (f32)) hZ (hw _ (List.mem_of_getElem? (i := 78) rfl)) (hw _ (List.mem_of_getElem? (i := 2) rfl)) (by decide) (by decide)) q27a q27c (g := (mkF m 188 #[.val (.long q0), .second, .val (.long q1), .second, .val (.long q2), .second, .val (.long q3), .second, .val (.int p4), .val (.long v1), .second, .val (.long v2), .second, .val (.ref b3), .val (.int v8), .val (.long v9), .second, .val (.long v10), .second, .unset] [(.ref b3)])) rfl (by rw [hml]; rfl) (Steps.refl _) (argsL := []) (rest := []) (lenOf pd_5 rfl) rfl (by show 2 * 0 + _ ≤ _; exact Nat.le_of_eq rfl) (hb hby at_188) (fun _ _ => ⟨rfl, e26, (by decide : 3 + 0 ≤ _), (by decide : 13 + 0 ≤ _)⟩)
              dsimp only [Pt.U, Pt.locs, Pt.cells, Pt.slots] at X27 l27 y27 z27 st27 hQ27
              subst l27 y27 z27
              obtain ⟨rfl, N27q, e27⟩ := hQ27
              have N27 := Fr.app N26 N27q
              have go47 : Go p e below A0 (T27.setTop (mkF m 199 #[.val (.long q0), .second, .val (.long q1), .second, .val (.long q2), .second, .val (.long q3), .second, .val (.int p4), .val (.long v1), .second, .val (.long v2), .second, .val (.ref b3), .val (.int v8), .val (.long v9), .second, .val (.long v10), .second, .unset] [(.int (1 : Int32))])) := by
                intro t k
                refine go46 t ?_
                refine o_icmpN X21 hx hby at_167 170 rfl (teq hc167_24).2 ?_
                refine o_aload X21 hx hby at_170 172 rfl rfl rfl ?_
                refine st25.trans ?_
                show Steps p.tables e below (T25.setTop (mkF m 175 #[.val (.long q0), .second, .val (.long q1), .second, .val (.long q2), .second, .val (.long q3), .second, .val (.int p4), .val (.long v1), .second, .val (.long v2), .second, .val (.ref b3), .val (.int v8), .val (.long v9), .second, .val (.long v10), .second, .unset] [(.int (0 : Int32))])) _
                refine o_ifN X25 hx hby at_175 178 rfl (teq (by decide)).2 ?_
                refine o_aload X25 hx hby at_178 180 rfl rfl rfl ?_
                refine st26.trans ?_
                show Steps p.tables e below (T26.setTop (mkF m 183 #[.val (.long q0), .second, .val (.long q1), .second, .val (.long q2), .second, .val (.long q3), .second, .val (.int p4), .val (.long v1), .second, .val (.long v2), .second, .val (.ref b3), .val (.int v8), .val (.long v9), .second, .val (.long v10), .second, .unset] [(.int (0 : Int32))])) _
                refine o_ifN X26 hx hby at_183 186 rfl (teq (by decide)).2 ?_
                refine o_aload X26 hx hby at_186 188 rfl rfl rfl ?_
                refine st27.trans ?_
                show Steps p.tables e below (T27.setTop (mkF m 191 #[.val (.long q0), .second, .val (.long q1), .second, .val (.long q2), .second, .val (.long q3), .second, .val (.int p4), .val (.long v1), .second, .val (.long v2), .second, .val (.ref b3), .val (.int v8), .val (.long v9), .second, .val (.long v10), .second, .unset] [(.int (0 : Int32))])) _
                refine o_ifN X27 hx hby at_191 194 rfl (teq (by decide)).2 ?_
                refine o_iconst X27 hx hby at_194 195 rfl (v := (1 : Int32)) rfl ?_
                refine o_goto X27 hx hby at_195 199 rfl ?_
                exact k
              exact ⟨T27, _, (1 : Int32), X27, N27, e27, (if_pos hc167_24).symm, go47⟩
            · have go48 : Go p e below A0 (T21.setTop (mkF m 199 #[.val (.long q0), .second, .val (.long q1), .second, .val (.long q2), .second, .val (.long q3), .second, .val (.int p4), .val (.long v1), .second, .val (.long v2), .second, .val (.ref b3), .val (.int v8), .val (.long v9), .second, .val (.long v10), .second, .unset] [(.int (0 : Int32))])) := by
                intro t k
                refine go46 t ?_
                refine o_icmpY X21 hx hby at_167 198 rfl (feq hc167_24).2 ?_
                refine o_iconst X21 hx hby at_198 199 rfl (v := (0 : Int32)) rfl ?_
                exact k
              exact ⟨T21, _, (0 : Int32), X21, N21, e21, (if_neg hc167_24).symm, go48⟩
          subst hv14
          exact ⟨T28, _, (if (Fempty (((0 : Int64) + q0) + v1) (((0 : Int64) + q1) + v2)) = (if v9 = (0 : Int64) then (if v10 = (0 : Int64) then (1 : Int32) else (0 : Int32)) else (0 : Int32)) then (1 : Int32) else (0 : Int32)), X28, N28, e28, (if_pos hc140_20).symm, go49⟩
        · have go50 : Go p e below A0 (T19.setTop (mkF m 199 #[.val (.long q0), .second, .val (.long q1), .second, .val (.long q2), .second, .val (.long q3), .second, .val (.int p4), .val (.long v1), .second, .val (.long v2), .second, .val (.ref b3), .val (.int v8), .val (.long v9), .second, .val (.long v10), .second, .unset] [(.int (0 : Int32))])) := by
            intro t k
            refine go39 t ?_
            refine o_ifY X19 hx hby at_140 198 rfl (feq (fun q => hc140_20 ((lw_eq (((0 : Int64) + q1) + v2) v10).mp q))).2 ?_
            refine o_iconst X19 hx hby at_198 199 rfl (v := (0 : Int32)) rfl ?_
            exact k
          exact ⟨T19, _, (0 : Int32), X19, N19, e19, (if_neg hc140_20).symm, go50⟩
      subst hv15
      exact ⟨T29, _, (if (((0 : Int64) + q1) + v2) = v10 then (if (Fempty (((0 : Int64) + q0) + v1) (((0 : Int64) + q1) + v2)) = (if v9 = (0 : Int64) then (if v10 = (0 : Int64) then (1 : Int32) else (0 : Int32)) else (0 : Int32)) then (1 : Int32) else (0 : Int32)) else (0 : Int32)), X29, N29, e29, (if_pos hc129_18).symm, go51⟩
    · have go52 : Go p e below A0 (T17.setTop (mkF m 199 #[.val (.long q0), .second, .val (.long q1), .second, .val (.long q2), .second, .val (.long q3), .second, .val (.int p4), .val (.long v1), .second, .val (.long v2), .second, .val (.ref b3), .val (.int v8), .val (.long v9), .second, .val (.long v10), .second, .unset] [(.int (0 : Int32))])) := by
        intro t k
        refine go38 t ?_
        refine o_ifY X17 hx hby at_129 198 rfl (feq (fun q => hc129_18 ((lw_eq v11 v9).mp q))).2 ?_
        refine o_iconst X17 hx hby at_198 199 rfl (v := (0 : Int32)) rfl ?_
        exact k
      exact ⟨T17, _, (0 : Int32), X17, N17, e17, (if_neg hc129_18).symm, go52⟩
  have go54 : Go p e below A0 (T30.setTop (mkF m 201 #[.val (.long q0), .second, .val (.long q1), .second, .val (.long q2), .second, .val (.long q3), .second, .val (.int p4), .val (.long v1), .second, .val (.long v2), .second, .val (.ref b3), .val (.int v8), .val (.long v9), .second, .val (.long v10), .second, .val (.int v16)] [])) := by
    intro t k
    refine go53 t ?_
    refine o_istore X30 hx hby at_199 201 rfl (l' := #[.val (.long q0), .second, .val (.long q1), .second, .val (.long q2), .second, .val (.long q3), .second, .val (.int p4), .val (.long v1), .second, .val (.long v2), .second, .val (.ref b3), .val (.int v8), .val (.long v9), .second, .val (.long v10), .second, .val (.int v16)]) rfl ?_
    exact k
  have go55 : Go p e below A0 (T30.setTop (mkF m 203 #[.val (.long q0), .second, .val (.long q1), .second, .val (.long q2), .second, .val (.long q3), .second, .val (.int p4), .val (.long v1), .second, .val (.long v2), .second, .val (.ref b3), .val (.int v8), .val (.long v9), .second, .val (.long v10), .second, .val (.int v16)] [(.int v8)])) := by
    intro t k
    refine go54 t ?_
    refine o_iload X30 hx hby at_201 203 rfl rfl ?_
    exact k
  obtain ⟨v18, hv18, go61⟩ : ∃ (v18 : Int32), v18 = (if v8 = (0 : Int32) then (0 : Int32) else (if v16 = (0 : Int32) then (0 : Int32) else (1 : Int32))) ∧ Go p e below A0 (T30.setTop (mkF m 216 #[.val (.long q0), .second, .val (.long q1), .second, .val (.long q2), .second, .val (.long q3), .second, .val (.int p4), .val (.long v1), .second, .val (.long v2), .second, .val (.ref b3), .val (.int v8), .val (.long v9), .second, .val (.long v10), .second, .val (.int v16)] [(.int v18)])) := by
    by_cases hc203_31 : v8 = (0 : Int32)
    · have go56 : Go p e below A0 (T30.setTop (mkF m 216 #[.val (.long q0), .second, .val (.long q1), .second, .val (.long q2), .second, .val (.long q3), .second, .val (.int p4), .val (.long v1), .second, .val (.long v2), .second, .val (.ref b3), .val (.int v8), .val (.long v9), .second, .val (.long v10), .second, .val (.int v16)] [(.int (0 : Int32))])) := by
        intro t k
        refine go55 t ?_
        refine o_ifY X30 hx hby at_203 215 rfl (teq hc203_31).1 ?_
        refine o_iconst X30 hx hby at_215 216 rfl (v := (0 : Int32)) rfl ?_
        exact k
      exact ⟨(0 : Int32), (if_pos hc203_31).symm, go56⟩
    · have go57 : Go p e below A0 (T30.setTop (mkF m 208 #[.val (.long q0), .second, .val (.long q1), .second, .val (.long q2), .second, .val (.long q3), .second, .val (.int p4), .val (.long v1), .second, .val (.long v2), .second, .val (.ref b3), .val (.int v8), .val (.long v9), .second, .val (.long v10), .second, .val (.int v16)] [(.int v16)])) := by
        intro t k
        refine go55 t ?_
        refine o_ifN X30 hx hby at_203 206 rfl (feq hc203_31).1 ?_
        refine o_iload X30 hx hby at_206 208 rfl rfl ?_
        exact k
      obtain ⟨v17, hv17, go60⟩ : ∃ (v17 : Int32), v17 = (if v16 = (0 : Int32) then (0 : Int32) else (1 : Int32)) ∧ Go p e below A0 (T30.setTop (mkF m 216 #[.val (.long q0), .second, .val (.long q1), .second, .val (.long q2), .second, .val (.long q3), .second, .val (.int p4), .val (.long v1), .second, .val (.long v2), .second, .val (.ref b3), .val (.int v8), .val (.long v9), .second, .val (.long v10), .second, .val (.int v16)] [(.int v17)])) := by
        by_cases hc208_32 : v16 = (0 : Int32)
        · have go58 : Go p e below A0 (T30.setTop (mkF m 216 #[.val (.long q0), .second, .val (.long q1), .second, .val (.long q2), .second, .val (.long q3), .second, .val (.int p4), .val (.long v1), .second, .val (.long v2), .second, .val (.ref b3), .val (.int v8), .val (.long v9), .second, .val (.long v10), .second, .val (.int v16)] [(.int (0 : Int32))])) := by
            intro t k
            refine go57 t ?_
            refine o_ifY X30 hx hby at_208 215 rfl (teq hc208_32).1 ?_
            refine o_iconst X30 hx hby at_215 216 rfl (v := (0 : Int32)) rfl ?_
            exact k
          exact ⟨(0 : Int32), (if_pos hc208_32).symm, go58⟩
        · have go59 : Go p e below A0 (T30.setTop (mkF m 216 #[.val (.long q0), .second, .val (.long q1), .second, .val (.long q2), .second, .val (.long q3), .second, .val (.int p4), .val (.long v1), .second, .val (.long v2), .second, .val (.ref b3), .val (.int v8), .val (.long v9), .second, .val (.long v10), .second, .val (.int v16)] [(.int (1 : Int32))])) := by
            intro t k
            refine go57 t ?_
            refine o_ifN X30 hx hby at_208 211 rfl (feq hc208_32).1 ?_
            refine o_iconst X30 hx hby at_211 212 rfl (v := (1 : Int32)) rfl ?_
            refine o_goto X30 hx hby at_212 216 rfl ?_
            exact k
          exact ⟨(1 : Int32), (if_neg hc208_32).symm, go59⟩
      subst hv17
      exact ⟨(if v16 = (0 : Int32) then (0 : Int32) else (1 : Int32)), (if_neg hc203_31).symm, go60⟩
  obtain rfl : v18 = (1 : Int32) := pl_0_0 q0 q1 q2 q3 p4 v1 v2 v3 v8 v9 v10 v11 v16 v18 hv1 hv2 hv3 hv8 hv9 hv10 hv11 hv16 hv18
  subst hA0
  obtain ⟨fs, hr, hrun, hended, hW, hsame⟩ := X30.leave (v := some (.int (1 : Int32))) (fun h => by rw [Bd.returns] at h; cases h)
  refine ⟨_, _, go61 _ (o_retZ X30 hx Bd.returns (hb hby at_216) (Or.inr rfl) hr), hrun, hended, _, _, rfl, ?_, ⟨_, rfl⟩, hW, hsame.mono (by decide) (by decide)⟩
  show Q0 Z q0 q1 q2 q3 p4 h0 n0 _ T30.heap _
  rw [e30]
  exact ⟨rfl, N30⟩
set_option maxRecDepth 65536 in
set_option maxHeartbeats 40000000 in
theorem comes_1 {Post : Tables → Env → Array Value → State → Outcome → State → Prop} (hpost : ∀ tb e args s v u, (limb_1_1.after args s (.returned v) u = true ∧ limb_1_2.after args s (.returned v) u = true ∧ True) → FrameEnd s (.returned v) u (Jvm.fieldLocs frame_1_writes args s ++ Jvm.arrayLocs frame_1_arrays args s ++ Jvm.staticLocs frame_1_statics s) 16 128 → Post tb e args s (.returned v) u) :
    ArmFor flags0 classFile x code maxLocals ret World_1 tables_1 room_1 Calls_1 rest_1 Pre_1 Post := by
  intro l hfl _ _ p e ha hc hk s m args below hf hA hF happ hP
  obtain ⟨hcalls, hrest, hpre⟩ := hP
  obtain ⟨-, -, -, hnamed, -, -, -, hat⟩ := (Spec.applies_iff hf).mp happ
  obtain ⟨hg, hn⟩ := and_e (Cond.before_iff.mp (show (Jvm.Cond.and given_1 narrow_1).before args s = true from hpre))
  obtain ⟨g1, g2⟩ := and_e hg
  obtain ⟨g3, g4⟩ := and_e g2
  obtain ⟨g5, g6⟩ := and_e g4
  obtain ⟨g7, g8⟩ := and_e g6
  obtain ⟨g9, g10⟩ := and_e g8
  obtain ⟨w0, w1, w2, w3, w4, rfl⟩ : ∃ w0 w1 w2 w3 w4 : Value, args = #[w0, w1, w2, w3, w4] := by
    have hs : args.size = 5 := by simpa [Cond.value, given_1] using g1
    obtain ⟨L⟩ := args
    match L, hs with
    | [w0, w1, w2, w3, w4], _ => exact ⟨w0, w1, w2, w3, w4, rfl⟩
  have hw := fun d (hd : d ∈ tables_1) => atoms_spec (ws := Jvm.Cond.code x code maxLocals ret :: tables_1) hat d (List.mem_cons_of_mem _ hd)
  have hfit : Fit s := fun {y c} hc i hi => by
    obtain ⟨ha, rfl⟩ := Array.getElem?_eq_some_iff.mp hc
    have q := List.all_eq_true.mp ((Array.all_eq_true_iff_forall_mem.mp hF) _ (Array.getElem_mem ha)) i (List.mem_range.mpr hi)
    simpa [Array.getElem?_eq_getElem hi] using q
  obtain ⟨i0, ei0⟩ := isL_v g3
  obtain rfl : w0 = (.long i0) := Option.some.inj ei0
  obtain ⟨i1, ei1⟩ := isL_v g5
  obtain rfl : w1 = (.long i1) := Option.some.inj ei1
  obtain ⟨i2, ei2⟩ := isL_v g7
  obtain rfl : w2 = (.long i2) := Option.some.inj ei2
  obtain ⟨i3, ei3⟩ := isL_v g9
  obtain rfl : w3 = (.long i3) := Option.some.inj ei3
  obtain ⟨i4, ei4⟩ := is_v g10
  obtain rfl : w4 = (.int i4) := Option.some.inj ei4
  obtain ⟨n, o, h1, h2, h3, _, L, rfl, ⟨rfl, N⟩, hq⟩ := rm0 l s _ hw tables_1 i0 i1 i2 i3 i4 s.heap s.heap.size (Nat.le_refl _)  p e ha hc hk s m _ below hf ((Spec.applies_iff_loose hf).mp happ).1 ⟨rfl, State.Warmed39.refl s, rfl⟩ trivial
  refine ⟨n, _, h1, h2, h3, hpost _ _ _ _ _ _ ⟨Cond.after_iff.mpr rfl, Cond.after_iff.mpr (eq_i res_at (Term.int_eval (1)) rfl), trivial⟩ ⟨hq.1, hq.2.1, (hq.2.2.sift fun y hy => Or.inr (N y hy)).mono (by decide) (by decide)⟩⟩
theorem main_1_1 : Claimed_1_1 := comes_1 fun _ _ _ _ _ _ h hF => ⟨h.1, hF⟩
theorem main_1_2 : Claimed_1_2 := comes_1 fun _ _ _ _ _ _ h hF => ⟨h.2.1, hF⟩
end Jvm.Pilot.@@N@@
namespace Jvm.Pilot.@@N@@
open Jvm Jvm.ClassFile Sem Op Lib Jvm.Free Jvm.Stand Jvm.Pilot.@@N@@.Jvm.D
/-! MADE BY PROGRAM (witnessworld.py) out of the Statement's table words and the real class files: 17 classes; the members and pool entries that the words name. The judged class is class 1, her method 1. -/
namespace start1
open Jvm.ClassFile
def u (s : String) : CpInfo := .utf8 (stringToUtf16 s)
/-- a pool by its gaps: so many unusable entries, then the entry; so many at the end -/
def gap : Nat → List CpInfo → List CpInfo
  | 0, r => r
  | n + 1, r => .unusable :: gap n r
def poolList (es : List (Nat × CpInfo)) (last : Nat) : List CpInfo := es.foldr (fun e r => gap e.1 (e.2 :: r)) (gap last [])
def pool (es : List (Nat × CpInfo)) (last : Nat) : Array CpInfo := ⟨poolList es last⟩
def fileOf (pool : Array CpInfo) (this : Nat) (attrs : Array Attribute := #[]) (ms : Array MethodInfo := #[]) (fl : Nat := 33) (sup : Nat := 0) (ifs : Array Nat := #[]) (fds : Array FieldInfo := #[]) : ClassFile where
  minorVersion := 0
  majorVersion := 65
  constantPool := pool
  accessFlags := fl
  thisClass := this
  superClass := sup
  interfaces := ifs
  fields := fds
  methods := ms
  attributes := attrs
def plain (name : String) (sup : Option ClassId) : Class where
  name := name
  kind := .ordinary
  loader := none
  accessFlags := 33
  super := sup
  interfaces := #[]
  cf := none
  fields := #[]
  methods := #[]
  instanceTypes := #[]
  staticTypes := #[]
  resolved := #[]
  callSites := []
  init := .initialized
  statics := none
  mirror := none

def pool0 : Array CpInfo := pool [(5, u "<init>"), (0, u "()V"), (1, .class_ 10), (1, u "java/lang/Object")] 113

def k0c0 : Code := { maxStack := 0, maxLocals := 1, code := object_method_1_code, exceptionTable := #[], attributes := #[] }
def k0m0 : Method := { name := "<init>", desc := "()V", sig := { parameters := [], returnType := none }, accessFlags := 1, code := some k0c0 }
/-- java/lang/Object -/
def k0 : Class := { plain "java/lang/Object" none with
  accessFlags := 33
  interfaces := #[]
  cf := some (fileOf pool0 8 #[] #[{ accessFlags := 1, nameIndex := 5, descriptorIndex := 6, attributes := #[] }] 33 0 #[] #[])
  fields := #[]
  methods := #[k0m0]
  instanceTypes := #[]
  staticTypes := #[]
  resolved := Array.replicate 124 none
  statics := none }

def pool1 : Array CpInfo := pool [(2, .class_ 4), (0, .nameAndType 5 6), (0, u "java/lang/Object"), (0, u "<init>"), (0, u "()V"), (0, .class_ 8), (0, u "com/example/eager_courier/eagercourier/connection/OutboundQueue"), (0, .methodref 7 3), (0, .methodref 7 11), (0, .nameAndType 12 13), (0, u "count"), (0, u "(JJ)V"), (0, .methodref 7 15), (0, .nameAndType 16 17), (0, u "getNotTaken"), (0, u "()J"), (0, .methodref 7 19), (0, .nameAndType 20 17), (0, u "getHeld"), (0, .methodref 7 22), (0, .nameAndType 23 24), (0, u "isEmpty"), (0, u "()Z"), (0, .methodref 7 26), (0, .nameAndType 27 24), (0, u "hasPackets"), (0, .methodref 7 29), (0, .nameAndType 30 24), (0, u "isLagging"), (0, .methodref 7 32), (0, .nameAndType 33 24), (0, u "isSocketFull"), (0, .class_ 35), (0, u "com/example/eager_courier/eagercourier/connection/OutboundQueueCountPinLaw"), (2, u "law"), (0, u "(JJJJI)Z")] 3

def k1m0 : Method := { name := "<init>", desc := "()V", sig := { parameters := [], returnType := none }, accessFlags := 1, code := none }
def k1c1 : Code := { maxStack := 5, maxLocals := 20, code := code, exceptionTable := #[], attributes := #[] }
def k1m1 : Method := { name := "law", desc := "(JJJJI)Z", sig := { parameters := [.long, .long, .long, .long, .int], returnType := some .boolean }, accessFlags := 9, code := some k1c1 }
/-- com/example/eager_courier/eagercourier/connection/OutboundQueueCountPinLaw -/
def k1 : Class := { plain "com/example/eager_courier/eagercourier/connection/OutboundQueueCountPinLaw" (some 0) with
  accessFlags := 49
  interfaces := #[]
  cf := some (fileOf pool1 34 #[] #[{ accessFlags := 1, nameIndex := 5, descriptorIndex := 6, attributes := #[] }, { accessFlags := 9, nameIndex := 38, descriptorIndex := 39, attributes := #[] }] 49 2 #[] #[])
  fields := #[]
  methods := #[k1m0, k1m1]
  instanceTypes := #[]
  staticTypes := #[]
  resolved := Array.replicate 43 none
  statics := none }

def pool2 : Array CpInfo := pool [(1, .methodref 2 3), (0, .class_ 4), (0, .nameAndType 5 6), (0, u "java/lang/Object"), (0, u "<init>"), (0, u "()V"), (0, .class_ 8), (0, u "java/util/ArrayDeque"), (0, .class_ 10), (0, u "com/example/eager_courier/eagercourier/connection/OutboundQueue"), (0, .methodref 7 12), (0, .nameAndType 5 13), (0, u "(I)V"), (0, .fieldref 9 15), (0, .nameAndType 16 17), (0, u "packets"), (0, u "Ljava/util/ArrayDeque;"), (6, u "mostQueued"), (0, u "I"), (10, .fieldref 9 37), (0, .nameAndType 38 39), (0, u "notTaken"), (0, u "J"), (0, .fieldref 9 41), (0, .nameAndType 42 39), (0, u "held"), (21, u "()Z"), (7, .methodref 7 73), (0, .nameAndType 74 64), (0, u "isEmpty"), (0, .fieldref 9 76), (0, .nameAndType 77 78), (0, u "lagging"), (0, u "Z"), (0, .fieldref 9 80), (0, .nameAndType 81 78), (0, u "socketFull"), (0, u "FIRST_PACKETS"), (7, u "count"), (0, u "(JJ)V"), (8, u "hasPackets"), (0, u "getNotTaken"), (0, u "()J"), (0, u "getHeld"), (0, u "isLagging"), (1, u "isSocketFull")] 4

def k2c0 : Code := { maxStack := 4, maxLocals := 1, code := prog_33_method_1_code, exceptionTable := #[], attributes := #[] }
def k2m0 : Method := { name := "<init>", desc := "()V", sig := { parameters := [], returnType := none }, accessFlags := 0, code := some k2c0 }
def k2c1 : Code := { maxStack := 5, maxLocals := 5, code := prog_33_method_3_code, exceptionTable := #[], attributes := #[] }
def k2m1 : Method := { name := "count", desc := "(JJ)V", sig := { parameters := [.long, .long], returnType := none }, accessFlags := 0, code := some k2c1 }
def k2c2 : Code := { maxStack := 1, maxLocals := 1, code := prog_33_method_7_code, exceptionTable := #[], attributes := #[] }
def k2m2 : Method := { name := "hasPackets", desc := "()Z", sig := { parameters := [], returnType := some .boolean }, accessFlags := 0, code := some k2c2 }
def k2c3 : Code := { maxStack := 4, maxLocals := 1, code := prog_33_method_8_code, exceptionTable := #[], attributes := #[] }
def k2m3 : Method := { name := "isEmpty", desc := "()Z", sig := { parameters := [], returnType := some .boolean }, accessFlags := 0, code := some k2c3 }
def k2c4 : Code := { maxStack := 2, maxLocals := 1, code := prog_33_method_9_code, exceptionTable := #[], attributes := #[] }
def k2m4 : Method := { name := "getNotTaken", desc := "()J", sig := { parameters := [], returnType := some .long }, accessFlags := 0, code := some k2c4 }
def k2c5 : Code := { maxStack := 2, maxLocals := 1, code := prog_33_method_10_code, exceptionTable := #[], attributes := #[] }
def k2m5 : Method := { name := "getHeld", desc := "()J", sig := { parameters := [], returnType := some .long }, accessFlags := 0, code := some k2c5 }
def k2c6 : Code := { maxStack := 1, maxLocals := 1, code := prog_33_method_11_code, exceptionTable := #[], attributes := #[] }
def k2m6 : Method := { name := "isLagging", desc := "()Z", sig := { parameters := [], returnType := some .boolean }, accessFlags := 0, code := some k2c6 }
def k2c7 : Code := { maxStack := 1, maxLocals := 1, code := prog_33_method_13_code, exceptionTable := #[], attributes := #[] }
def k2m7 : Method := { name := "isSocketFull", desc := "()Z", sig := { parameters := [], returnType := some .boolean }, accessFlags := 0, code := some k2c7 }
/-- com/example/eager_courier/eagercourier/connection/OutboundQueue -/
def k2 : Class := { plain "com/example/eager_courier/eagercourier/connection/OutboundQueue" (some 0) with
  accessFlags := 32
  interfaces := #[]
  cf := some (fileOf pool2 9 #[] #[{ accessFlags := 0, nameIndex := 5, descriptorIndex := 6, attributes := #[] }, { accessFlags := 0, nameIndex := 90, descriptorIndex := 91, attributes := #[] }, { accessFlags := 0, nameIndex := 100, descriptorIndex := 64, attributes := #[] }, { accessFlags := 0, nameIndex := 74, descriptorIndex := 64, attributes := #[] }, { accessFlags := 0, nameIndex := 101, descriptorIndex := 102, attributes := #[] }, { accessFlags := 0, nameIndex := 103, descriptorIndex := 102, attributes := #[] }, { accessFlags := 0, nameIndex := 104, descriptorIndex := 64, attributes := #[] }, { accessFlags := 0, nameIndex := 106, descriptorIndex := 64, attributes := #[] }] 32 2 #[] #[{ accessFlags := 26, nameIndex := 82, descriptorIndex := 25, attributes := #[] }, { accessFlags := 2, nameIndex := 16, descriptorIndex := 17, attributes := #[] }, { accessFlags := 2, nameIndex := 24, descriptorIndex := 25, attributes := #[] }, { accessFlags := 2, nameIndex := 38, descriptorIndex := 39, attributes := #[] }, { accessFlags := 2, nameIndex := 42, descriptorIndex := 39, attributes := #[] }, { accessFlags := 2, nameIndex := 77, descriptorIndex := 78, attributes := #[] }, { accessFlags := 2, nameIndex := 81, descriptorIndex := 78, attributes := #[] }])
  fields := #[{ name := "FIRST_PACKETS", type := .int, accessFlags := 26, slot := 0, constantValue := 0 }, { name := "packets", type := (.object "java/util/ArrayDeque"), accessFlags := 2, slot := 0, constantValue := 0 }, { name := "mostQueued", type := .int, accessFlags := 2, slot := 1, constantValue := 0 }, { name := "notTaken", type := .long, accessFlags := 2, slot := 2, constantValue := 0 }, { name := "held", type := .long, accessFlags := 2, slot := 3, constantValue := 0 }, { name := "lagging", type := .boolean, accessFlags := 2, slot := 4, constantValue := 0 }, { name := "socketFull", type := .boolean, accessFlags := 2, slot := 5, constantValue := 0 }]
  methods := #[k2m0, k2m1, k2m2, k2m3, k2m4, k2m5, k2m6, k2m7]
  instanceTypes := #[(.object "java/util/ArrayDeque"), .int, .long, .long, .boolean, .boolean]
  staticTypes := #[.int]
  resolved := Array.replicate 111 none
  statics := none }

def pool3 : Array CpInfo := pool [(8, .class_ 10), (1, u "java/lang/Iterable"), (24, .class_ 36), (0, u "java/lang/Object")] 25

/-- java/lang/Iterable -/
def k3 : Class := { plain "java/lang/Iterable" (some 0) with
  accessFlags := 1537
  interfaces := #[]
  cf := some (fileOf pool3 8 #[] #[] 1537 35 #[] #[])
  fields := #[]
  methods := #[]
  instanceTypes := #[]
  staticTypes := #[]
  resolved := Array.replicate 62 none
  statics := none }

def pool4 : Array CpInfo := pool [(10, .class_ 12), (1, u "java/util/Collection"), (47, .class_ 61), (0, u "java/lang/Object"), (0, .class_ 63), (0, u "java/lang/Iterable")] 51

/-- java/util/Collection -/
def k4 : Class := { plain "java/util/Collection" (some 0) with
  accessFlags := 1537
  interfaces := #[3]
  cf := some (fileOf pool4 10 #[] #[] 1537 60 #[62] #[])
  fields := #[]
  methods := #[]
  instanceTypes := #[]
  staticTypes := #[]
  resolved := Array.replicate 115 none
  statics := none }

def pool5 : Array CpInfo := pool [(1, .methodref 2 3), (0, .class_ 4), (0, .nameAndType 5 6), (0, u "java/lang/Object"), (0, u "<init>"), (0, u "()V"), (1, .class_ 10), (1, u "java/util/AbstractCollection"), (66, .class_ 78), (0, u "java/util/Collection")] 81

def k5c0 : Code := { maxStack := 1, maxLocals := 1, code := jdk_22_method_1_code, exceptionTable := #[], attributes := #[] }
def k5m0 : Method := { name := "<init>", desc := "()V", sig := { parameters := [], returnType := none }, accessFlags := 4, code := some k5c0 }
/-- java/util/AbstractCollection -/
def k5 : Class := { plain "java/util/AbstractCollection" (some 0) with
  accessFlags := 1057
  interfaces := #[4]
  cf := some (fileOf pool5 8 #[] #[{ accessFlags := 4, nameIndex := 5, descriptorIndex := 6, attributes := #[] }] 1057 2 #[77] #[])
  fields := #[]
  methods := #[k5m0]
  instanceTypes := #[]
  staticTypes := #[]
  resolved := Array.replicate 160 none
  statics := none }

def pool6 : Array CpInfo := pool [(1, .class_ 2), (0, u "java/util/Queue"), (0, .class_ 4), (0, u "java/lang/Object"), (0, .class_ 6), (0, u "java/util/Collection")] 14

/-- java/util/Queue -/
def k6 : Class := { plain "java/util/Queue" (some 0) with
  accessFlags := 1537
  interfaces := #[4]
  cf := some (fileOf pool6 1 #[] #[] 1537 3 #[5] #[])
  fields := #[]
  methods := #[]
  instanceTypes := #[]
  staticTypes := #[]
  resolved := Array.replicate 21 none
  statics := none }

def pool7 : Array CpInfo := pool [(8, .class_ 10), (1, u "java/util/SequencedCollection"), (15, .class_ 27), (0, u "java/lang/Object"), (0, .class_ 29), (0, u "java/util/Collection")] 27

/-- java/util/SequencedCollection -/
def k7 : Class := { plain "java/util/SequencedCollection" (some 0) with
  accessFlags := 1537
  interfaces := #[4]
  cf := some (fileOf pool7 8 #[] #[] 1537 26 #[28] #[])
  fields := #[]
  methods := #[]
  instanceTypes := #[]
  staticTypes := #[]
  resolved := Array.replicate 57 none
  statics := none }

def pool8 : Array CpInfo := pool [(8, .class_ 10), (1, u "java/util/Deque"), (2, .class_ 14), (0, u "java/lang/Object"), (0, .class_ 16), (0, u "java/util/Queue"), (0, .class_ 18), (0, u "java/util/SequencedCollection")] 51

/-- java/util/Deque -/
def k8 : Class := { plain "java/util/Deque" (some 0) with
  accessFlags := 1537
  interfaces := #[6, 7]
  cf := some (fileOf pool8 8 #[] #[] 1537 13 #[15, 17] #[])
  fields := #[]
  methods := #[]
  instanceTypes := #[]
  staticTypes := #[]
  resolved := Array.replicate 70 none
  statics := none }

def pool9 : Array CpInfo := pool [(1, .class_ 2), (0, u "java/lang/Cloneable"), (0, .class_ 4), (0, u "java/lang/Object")] 2

/-- java/lang/Cloneable -/
def k9 : Class := { plain "java/lang/Cloneable" (some 0) with
  accessFlags := 1537
  interfaces := #[]
  cf := some (fileOf pool9 1 #[] #[] 1537 3 #[] #[])
  fields := #[]
  methods := #[]
  instanceTypes := #[]
  staticTypes := #[]
  resolved := Array.replicate 7 none
  statics := none }

def pool10 : Array CpInfo := pool [(1, .class_ 2), (0, u "java/io/Serializable"), (0, .class_ 4), (0, u "java/lang/Object")] 2

/-- java/io/Serializable -/
def k10 : Class := { plain "java/io/Serializable" (some 0) with
  accessFlags := 1537
  interfaces := #[]
  cf := some (fileOf pool10 1 #[] #[] 1537 3 #[] #[])
  fields := #[]
  methods := #[]
  instanceTypes := #[]
  staticTypes := #[]
  resolved := Array.replicate 7 none
  statics := none }

def pool11 : Array CpInfo := pool [(3, .fieldref 4 5), (0, .class_ 6), (0, .nameAndType 7 8), (0, u "java/util/ArrayDeque"), (0, u "elements"), (0, u "[Ljava/lang/Object;"), (11, .fieldref 4 21), (0, .nameAndType 22 23), (0, u "tail"), (0, u "I"), (0, .fieldref 4 25), (0, .nameAndType 26 23), (0, u "head"), (12, u "<init>"), (1, .integer 2147483647), (0, .methodref 43 44), (0, .class_ 45), (0, .nameAndType 39 46), (0, u "java/util/AbstractCollection"), (0, u "()V"), (0, .class_ 48), (0, u "java/lang/Object"), (8, u "(I)V"), (73, .class_ 132), (0, u "java/util/ArrayDeque$DeqIterator"), (3, .class_ 137), (0, u "java/util/ArrayDeque$DescendingIterator"), (1, .class_ 140), (0, u "java/util/ArrayDeque$DeqSpliterator"), (137, .class_ 279), (0, u "java/util/Deque"), (0, .class_ 281), (0, u "java/lang/Cloneable"), (0, .class_ 283), (0, u "java/io/Serializable"), (0, u "MAX_ARRAY_SIZE"), (1, u "serialVersionUID"), (0, u "J"), (59, u "isEmpty"), (0, u "()Z")] 89

def k11m0 : Method := { name := "<init>", desc := "()V", sig := { parameters := [], returnType := none }, accessFlags := 1, code := none }
def k11c1 : Code := { maxStack := 3, maxLocals := 2, code := jdk_21_method_4_code, exceptionTable := #[], attributes := #[] }
def k11m1 : Method := { name := "<init>", desc := "(I)V", sig := { parameters := [.int], returnType := none }, accessFlags := 1, code := some k11c1 }
def k11c2 : Code := { maxStack := 2, maxLocals := 1, code := jdk_21_method_38_code, exceptionTable := #[], attributes := #[] }
def k11m2 : Method := { name := "isEmpty", desc := "()Z", sig := { parameters := [], returnType := some .boolean }, accessFlags := 1, code := some k11c2 }
/-- java/util/ArrayDeque -/
def k11 : Class := { plain "java/util/ArrayDeque" (some 5) with
  accessFlags := 33
  interfaces := #[8, 9, 10]
  cf := some (fileOf pool11 4 #[.nestMembers #[139, 136, 131]] #[{ accessFlags := 1, nameIndex := 39, descriptorIndex := 46, attributes := #[] }, { accessFlags := 1, nameIndex := 39, descriptorIndex := 57, attributes := #[] }, { accessFlags := 1, nameIndex := 347, descriptorIndex := 348, attributes := #[] }] 33 43 #[278, 280, 282] #[{ accessFlags := 128, nameIndex := 7, descriptorIndex := 8, attributes := #[] }, { accessFlags := 128, nameIndex := 26, descriptorIndex := 23, attributes := #[] }, { accessFlags := 128, nameIndex := 22, descriptorIndex := 23, attributes := #[] }, { accessFlags := 26, nameIndex := 284, descriptorIndex := 23, attributes := #[] }, { accessFlags := 26, nameIndex := 286, descriptorIndex := 287, attributes := #[] }])
  fields := #[{ name := "elements", type := (.array (.object "java/lang/Object")), accessFlags := 128, slot := 0, constantValue := 0 }, { name := "head", type := .int, accessFlags := 128, slot := 1, constantValue := 0 }, { name := "tail", type := .int, accessFlags := 128, slot := 2, constantValue := 0 }, { name := "MAX_ARRAY_SIZE", type := .int, accessFlags := 26, slot := 0, constantValue := 0 }, { name := "serialVersionUID", type := .long, accessFlags := 26, slot := 1, constantValue := 0 }]
  methods := #[k11m0, k11m1, k11m2]
  instanceTypes := #[(.array (.object "java/lang/Object")), .int, .int]
  staticTypes := #[.int, .long]
  resolved := Array.replicate 438 none
  statics := none }

/-- the primitive byte -/
def k12 : Class := { plain "byte" none with kind := .primitive 'B', accessFlags := 0x411 }
/-- [B -/
def k13 : Class := { plain "[B" (some 0) with kind := .array 12 .byte, interfaces := #[9, 10], accessFlags := 1041 }

/-- the primitive int -/
def k14 : Class := { plain "int" none with kind := .primitive 'I', accessFlags := 0x411 }
/-- [I -/
def k15 : Class := { plain "[I" (some 0) with kind := .array 14 .int, interfaces := #[9, 10], accessFlags := 1041 }

/-- [Ljava/lang/Object; -/
def k16 : Class := { plain "[Ljava/lang/Object;" (some 0) with kind := .array 0 (.object "java/lang/Object"), interfaces := #[9, 10], accessFlags := 1041 }

def heap : Heap := #[]
def classes : Array Class := #[k0, k1, k2, k3, k4, k5, k6, k7, k8, k9, k10, k11, k12, k13, k14, k15, k16]
def interned : List (Array UInt16 × Addr) := []
def slotsUsed : Nat := 0
def theMethod : MethodId := ⟨1, 1⟩
def args0 : Array Value := #[.long 5, .long 7, .long 9, .long 3, .int 2]
def aboutOver (below : List Frame) : State where
  vm := { classes := classes, interned := interned.toArray }
  heap := heap
  slotsUsed := slotsUsed
  threads := #[{ frames := .invoking theMethod args0 :: below }]
def below0 : List Frame := [.native { method := ⟨0, 0⟩, args := #[] }]
def about1 : State := aboutOver below0
def p0 : Program := .bare "" "" ""
def e0 : Env := launch0.env 0 0 0
theorem w_frames : about1.frames = Frame.invoking theMethod args0 :: below0 := rfl
set_option maxRecDepth 65536 in
theorem w_args : argsFit about1.vm theMethod args0 = true := by decide +kernel
set_option maxRecDepth 65536 in
theorem w_heap : heapFits about1 = true := by decide +kernel
set_option maxRecDepth 65536 in
theorem w_runnable : about1.curStatus? = some .runnable := by decide +kernel
set_option maxRecDepth 65536 in
theorem w_alone : about1.alone = true := by decide +kernel
set_option maxRecDepth 65536 in
theorem w_named : about1.methodNamed? x = some theMethod := by decide +kernel
set_option maxRecDepth 65536 in
theorem w_hears : about1.hears theMethod below0 = true := by decide +kernel
set_option maxRecDepth 65536 in
theorem w_ripe : about1.ripe theMethod args0 below0 = true := by decide +kernel
theorem w_running : about1.status = .running := rfl
set_option maxRecDepth 65536 in
theorem w_room : about1.hasRoom e0.platform room_1 = true :=
  launch0.hasRoom_least _ room_1 (by decide +kernel) (by decide +kernel) (by decide +kernel) (by decide +kernel) (by decide +kernel) (by decide +kernel)
theorem allAtoms_all (ts : List Jvm.Cond) (a : Array Jvm.Value) (st : Jvm.State) : (allAtoms ts).before a st = ts.all (fun c => c.before a st) := by
  induction ts with
  | nil => rfl
  | cons c t ih =>
    show (Jvm.Cond.and c (allAtoms t)).before a st = _
    rw [Jvm.Cond.before_and, ih, List.all_cons]
def words1 : List Jvm.Cond := Jvm.Cond.code x code maxLocals ret :: tables_1
/-- a 'code' word, met by the world's own term for the bytes: nothing is compared byte by byte -/
theorem code_word {y : MethodName} {bytes : ByteArray} {mx : Nat} {rt : Option FieldType} {a : Array Value} {s : State} {m : MethodId} {meth : Method} {c : Code} (h1 : s.methodNamed? y = some m) (h2 : s.vm.method? m = some meth) (h3 : meth.code = some c) (h4 : c.code = bytes)
    (h5 : (c.maxLocals == mx && c.exceptionTable.isEmpty && decide (c.maxStack ≤ mostOperands) && decide (meth.sig.returnType = rt) && !meth.locks && decide (parseMethodDescriptor y.desc = some meth.sig)) = true) : (Jvm.Cond.code y bytes mx rt).before a s = true := by
  simp only [Bool.and_eq_true, beq_iff_eq, Bool.not_eq_true', decide_eq_true_eq] at h5
  obtain ⟨⟨⟨⟨⟨g1, g2⟩, g3⟩, g4⟩, g5⟩, g6⟩ := h5
  simp [Cond.before, Cond.holds, Cond.value, h1, h2, h3, h4, g1, g2, g3, g4, g5, g6]
def isCode : Jvm.Cond → Bool
  | .code _ _ _ _ => true
  | _ => false
theorem all_split {L : List Jvm.Cond} {P : Jvm.Cond → Bool} (h1 : L.all (fun c => isCode c || P c) = true) (h2 : ∀ c ∈ L.filter isCode, P c = true) : L.all P = true := by
  refine List.all_eq_true.mpr fun c hc => ?_
  have h := List.all_eq_true.mp h1 c hc
  rcases Bool.eq_false_or_eq_true (isCode c) with hi | hi
  · exact h2 c (List.mem_filter.mpr ⟨hc, hi⟩)
  · simpa [hi] using h
set_option maxRecDepth 65536 in
theorem w_c0 : (Jvm.Cond.code x code maxLocals ret).before args0 about1 = true := code_word (m := ⟨1, 1⟩) (meth := k1m1) (c := k1c1) (by decide +kernel) rfl rfl rfl (by decide +kernel)
set_option maxRecDepth 65536 in
theorem w_c1 : (Jvm.Cond.code ({ cls := "com/example/eager_courier/eagercourier/connection/OutboundQueue", name := "<init>", desc := "()V" } : Jvm.MethodName) prog_33_method_1_code (1 : Nat) (Option.none : Option Jvm.ClassFile.FieldType)).before args0 about1 = true := code_word (m := ⟨2, 0⟩) (meth := k2m0) (c := k2c0) (by decide +kernel) rfl rfl rfl (by decide +kernel)
set_option maxRecDepth 65536 in
theorem w_c2 : (Jvm.Cond.code ({ cls := "java/lang/Object", name := "<init>", desc := "()V" } : Jvm.MethodName) object_method_1_code (1 : Nat) (Option.none : Option Jvm.ClassFile.FieldType)).before args0 about1 = true := code_word (m := ⟨0, 0⟩) (meth := k0m0) (c := k0c0) (by decide +kernel) rfl rfl rfl (by decide +kernel)
set_option maxRecDepth 65536 in
theorem w_c3 : (Jvm.Cond.code ({ cls := "java/util/ArrayDeque", name := "<init>", desc := "(I)V" } : Jvm.MethodName) jdk_21_method_4_code (2 : Nat) (Option.none : Option Jvm.ClassFile.FieldType)).before args0 about1 = true := code_word (m := ⟨11, 1⟩) (meth := k11m1) (c := k11c1) (by decide +kernel) rfl rfl rfl (by decide +kernel)
set_option maxRecDepth 65536 in
theorem w_c4 : (Jvm.Cond.code ({ cls := "java/util/AbstractCollection", name := "<init>", desc := "()V" } : Jvm.MethodName) jdk_22_method_1_code (1 : Nat) (Option.none : Option Jvm.ClassFile.FieldType)).before args0 about1 = true := code_word (m := ⟨5, 0⟩) (meth := k5m0) (c := k5c0) (by decide +kernel) rfl rfl rfl (by decide +kernel)
set_option maxRecDepth 65536 in
theorem w_c5 : (Jvm.Cond.code ({ cls := "com/example/eager_courier/eagercourier/connection/OutboundQueue", name := "count", desc := "(JJ)V" } : Jvm.MethodName) prog_33_method_3_code (5 : Nat) (Option.none : Option Jvm.ClassFile.FieldType)).before args0 about1 = true := code_word (m := ⟨2, 1⟩) (meth := k2m1) (c := k2c1) (by decide +kernel) rfl rfl rfl (by decide +kernel)
set_option maxRecDepth 65536 in
theorem w_c6 : (Jvm.Cond.code ({ cls := "com/example/eager_courier/eagercourier/connection/OutboundQueue", name := "getNotTaken", desc := "()J" } : Jvm.MethodName) prog_33_method_9_code (1 : Nat) (Option.some Jvm.ClassFile.FieldType.long)).before args0 about1 = true := code_word (m := ⟨2, 4⟩) (meth := k2m4) (c := k2c4) (by decide +kernel) rfl rfl rfl (by decide +kernel)
set_option maxRecDepth 65536 in
theorem w_c7 : (Jvm.Cond.code ({ cls := "com/example/eager_courier/eagercourier/connection/OutboundQueue", name := "getHeld", desc := "()J" } : Jvm.MethodName) prog_33_method_10_code (1 : Nat) (Option.some Jvm.ClassFile.FieldType.long)).before args0 about1 = true := code_word (m := ⟨2, 5⟩) (meth := k2m5) (c := k2c5) (by decide +kernel) rfl rfl rfl (by decide +kernel)
set_option maxRecDepth 65536 in
theorem w_c8 : (Jvm.Cond.code ({ cls := "com/example/eager_courier/eagercourier/connection/OutboundQueue", name := "isEmpty", desc := "()Z" } : Jvm.MethodName) prog_33_method_8_code (1 : Nat) (Option.some Jvm.ClassFile.FieldType.boolean)).before args0 about1 = true := code_word (m := ⟨2, 3⟩) (meth := k2m3) (c := k2c3) (by decide +kernel) rfl rfl rfl (by decide +kernel)
set_option maxRecDepth 65536 in
theorem w_c9 : (Jvm.Cond.code ({ cls := "java/util/ArrayDeque", name := "isEmpty", desc := "()Z" } : Jvm.MethodName) jdk_21_method_38_code (1 : Nat) (Option.some Jvm.ClassFile.FieldType.boolean)).before args0 about1 = true := code_word (m := ⟨11, 2⟩) (meth := k11m2) (c := k11c2) (by decide +kernel) rfl rfl rfl (by decide +kernel)
set_option maxRecDepth 65536 in
theorem w_c10 : (Jvm.Cond.code ({ cls := "com/example/eager_courier/eagercourier/connection/OutboundQueue", name := "hasPackets", desc := "()Z" } : Jvm.MethodName) prog_33_method_7_code (1 : Nat) (Option.some Jvm.ClassFile.FieldType.boolean)).before args0 about1 = true := code_word (m := ⟨2, 2⟩) (meth := k2m2) (c := k2c2) (by decide +kernel) rfl rfl rfl (by decide +kernel)
set_option maxRecDepth 65536 in
theorem w_c11 : (Jvm.Cond.code ({ cls := "com/example/eager_courier/eagercourier/connection/OutboundQueue", name := "isLagging", desc := "()Z" } : Jvm.MethodName) prog_33_method_11_code (1 : Nat) (Option.some Jvm.ClassFile.FieldType.boolean)).before args0 about1 = true := code_word (m := ⟨2, 6⟩) (meth := k2m6) (c := k2c6) (by decide +kernel) rfl rfl rfl (by decide +kernel)
set_option maxRecDepth 65536 in
theorem w_c12 : (Jvm.Cond.code ({ cls := "com/example/eager_courier/eagercourier/connection/OutboundQueue", name := "isSocketFull", desc := "()Z" } : Jvm.MethodName) prog_33_method_13_code (1 : Nat) (Option.some Jvm.ClassFile.FieldType.boolean)).before args0 about1 = true := code_word (m := ⟨2, 7⟩) (meth := k2m7) (c := k2c7) (by decide +kernel) rfl rfl rfl (by decide +kernel)
def codes1 : List Jvm.Cond := [Jvm.Cond.code x code maxLocals ret, Jvm.Cond.code ({ cls := "com/example/eager_courier/eagercourier/connection/OutboundQueue", name := "<init>", desc := "()V" } : Jvm.MethodName) prog_33_method_1_code (1 : Nat) (Option.none : Option Jvm.ClassFile.FieldType), Jvm.Cond.code ({ cls := "java/lang/Object", name := "<init>", desc := "()V" } : Jvm.MethodName) object_method_1_code (1 : Nat) (Option.none : Option Jvm.ClassFile.FieldType), Jvm.Cond.code ({ cls := "java/util/ArrayDeque", name := "<init>", desc := "(I)V" } : Jvm.MethodName) jdk_21_method_4_code (2 : Nat) (Option.none : Option Jvm.ClassFile.FieldType), Jvm.Cond.code ({ cls := "java/util/AbstractCollection", name := "<init>", desc := "()V" } : Jvm.MethodName) jdk_22_method_1_code (1 : Nat) (Option.none : Option Jvm.ClassFile.FieldType), Jvm.Cond.code ({ cls := "com/example/eager_courier/eagercourier/connection/OutboundQueue", name := "count", desc := "(JJ)V" } : Jvm.MethodName) prog_33_method_3_code (5 : Nat) (Option.none : Option Jvm.ClassFile.FieldType), Jvm.Cond.code ({ cls := "com/example/eager_courier/eagercourier/connection/OutboundQueue", name := "getNotTaken", desc := "()J" } : Jvm.MethodName) prog_33_method_9_code (1 : Nat) (Option.some Jvm.ClassFile.FieldType.long), Jvm.Cond.code ({ cls := "com/example/eager_courier/eagercourier/connection/OutboundQueue", name := "getHeld", desc := "()J" } : Jvm.MethodName) prog_33_method_10_code (1 : Nat) (Option.some Jvm.ClassFile.FieldType.long), Jvm.Cond.code ({ cls := "com/example/eager_courier/eagercourier/connection/OutboundQueue", name := "isEmpty", desc := "()Z" } : Jvm.MethodName) prog_33_method_8_code (1 : Nat) (Option.some Jvm.ClassFile.FieldType.boolean), Jvm.Cond.code ({ cls := "java/util/ArrayDeque", name := "isEmpty", desc := "()Z" } : Jvm.MethodName) jdk_21_method_38_code (1 : Nat) (Option.some Jvm.ClassFile.FieldType.boolean), Jvm.Cond.code ({ cls := "com/example/eager_courier/eagercourier/connection/OutboundQueue", name := "hasPackets", desc := "()Z" } : Jvm.MethodName) prog_33_method_7_code (1 : Nat) (Option.some Jvm.ClassFile.FieldType.boolean), Jvm.Cond.code ({ cls := "com/example/eager_courier/eagercourier/connection/OutboundQueue", name := "isLagging", desc := "()Z" } : Jvm.MethodName) prog_33_method_11_code (1 : Nat) (Option.some Jvm.ClassFile.FieldType.boolean), Jvm.Cond.code ({ cls := "com/example/eager_courier/eagercourier/connection/OutboundQueue", name := "isSocketFull", desc := "()Z" } : Jvm.MethodName) prog_33_method_13_code (1 : Nat) (Option.some Jvm.ClassFile.FieldType.boolean)]
set_option maxRecDepth 65536 in
theorem codes_eq : words1.filter isCode = codes1 := rfl
theorem w_codes : ∀ c ∈ words1.filter isCode, c.before args0 about1 = true := by
  rw [codes_eq]
  intro c hc
  simp only [codes1, List.mem_cons, List.not_mem_nil, or_false] at hc
  rcases hc with rfl | rfl | rfl | rfl | rfl | rfl | rfl | rfl | rfl | rfl | rfl | rfl | rfl
  · exact w_c0
  · exact w_c1
  · exact w_c2
  · exact w_c3
  · exact w_c4
  · exact w_c5
  · exact w_c6
  · exact w_c7
  · exact w_c8
  · exact w_c9
  · exact w_c10
  · exact w_c11
  · exact w_c12
set_option maxRecDepth 65536 in
theorem w_t1 : (words1.take 24).all (fun c => isCode c || c.before args0 about1) = true := by decide +kernel
set_option maxRecDepth 65536 in
theorem w_t2 : ((words1.drop 24).take 24).all (fun c => isCode c || c.before args0 about1) = true := by decide +kernel
set_option maxRecDepth 65536 in
theorem w_t3 : (((words1.drop 24).drop 24).take 24).all (fun c => isCode c || c.before args0 about1) = true := by decide +kernel
set_option maxRecDepth 65536 in
theorem w_t4 : (((words1.drop 24).drop 24).drop 24).all (fun c => isCode c || c.before args0 about1) = true := by decide +kernel
theorem w_tables : (allAtoms (Jvm.Cond.code x code maxLocals ret :: tables_1)).before args0 about1 = true := by
  rw [allAtoms_all]
  show words1.all (fun c => c.before args0 about1) = true
  refine all_split ?_ w_codes
  rw [← List.take_append_drop 24 words1, List.all_append, w_t1, ← List.take_append_drop 24 (words1.drop 24), List.all_append, w_t2, ← List.take_append_drop 24 ((words1.drop 24).drop 24), List.all_append, w_t3, w_t4]
  rfl
set_option maxRecDepth 65536 in
theorem w_case : (Jvm.Cond.and given_1 narrow_1).before args0 about1 = true := by decide +kernel
theorem w_applies : (headSpec (Jvm.Cond.code x code maxLocals ret :: tables_1) room_1).applies x e0.platform about1 = true :=
  (Spec.applies_iff w_frames).mpr ⟨w_running, w_runnable, w_alone, w_named, w_hears, w_ripe, w_room, w_tables⟩
theorem atStart : AtStart classFile x code maxLocals ret World_1 tables_1 room_1 Calls_1 rest_1 Pre_1 launch0 p0 e0 about1 theMethod args0 below0 :=
  ⟨lists_1, trivial, launch0.admits_env _ _ _, launch0.least_env, fairChoices_fair.cas, fairChoices_fair.clock, w_frames, w_args, w_heap, w_applies, trivial, trivial, w_case⟩
end start1
theorem witness_1 : WitnessClaimed_1 := ⟨start1.p0, start1.e0, start1.about1, start1.theMethod, start1.args0, start1.below0, start1.atStart⟩
end Jvm.Pilot.@@N@@
