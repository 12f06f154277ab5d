import JvmDerived
import JvmDerived.Pilot.@@N@@Statement
import JvmDerived.Pilot.@@N@@Code
set_option linter.unusedVariables false
set_option linter.unusedSimpArgs false
namespace Jvm.Pilot.@@N@@
open Jvm Jvm.ClassFile Sem Op Lib Jvm.Free Jvm.Stand Jvm.LawKit Jvm.RoadKit Bundle Jvm.Pilot.@@N@@.Jvm.D
/-- from A the run comes to B -/
abbrev Go (p : Program) (e : Env) (below : List Frame) (A B : State) : Prop := ∀ t, Steps p.tables e below B t → Steps p.tables e below A t
section Own
variable {p : Program} {l : Launch} {e : Env} {R : Room} {s : State} {m : MethodId} {args : Array Value} {below : List Frame} {meth : Method} {c : Code} {T : State} {locs : List Loc} {cells slots : Nat} {t : State} {A : ByteArray} {pc : Nat} {L : Array Slot} {S : List Value}
theorem o_iloadN (X : Stand p l e R s m args below meth c T locs cells slots) (hx : p.tables.exec = Jvm.exec) (hby : c.code = A) {k : Fin 4} {v : Int32} (hd : decode A pc = .ok (.iload_n k, 1)) (n : Nat) (hn : pc + 1 = n) (hl : L[k.val]? = some (.val (.int v))) (hr : Steps p.tables e below (T.setTop (mkF m n L (.int v :: S))) t) : Steps p.tables e below (T.setTop (mkF m pc L S)) t := by
  subst hn; exact XS.iloadN X.here hx rfl (hb hby hd) hl hr
theorem o_lloadN (X : Stand p l e R s m args below meth c T locs cells slots) (hx : p.tables.exec = Jvm.exec) (hby : c.code = A) {k : Fin 4} {v : Int64} (hd : decode A pc = .ok (.lload_n k, 1)) (n : Nat) (hn : pc + 1 = n) (hl : L[k.val]? = some (.val (.long v))) (hr : Steps p.tables e below (T.setTop (mkF m n L (.long v :: S))) t) : Steps p.tables e below (T.setTop (mkF m pc L S)) t := by
  subst hn; exact XS.lloadN X.here hx rfl (hb hby hd) hl hr
theorem o_aloadN (X : Stand p l e R s m args below meth c T locs cells slots) (hx : p.tables.exec = Jvm.exec) (hby : c.code = A) {k : Fin 4} {v : Value} (hd : decode A pc = .ok (.aload_n k, 1)) (n : Nat) (hn : pc + 1 = n) (hl : L[k.val]? = some (.val v)) (hv : v.isRef = true) (hr : Steps p.tables e below (T.setTop (mkF m n L (v :: S))) t) : Steps p.tables e below (T.setTop (mkF m pc L S)) t := by
  subst hn; exact XS.aloadN X.here hx rfl (hb hby hd) hl hv hr
theorem o_istoreN (X : Stand p l e R s m args below meth c T locs cells slots) (hx : p.tables.exec = Jvm.exec) (hby : c.code = A) {k : Fin 4} {v : Int32} {l' : Array Slot} (hd : decode A pc = .ok (.istore_n k, 1)) (n : Nat) (hn : pc + 1 = n) (hl : storeLocals L k.val (.int v) = some l') (hr : Steps p.tables e below (T.setTop (mkF m n l' S)) t) : Steps p.tables e below (T.setTop (mkF m pc L (.int v :: S))) t := by
  subst hn; exact XS.istoreN X.here hx rfl (hb hby hd) rfl hl hr
theorem o_lstoreN (X : Stand p l e R s m args below meth c T locs cells slots) (hx : p.tables.exec = Jvm.exec) (hby : c.code = A) {k : Fin 4} {v : Int64} {l' : Array Slot} (hd : decode A pc = .ok (.lstore_n k, 1)) (n : Nat) (hn : pc + 1 = n) (hl : storeLocals L k.val (.long v) = some l') (hr : Steps p.tables e below (T.setTop (mkF m n l' S)) t) : Steps p.tables e below (T.setTop (mkF m pc L (.long v :: S))) t := by
  subst hn; exact XS.lstoreN X.here hx rfl (hb hby hd) rfl hl hr
theorem o_astoreN (X : Stand p l e R s m args below meth c T locs cells slots) (hx : p.tables.exec = Jvm.exec) (hby : c.code = A) {k : Fin 4} {v : Value} {l' : Array Slot} (hd : decode A pc = .ok (.astore_n k, 1)) (n : Nat) (hn : pc + 1 = n) (hv : v.isRef = true) (hl : storeLocals L k.val v = some l') (hr : Steps p.tables e below (T.setTop (mkF m n l' S)) t) : Steps p.tables e below (T.setTop (mkF m pc L (v :: S))) t := by
  subst hn; exact XS.astoreN X.here hx rfl (hb hby hd) rfl hv hl hr
theorem o_iload (X : Stand p l e R s m args below meth c T locs cells slots) (hx : p.tables.exec = Jvm.exec) (hby : c.code = A) {k : Nat} {v : Int32} (hd : decode A pc = .ok (.iload k, 2)) (n : Nat) (hn : pc + 2 = n) (hl : L[k]? = some (.val (.int v))) (hr : Steps p.tables e below (T.setTop (mkF m n L (.int v :: S))) t) : Steps p.tables e below (T.setTop (mkF m pc L S)) t := by
  subst hn; exact XS.iload X.here hx rfl (hb hby hd) hl hr
theorem o_lload (X : Stand p l e R s m args below meth c T locs cells slots) (hx : p.tables.exec = Jvm.exec) (hby : c.code = A) {k : Nat} {v : Int64} (hd : decode A pc = .ok (.lload k, 2)) (n : Nat) (hn : pc + 2 = n) (hl : L[k]? = some (.val (.long v))) (hr : Steps p.tables e below (T.setTop (mkF m n L (.long v :: S))) t) : Steps p.tables e below (T.setTop (mkF m pc L S)) t := by
  subst hn; exact XS.lload X.here hx rfl (hb hby hd) hl hr
theorem o_aload (X : Stand p l e R s m args below meth c T locs cells slots) (hx : p.tables.exec = Jvm.exec) (hby : c.code = A) {k : Nat} {v : Value} (hd : decode A pc = .ok (.aload k, 2)) (n : Nat) (hn : pc + 2 = n) (hl : L[k]? = some (.val v)) (hv : v.isRef = true) (hr : Steps p.tables e below (T.setTop (mkF m n L (v :: S))) t) : Steps p.tables e below (T.setTop (mkF m pc L S)) t := by
  subst hn; exact XS.aload X.here hx rfl (hb hby hd) hl hv hr
theorem o_istore (X : Stand p l e R s m args below meth c T locs cells slots) (hx : p.tables.exec = Jvm.exec) (hby : c.code = A) {k : Nat} {v : Int32} {l' : Array Slot} (hd : decode A pc = .ok (.istore k, 2)) (n : Nat) (hn : pc + 2 = n) (hl : storeLocals L k (.int v) = some l') (hr : Steps p.tables e below (T.setTop (mkF m n l' S)) t) : Steps p.tables e below (T.setTop (mkF m pc L (.int v :: S))) t := by
  subst hn; exact XS.istore X.here hx rfl (hb hby hd) rfl hl hr
theorem o_lstore (X : Stand p l e R s m args below meth c T locs cells slots) (hx : p.tables.exec = Jvm.exec) (hby : c.code = A) {k : Nat} {v : Int64} {l' : Array Slot} (hd : decode A pc = .ok (.lstore k, 2)) (n : Nat) (hn : pc + 2 = n) (hl : storeLocals L k (.long v) = some l') (hr : Steps p.tables e below (T.setTop (mkF m n l' S)) t) : Steps p.tables e below (T.setTop (mkF m pc L (.long v :: S))) t := by
  subst hn; exact XS.lstore X.here hx rfl (hb hby hd) rfl hl hr
theorem o_astore (X : Stand p l e R s m args below meth c T locs cells slots) (hx : p.tables.exec = Jvm.exec) (hby : c.code = A) {k : Nat} {v : Value} {l' : Array Slot} (hd : decode A pc = .ok (.astore k, 2)) (n : Nat) (hn : pc + 2 = n) (hv : v.isRef = true) (hl : storeLocals L k v = some l') (hr : Steps p.tables e below (T.setTop (mkF m n l' S)) t) : Steps p.tables e below (T.setTop (mkF m pc L (v :: S))) t := by
  subst hn; exact XS.astore X.here hx rfl (hb hby hd) rfl hv hl hr
theorem o_iconst (X : Stand p l e R s m args below meth c T locs cells slots) (hx : p.tables.exec = Jvm.exec) (hby : c.code = A) {i : Int} (hd : decode A pc = .ok (.iconst i, 1)) (n : Nat) (hn : pc + 1 = n) {v : Int32} (hv : Int32.ofInt i = v) (hr : Steps p.tables e below (T.setTop (mkF m n L (.int v :: S))) t) : Steps p.tables e below (T.setTop (mkF m pc L S)) t := by
  subst hn; subst hv; exact XS.iconst X.here hx rfl (hb hby hd) hr
theorem o_bipush (X : Stand p l e R s m args below meth c T locs cells slots) (hx : p.tables.exec = Jvm.exec) (hby : c.code = A) {i : Int} (hd : decode A pc = .ok (.bipush i, 2)) (n : Nat) (hn : pc + 2 = n) {v : Int32} (hv : (Int8.ofInt i).toInt32 = v) (hr : Steps p.tables e below (T.setTop (mkF m n L (.int v :: S))) t) : Steps p.tables e below (T.setTop (mkF m pc L S)) t := by
  subst hn; subst hv; exact XS.bipush X.here hx rfl (hb hby hd) hr
theorem o_sipush (X : Stand p l e R s m args below meth c T locs cells slots) (hx : p.tables.exec = Jvm.exec) (hby : c.code = A) {i : Int} (hd : decode A pc = .ok (.sipush i, 3)) (n : Nat) (hn : pc + 3 = n) {v : Int32} (hv : (Int16.ofInt i).toInt32 = v) (hr : Steps p.tables e below (T.setTop (mkF m n L (.int v :: S))) t) : Steps p.tables e below (T.setTop (mkF m pc L S)) t := by
  subst hn; subst hv; exact XS.sipush X.here hx rfl (hb hby hd) hr
theorem o_lconst (X : Stand p l e R s m args below meth c T locs cells slots) (hx : p.tables.exec = Jvm.exec) (hby : c.code = A) {i : Fin 2} (hd : decode A pc = .ok (.lconst i, 1)) (n : Nat) (hn : pc + 1 = n) {v : Int64} (hv : Int64.ofNat i.val = v) (hr : Steps p.tables e below (T.setTop (mkF m n L (.long v :: S))) t) : Steps p.tables e below (T.setTop (mkF m pc L S)) t := by
  subst hn; subst hv; exact XS.lconst X.here hx rfl (hb hby hd) hr
theorem o_aconstNull (X : Stand p l e R s m args below meth c T locs cells slots) (hx : p.tables.exec = Jvm.exec) (hby : c.code = A) (hd : decode A pc = .ok (.aconst_null, 1)) (n : Nat) (hn : pc + 1 = n) (hr : Steps p.tables e below (T.setTop (mkF m n L (.null :: S))) t) : Steps p.tables e below (T.setTop (mkF m pc L S)) t := by
  subst hn; exact XS.aconstNull X.here hx rfl (hb hby hd) hr
theorem o_iadd (X : Stand p l e R s m args below meth c T locs cells slots) (hx : p.tables.exec = Jvm.exec) (hby : c.code = A) {x y : Int32} (hd : decode A pc = .ok (.iadd, 1)) (n : Nat) (hn : pc + 1 = n) (hr : Steps p.tables e below (T.setTop (mkF m n L (.int (x + y) :: S))) t) : Steps p.tables e below (T.setTop (mkF m pc L (.int y :: .int x :: S))) t := by
  subst hn; exact XS.iadd X.here hx rfl (hb hby hd) rfl hr
theorem o_ladd (X : Stand p l e R s m args below meth c T locs cells slots) (hx : p.tables.exec = Jvm.exec) (hby : c.code = A) {x y : Int64} (hd : decode A pc = .ok (.ladd, 1)) (n : Nat) (hn : pc + 1 = n) (hr : Steps p.tables e below (T.setTop (mkF m n L (.long (x + y) :: S))) t) : Steps p.tables e below (T.setTop (mkF m pc L (.long y :: .long x :: S))) t := by
  subst hn; exact XS.ladd X.here hx rfl (hb hby hd) rfl hr
theorem o_isub (X : Stand p l e R s m args below meth c T locs cells slots) (hx : p.tables.exec = Jvm.exec) (hby : c.code = A) {x y : Int32} (hd : decode A pc = .ok (.isub, 1)) (n : Nat) (hn : pc + 1 = n) (hr : Steps p.tables e below (T.setTop (mkF m n L (.int (x - y) :: S))) t) : Steps p.tables e below (T.setTop (mkF m pc L (.int y :: .int x :: S))) t := by
  subst hn; exact XS.isub X.here hx rfl (hb hby hd) rfl hr
theorem o_lsub (X : Stand p l e R s m args below meth c T locs cells slots) (hx : p.tables.exec = Jvm.exec) (hby : c.code = A) {x y : Int64} (hd : decode A pc = .ok (.lsub, 1)) (n : Nat) (hn : pc + 1 = n) (hr : Steps p.tables e below (T.setTop (mkF m n L (.long (x - y) :: S))) t) : Steps p.tables e below (T.setTop (mkF m pc L (.long y :: .long x :: S))) t := by
  subst hn; exact XS.lsub X.here hx rfl (hb hby hd) rfl hr
theorem o_imul (X : Stand p l e R s m args below meth c T locs cells slots) (hx : p.tables.exec = Jvm.exec) (hby : c.code = A) {x y : Int32} (hd : decode A pc = .ok (.imul, 1)) (n : Nat) (hn : pc + 1 = n) (hr : Steps p.tables e below (T.setTop (mkF m n L (.int (x * y) :: S))) t) : Steps p.tables e below (T.setTop (mkF m pc L (.int y :: .int x :: S))) t := by
  subst hn; exact XS.imul X.here hx rfl (hb hby hd) rfl hr
theorem o_lmul (X : Stand p l e R s m args below meth c T locs cells slots) (hx : p.tables.exec = Jvm.exec) (hby : c.code = A) {x y : Int64} (hd : decode A pc = .ok (.lmul, 1)) (n : Nat) (hn : pc + 1 = n) (hr : Steps p.tables e below (T.setTop (mkF m n L (.long (x * y) :: S))) t) : Steps p.tables e below (T.setTop (mkF m pc L (.long y :: .long x :: S))) t := by
  subst hn; exact XS.lmul X.here hx rfl (hb hby hd) rfl hr
theorem o_iand (X : Stand p l e R s m args below meth c T locs cells slots) (hx : p.tables.exec = Jvm.exec) (hby : c.code = A) {x y : Int32} (hd : decode A pc = .ok (.iand, 1)) (n : Nat) (hn : pc + 1 = n) (hr : Steps p.tables e below (T.setTop (mkF m n L (.int (x &&& y) :: S))) t) : Steps p.tables e below (T.setTop (mkF m pc L (.int y :: .int x :: S))) t := by
  subst hn; exact XS.iand X.here hx rfl (hb hby hd) rfl hr
theorem o_land (X : Stand p l e R s m args below meth c T locs cells slots) (hx : p.tables.exec = Jvm.exec) (hby : c.code = A) {x y : Int64} (hd : decode A pc = .ok (.land, 1)) (n : Nat) (hn : pc + 1 = n) (hr : Steps p.tables e below (T.setTop (mkF m n L (.long (x &&& y) :: S))) t) : Steps p.tables e below (T.setTop (mkF m pc L (.long y :: .long x :: S))) t := by
  subst hn; exact XS.land X.here hx rfl (hb hby hd) rfl hr
theorem o_ior (X : Stand p l e R s m args below meth c T locs cells slots) (hx : p.tables.exec = Jvm.exec) (hby : c.code = A) {x y : Int32} (hd : decode A pc = .ok (.ior, 1)) (n : Nat) (hn : pc + 1 = n) (hr : Steps p.tables e below (T.setTop (mkF m n L (.int (x ||| y) :: S))) t) : Steps p.tables e below (T.setTop (mkF m pc L (.int y :: .int x :: S))) t := by
  subst hn; exact XS.ior X.here hx rfl (hb hby hd) rfl hr
theorem o_lor (X : Stand p l e R s m args below meth c T locs cells slots) (hx : p.tables.exec = Jvm.exec) (hby : c.code = A) {x y : Int64} (hd : decode A pc = .ok (.lor, 1)) (n : Nat) (hn : pc + 1 = n) (hr : Steps p.tables e below (T.setTop (mkF m n L (.long (x ||| y) :: S))) t) : Steps p.tables e below (T.setTop (mkF m pc L (.long y :: .long x :: S))) t := by
  subst hn; exact XS.lor X.here hx rfl (hb hby hd) rfl hr
theorem o_ixor (X : Stand p l e R s m args below meth c T locs cells slots) (hx : p.tables.exec = Jvm.exec) (hby : c.code = A) {x y : Int32} (hd : decode A pc = .ok (.ixor, 1)) (n : Nat) (hn : pc + 1 = n) (hr : Steps p.tables e below (T.setTop (mkF m n L (.int (x ^^^ y) :: S))) t) : Steps p.tables e below (T.setTop (mkF m pc L (.int y :: .int x :: S))) t := by
  subst hn; exact XS.ixor X.here hx rfl (hb hby hd) rfl hr
theorem o_lxor (X : Stand p l e R s m args below meth c T locs cells slots) (hx : p.tables.exec = Jvm.exec) (hby : c.code = A) {x y : Int64} (hd : decode A pc = .ok (.lxor, 1)) (n : Nat) (hn : pc + 1 = n) (hr : Steps p.tables e below (T.setTop (mkF m n L (.long (x ^^^ y) :: S))) t) : Steps p.tables e below (T.setTop (mkF m pc L (.long y :: .long x :: S))) t := by
  subst hn; exact XS.lxor X.here hx rfl (hb hby hd) rfl hr
theorem o_idiv (X : Stand p l e R s m args below meth c T locs cells slots) (hx : p.tables.exec = Jvm.exec) (hby : c.code = A) {x y : Int32} (hd : decode A pc = .ok (.idiv, 1)) (n : Nat) (hn : pc + 1 = n) (hy : ¬ (y = 0)) (hr : Steps p.tables e below (T.setTop (mkF m n L (.int (x / y) :: S))) t) : Steps p.tables e below (T.setTop (mkF m pc L (.int y :: .int x :: S))) t := by
  subst hn; exact XS.idiv X.here hx rfl (hb hby hd) rfl hy hr
theorem o_ldiv (X : Stand p l e R s m args below meth c T locs cells slots) (hx : p.tables.exec = Jvm.exec) (hby : c.code = A) {x y : Int64} (hd : decode A pc = .ok (.ldiv, 1)) (n : Nat) (hn : pc + 1 = n) (hy : ¬ (y = 0)) (hr : Steps p.tables e below (T.setTop (mkF m n L (.long (x / y) :: S))) t) : Steps p.tables e below (T.setTop (mkF m pc L (.long y :: .long x :: S))) t := by
  subst hn; exact XS.ldiv X.here hx rfl (hb hby hd) rfl hy hr
theorem o_irem (X : Stand p l e R s m args below meth c T locs cells slots) (hx : p.tables.exec = Jvm.exec) (hby : c.code = A) {x y : Int32} (hd : decode A pc = .ok (.irem, 1)) (n : Nat) (hn : pc + 1 = n) (hy : ¬ (y = 0)) (hr : Steps p.tables e below (T.setTop (mkF m n L (.int (x % y) :: S))) t) : Steps p.tables e below (T.setTop (mkF m pc L (.int y :: .int x :: S))) t := by
  subst hn; exact XS.irem X.here hx rfl (hb hby hd) rfl hy (by rw [irem_eq_mod]; exact hr)
theorem o_lrem (X : Stand p l e R s m args below meth c T locs cells slots) (hx : p.tables.exec = Jvm.exec) (hby : c.code = A) {x y : Int64} (hd : decode A pc = .ok (.lrem, 1)) (n : Nat) (hn : pc + 1 = n) (hy : ¬ (y = 0)) (hr : Steps p.tables e below (T.setTop (mkF m n L (.long (x % y) :: S))) t) : Steps p.tables e below (T.setTop (mkF m pc L (.long y :: .long x :: S))) t := by
  subst hn; exact XS.lrem X.here hx rfl (hb hby hd) rfl hy (by rw [lrem_mod]; exact hr)
theorem o_ineg (X : Stand p l e R s m args below meth c T locs cells slots) (hx : p.tables.exec = Jvm.exec) (hby : c.code = A) {x : Int32} (hd : decode A pc = .ok (.ineg, 1)) (n : Nat) (hn : pc + 1 = n) (hr : Steps p.tables e below (T.setTop (mkF m n L (.int (-x) :: S))) t) : Steps p.tables e below (T.setTop (mkF m pc L (.int x :: S))) t := by
  subst hn; exact XS.ineg X.here hx rfl (hb hby hd) rfl hr
theorem o_lneg (X : Stand p l e R s m args below meth c T locs cells slots) (hx : p.tables.exec = Jvm.exec) (hby : c.code = A) {x : Int64} (hd : decode A pc = .ok (.lneg, 1)) (n : Nat) (hn : pc + 1 = n) (hr : Steps p.tables e below (T.setTop (mkF m n L (.long (-x) :: S))) t) : Steps p.tables e below (T.setTop (mkF m pc L (.long x :: S))) t := by
  subst hn; exact XS.lneg X.here hx rfl (hb hby hd) rfl hr
theorem o_i2l (X : Stand p l e R s m args below meth c T locs cells slots) (hx : p.tables.exec = Jvm.exec) (hby : c.code = A) {x : Int32} (hd : decode A pc = .ok (.i2l, 1)) (n : Nat) (hn : pc + 1 = n) (hr : Steps p.tables e below (T.setTop (mkF m n L (.long (x.toInt64) :: S))) t) : Steps p.tables e below (T.setTop (mkF m pc L (.int x :: S))) t := by
  subst hn; exact XS.i2l X.here hx rfl (hb hby hd) rfl hr
theorem o_l2i (X : Stand p l e R s m args below meth c T locs cells slots) (hx : p.tables.exec = Jvm.exec) (hby : c.code = A) {x : Int64} (hd : decode A pc = .ok (.l2i, 1)) (n : Nat) (hn : pc + 1 = n) (hr : Steps p.tables e below (T.setTop (mkF m n L (.int (x.toInt32) :: S))) t) : Steps p.tables e below (T.setTop (mkF m pc L (.long x :: S))) t := by
  subst hn; exact XS.l2i X.here hx rfl (hb hby hd) rfl hr
theorem o_i2b (X : Stand p l e R s m args below meth c T locs cells slots) (hx : p.tables.exec = Jvm.exec) (hby : c.code = A) {x : Int32} (hd : decode A pc = .ok (.i2b, 1)) (n : Nat) (hn : pc + 1 = n) (hr : Steps p.tables e below (T.setTop (mkF m n L (.int (x.toInt8.toInt32) :: S))) t) : Steps p.tables e below (T.setTop (mkF m pc L (.int x :: S))) t := by
  subst hn; exact XS.i2b X.here hx rfl (hb hby hd) rfl hr
theorem o_i2s (X : Stand p l e R s m args below meth c T locs cells slots) (hx : p.tables.exec = Jvm.exec) (hby : c.code = A) {x : Int32} (hd : decode A pc = .ok (.i2s, 1)) (n : Nat) (hn : pc + 1 = n) (hr : Steps p.tables e below (T.setTop (mkF m n L (.int (x.toInt16.toInt32) :: S))) t) : Steps p.tables e below (T.setTop (mkF m pc L (.int x :: S))) t := by
  subst hn; exact XS.i2s X.here hx rfl (hb hby hd) rfl hr
theorem o_i2c (X : Stand p l e R s m args below meth c T locs cells slots) (hx : p.tables.exec = Jvm.exec) (hby : c.code = A) {x : Int32} (hd : decode A pc = .ok (.i2c, 1)) (n : Nat) (hn : pc + 1 = n) (hr : Steps p.tables e below (T.setTop (mkF m n L (.int (x.toUInt32.toUInt16.toUInt32.toInt32) :: S))) t) : Steps p.tables e below (T.setTop (mkF m pc L (.int x :: S))) t := by
  subst hn; exact XS.i2c X.here hx rfl (hb hby hd) rfl hr
theorem o_ishl (X : Stand p l e R s m args below meth c T locs cells slots) (hx : p.tables.exec = Jvm.exec) (hby : c.code = A) {x y : Int32} (hd : decode A pc = .ok (.ishl, 1)) (n : Nat) (hn : pc + 1 = n) (hr : Steps p.tables e below (T.setTop (mkF m n L (.int (x <<< (y &&& 31)) :: S))) t) : Steps p.tables e below (T.setTop (mkF m pc L (.int y :: .int x :: S))) t := by
  subst hn; exact XS.ishl X.here hx rfl (hb hby hd) rfl hr
theorem o_ishr (X : Stand p l e R s m args below meth c T locs cells slots) (hx : p.tables.exec = Jvm.exec) (hby : c.code = A) {x y : Int32} (hd : decode A pc = .ok (.ishr, 1)) (n : Nat) (hn : pc + 1 = n) (hr : Steps p.tables e below (T.setTop (mkF m n L (.int (x >>> (y &&& 31)) :: S))) t) : Steps p.tables e below (T.setTop (mkF m pc L (.int y :: .int x :: S))) t := by
  subst hn; exact XS.ishr X.here hx rfl (hb hby hd) rfl hr
theorem o_iushr (X : Stand p l e R s m args below meth c T locs cells slots) (hx : p.tables.exec = Jvm.exec) (hby : c.code = A) {x y : Int32} (hd : decode A pc = .ok (.iushr, 1)) (n : Nat) (hn : pc + 1 = n) (hr : Steps p.tables e below (T.setTop (mkF m n L (.int ((x.toUInt32 >>> (y &&& 31).toUInt32).toInt32) :: S))) t) : Steps p.tables e below (T.setTop (mkF m pc L (.int y :: .int x :: S))) t := by
  subst hn; exact XS.iushr X.here hx rfl (hb hby hd) rfl hr
theorem o_lshl (X : Stand p l e R s m args below meth c T locs cells slots) (hx : p.tables.exec = Jvm.exec) (hby : c.code = A) {x : Int64} {y : Int32} (hd : decode A pc = .ok (.lshl, 1)) (n : Nat) (hn : pc + 1 = n) (hr : Steps p.tables e below (T.setTop (mkF m n L (.long (x <<< (y &&& 0x3f).toInt64) :: S))) t) : Steps p.tables e below (T.setTop (mkF m pc L (.int y :: .long x :: S))) t := by
  subst hn; exact XS.lshl X.here hx rfl (hb hby hd) rfl hr
theorem o_lshr (X : Stand p l e R s m args below meth c T locs cells slots) (hx : p.tables.exec = Jvm.exec) (hby : c.code = A) {x : Int64} {y : Int32} (hd : decode A pc = .ok (.lshr, 1)) (n : Nat) (hn : pc + 1 = n) (hr : Steps p.tables e below (T.setTop (mkF m n L (.long (x >>> (y &&& 0x3f).toInt64) :: S))) t) : Steps p.tables e below (T.setTop (mkF m pc L (.int y :: .long x :: S))) t := by
  subst hn; exact XS.lshr X.here hx rfl (hb hby hd) rfl hr
theorem o_lushr (X : Stand p l e R s m args below meth c T locs cells slots) (hx : p.tables.exec = Jvm.exec) (hby : c.code = A) {x : Int64} {y : Int32} (hd : decode A pc = .ok (.lushr, 1)) (n : Nat) (hn : pc + 1 = n) (hr : Steps p.tables e below (T.setTop (mkF m n L (.long ((x.toUInt64 >>> (y &&& 0x3f).toInt64.toUInt64).toInt64) :: S))) t) : Steps p.tables e below (T.setTop (mkF m pc L (.int y :: .long x :: S))) t := by
  subst hn; exact XS.lushr X.here hx rfl (hb hby hd) rfl hr
theorem o_lcmp (X : Stand p l e R s m args below meth c T locs cells slots) (hx : p.tables.exec = Jvm.exec) (hby : c.code = A) {x y : Int64} (hd : decode A pc = .ok (.lcmp, 1)) (n : Nat) (hn : pc + 1 = n) (hr : Steps p.tables e below (T.setTop (mkF m n L (.int (lcmpW x y) :: S))) t) : Steps p.tables e below (T.setTop (mkF m pc L (.long y :: .long x :: S))) t := by
  subst hn; exact XS.lcmp X.here hx rfl (hb hby hd) rfl hr
theorem o_dup (X : Stand p l e R s m args below meth c T locs cells slots) (hx : p.tables.exec = Jvm.exec) (hby : c.code = A) {x : Value} (hd : decode A pc = .ok (.dup, 1)) (n : Nat) (hn : pc + 1 = n) (hc : x.category = 1) (hr : Steps p.tables e below (T.setTop (mkF m n L (x :: x :: S))) t) : Steps p.tables e below (T.setTop (mkF m pc L (x :: S))) t := by
  subst hn; exact XS.dup X.here hx rfl (hb hby hd) rfl hc hr
theorem o_dupX1 (X : Stand p l e R s m args below meth c T locs cells slots) (hx : p.tables.exec = Jvm.exec) (hby : c.code = A) {x y : Value} (hd : decode A pc = .ok (.dup_x1, 1)) (n : Nat) (hn : pc + 1 = n) (hc : x.category = 1) (hc' : y.category = 1) (hr : Steps p.tables e below (T.setTop (mkF m n L (x :: y :: x :: S))) t) : Steps p.tables e below (T.setTop (mkF m pc L (x :: y :: S))) t := by
  subst hn; exact XT.dupX1 X.here hx rfl (hb hby hd) rfl hc hc' hr
theorem o_dup2 (X : Stand p l e R s m args below meth c T locs cells slots) (hx : p.tables.exec = Jvm.exec) (hby : c.code = A) {x y : Value} (hd : decode A pc = .ok (.dup2, 1)) (n : Nat) (hn : pc + 1 = n) (hc : x.category = 1) (hc' : y.category = 1) (hr : Steps p.tables e below (T.setTop (mkF m n L (x :: y :: x :: y :: S))) t) : Steps p.tables e below (T.setTop (mkF m pc L (x :: y :: S))) t := by
  subst hn; exact XT.dup2 X.here hx rfl (hb hby hd) rfl hc hc' hr
theorem o_iinc (X : Stand p l e R s m args below meth c T locs cells slots) (hx : p.tables.exec = Jvm.exec) (hby : c.code = A) {k : Nat} {cst : Int} {x : Int32} {l' : Array Slot} (hd : decode A pc = .ok (.iinc k cst, 3)) (n : Nat) (hn : pc + 3 = n) (hl : L[k]? = some (.val (.int x))) {i : Int32} (hi : Int32.ofInt cst = i) (hl' : storeLocals L k (.int (x + i)) = some l') (hr : Steps p.tables e below (T.setTop (mkF m n l' S)) t) : Steps p.tables e below (T.setTop (mkF m pc L S)) t := by
  subst hn; subst hi; exact XS.iinc X.here hx rfl (hb hby hd) hl hl' hr
theorem o_pop (X : Stand p l e R s m args below meth c T locs cells slots) (hx : p.tables.exec = Jvm.exec) (hby : c.code = A) {x : Value} (hd : decode A pc = .ok (.pop, 1)) (n : Nat) (hn : pc + 1 = n) (hc : x.category = 1) (hr : Steps p.tables e below (T.setTop (mkF m n L S)) t) : Steps p.tables e below (T.setTop (mkF m pc L (x :: S))) t := by
  subst hn; exact XT.pop X.here hx rfl (hb hby hd) rfl hc hr
theorem o_goto (X : Stand p l e R s m args below meth c T locs cells slots) (hx : p.tables.exec = Jvm.exec) (hby : c.code = A) {o : Int} (hd : decode A pc = .ok (.goto o, 3)) (n : Nat) (hn : (pc : Int) + o = (n : Int)) (hr : Steps p.tables e below (T.setTop (mkF m n L S)) t) : Steps p.tables e below (T.setTop (mkF m pc L S)) t :=
  XS.goto X.here hx rfl (pc0 := pc) (pc' := n) rfl (hb hby hd) (by omega) (by omega) hr
theorem o_ifY (X : Stand p l e R s m args below meth c T locs cells slots) (hx : p.tables.exec = Jvm.exec) (hby : c.code = A) {cd : ClassFile.Cond} {x : Int32} {o : Int} (hd : decode A pc = .ok (.ifCond cd o, 3)) (n : Nat) (hn : (pc : Int) + o = (n : Int)) (hc : if_icmp.holds cd x 0 = true) (hr : Steps p.tables e below (T.setTop (mkF m n L S)) t) : Steps p.tables e below (T.setTop (mkF m pc L (.int x :: S))) t :=
  XS.ifYes X.here hx rfl (pc0 := pc) (pc' := n) rfl (hb hby hd) rfl ((if0 _ _).trans hc) (by omega) (by omega) hr
theorem o_ifN (X : Stand p l e R s m args below meth c T locs cells slots) (hx : p.tables.exec = Jvm.exec) (hby : c.code = A) {cd : ClassFile.Cond} {x : Int32} {o : Int} (hd : decode A pc = .ok (.ifCond cd o, 3)) (n : Nat) (hn : pc + 3 = n) (hc : if_icmp.holds cd x 0 = false) (hr : Steps p.tables e below (T.setTop (mkF m n L S)) t) : Steps p.tables e below (T.setTop (mkF m pc L (.int x :: S))) t := by
  subst hn; exact XS.ifNo X.here hx rfl (hb hby hd) rfl ((if0 _ _).trans hc) hr
theorem o_icmpY (X : Stand p l e R s m args below meth c T locs cells slots) (hx : p.tables.exec = Jvm.exec) (hby : c.code = A) {cd : ClassFile.Cond} {x y : Int32} {o : Int} (hd : decode A pc = .ok (.if_icmp cd o, 3)) (n : Nat) (hn : (pc : Int) + o = (n : Int)) (hc : if_icmp.holds cd x y = true) (hr : Steps p.tables e below (T.setTop (mkF m n L S)) t) : Steps p.tables e below (T.setTop (mkF m pc L (.int y :: .int x :: S))) t :=
  XS.icmpYes X.here hx rfl (pc0 := pc) (pc' := n) rfl (hb hby hd) rfl hc (by omega) (by omega) hr
theorem o_icmpN (X : Stand p l e R s m args below meth c T locs cells slots) (hx : p.tables.exec = Jvm.exec) (hby : c.code = A) {cd : ClassFile.Cond} {x y : Int32} {o : Int} (hd : decode A pc = .ok (.if_icmp cd o, 3)) (n : Nat) (hn : pc + 3 = n) (hc : if_icmp.holds cd x y = false) (hr : Steps p.tables e below (T.setTop (mkF m n L S)) t) : Steps p.tables e below (T.setTop (mkF m pc L (.int y :: .int x :: S))) t := by
  subst hn; exact XS.icmpNo X.here hx rfl (hb hby hd) rfl hc hr
theorem o_ifnullY (X : Stand p l e R s m args below meth c T locs cells slots) (hx : p.tables.exec = Jvm.exec) (hby : c.code = A) {o : Int} (hd : decode A pc = .ok (.ifnull o, 3)) (n : Nat) (hn : (pc : Int) + o = (n : Int)) (hr : Steps p.tables e below (T.setTop (mkF m n L S)) t) : Steps p.tables e below (T.setTop (mkF m pc L (.null :: S))) t :=
  XS.ifnullYes X.here hx rfl (pc0 := pc) (pc' := n) rfl (hb hby hd) rfl (by omega) (by omega) hr
theorem o_ifnullN (X : Stand p l e R s m args below meth c T locs cells slots) (hx : p.tables.exec = Jvm.exec) (hby : c.code = A) {a : Addr} {o : Int} (hd : decode A pc = .ok (.ifnull o, 3)) (n : Nat) (hn : pc + 3 = n) (hr : Steps p.tables e below (T.setTop (mkF m n L S)) t) : Steps p.tables e below (T.setTop (mkF m pc L (.ref a :: S))) t := by
  subst hn; exact XS.ifnullNo X.here hx rfl (hb hby hd) rfl hr
theorem o_ifnonnullY (X : Stand p l e R s m args below meth c T locs cells slots) (hx : p.tables.exec = Jvm.exec) (hby : c.code = A) {a : Addr} {o : Int} (hd : decode A pc = .ok (.ifnonnull o, 3)) (n : Nat) (hn : (pc : Int) + o = (n : Int)) (hr : Steps p.tables e below (T.setTop (mkF m n L S)) t) : Steps p.tables e below (T.setTop (mkF m pc L (.ref a :: S))) t :=
  XS.ifnonnullYes X.here hx rfl (pc0 := pc) (pc' := n) rfl (hb hby hd) rfl (by omega) (by omega) hr
theorem o_ifnonnullN (X : Stand p l e R s m args below meth c T locs cells slots) (hx : p.tables.exec = Jvm.exec) (hby : c.code = A) {o : Int} (hd : decode A pc = .ok (.ifnonnull o, 3)) (n : Nat) (hn : pc + 3 = n) (hr : Steps p.tables e below (T.setTop (mkF m n L S)) t) : Steps p.tables e below (T.setTop (mkF m pc L (.null :: S))) t := by
  subst hn; exact XS.ifnonnullNo X.here hx rfl (hb hby hd) rfl hr
theorem o_acmp (X : Stand p l e R s m args below meth c T locs cells slots) (hx : p.tables.exec = Jvm.exec) (hby : c.code = A) {cd : ClassFile.ACond} {x y : Value} {o : Int} (hd : decode A pc = .ok (.if_acmp cd o, 3)) (n : Nat) {same : Bool} (h1 : x.isRef = true) (h2 : y.isRef = true) (hq : decide (x = y) = same) (ho : 0 ≤ (pc : Int) + o) (hp : n = if acV cd same = true then ((pc : Int) + o).toNat else pc + 3) (hr : Steps p.tables e below (T.setTop (mkF m n L S)) t) : Steps p.tables e below (T.setTop (mkF m pc L (y :: x :: S))) t :=
  Jvm.RoadKit.acmp X hx rfl h1 h2 (pc0 := pc) (pc' := n) rfl (hb hby hd) rfl hq ho hp hr
theorem o_ldcInt (X : Stand p l e R s m args below meth c T locs cells slots) (hx : p.tables.exec = Jvm.exec) (hby : c.code = A) {own : String} {i : Nat} {v : Int32} (hown : s.vm.findClass own = some m.cls) (hc : (Cond.constant own i v).before args s = true) (hd : decode A pc = .ok (.ldc i, 2)) (n : Nat) (hn : pc + 2 = n) (hr : Steps p.tables e below (T.setTop (mkF m n L (.int v :: S))) t) : Steps p.tables e below (T.setTop (mkF m pc L S)) t := by
  subst hn; exact X.ldcInt hx hown hc (g := mkF m pc L S) rfl (hb hby hd) t hr
theorem o_ldcwInt (X : Stand p l e R s m args below meth c T locs cells slots) (hx : p.tables.exec = Jvm.exec) (hby : c.code = A) {own : String} {i : Nat} {v : Int32} (hown : s.vm.findClass own = some m.cls) (hc : (Cond.constant own i v).before args s = true) (hd : decode A pc = .ok (.ldc_w i, 3)) (n : Nat) (hn : pc + 3 = n) (hr : Steps p.tables e below (T.setTop (mkF m n L (.int v :: S))) t) : Steps p.tables e below (T.setTop (mkF m pc L S)) t := by
  subst hn; exact X.ldcwInt hx hown hc (g := mkF m pc L S) rfl (hb hby hd) t hr
theorem o_ldc2Long (X : Stand p l e R s m args below meth c T locs cells slots) (hx : p.tables.exec = Jvm.exec) (hby : c.code = A) {own : String} {i : Nat} {v : Int64} (hown : s.vm.findClass own = some m.cls) (hc : (Cond.constantLong own i v).before args s = true) (hd : decode A pc = .ok (.ldc2_w i, 3)) (n : Nat) (hn : pc + 3 = n) (hr : Steps p.tables e below (T.setTop (mkF m n L (.long v :: S))) t) : Steps p.tables e below (T.setTop (mkF m pc L S)) t := by
  subst hn; exact X.ldc2Long hx hown hc (g := mkF m pc L S) rfl (hb hby hd) t hr
theorem o_b0 : narrow .boolean (.int (0 : Int32)) = .int (0 : Int32) := by decide
theorem o_b1 : narrow .boolean (.int (1 : Int32)) = .int (1 : Int32) := by decide
theorem o_b01 {z : Int32} (h : z = 0 ∨ z = 1) : narrow .boolean (.int z) = .int z := by rcases h with rfl | rfl <;> decide
theorem o_nf {z : Int32} (h : z = 0 ∨ z = 1) : narrow .boolean (.int z) = .int z ∧ fits .boolean (.int z) = true := by rcases h with rfl | rfl <;> decide
theorem o_retZ (X : Stand p l e R s m args below meth c T locs cells slots) (hx : p.tables.exec = Jvm.exec) {Ls : Array Slot} {z : Int32} {rest : List Value} (hret : meth.sig.returnType = some .boolean)
    (hd : decode c.code pc = .ok (.ireturn, 1)) (hz : z = 0 ∨ z = 1) {fs : List Frame} (hl : ∀ (f : JFrame) (acts : List Action), f.method = m → f.locked = none → f.entered = [] → (doReturn e (T.setTop f) acts (some (.int z))).1 = T.setFrames fs) :
    Steps p.tables e below (T.setTop (mkF m pc Ls (.int z :: rest))) (T.setFrames fs) :=
  retOut X hx hret (o_b01 hz) (Or.inl ⟨rfl, Or.inr (Or.inl rfl), z, rfl⟩) hd hl
theorem o_retI (X : Stand p l e R s m args below meth c T locs cells slots) (hx : p.tables.exec = Jvm.exec) {Ls : Array Slot} {z : Int32} {rest : List Value} (hret : meth.sig.returnType = some .int)
    (hd : decode c.code pc = .ok (.ireturn, 1)) {fs : List Frame} (hl : ∀ (f : JFrame) (acts : List Action), f.method = m → f.locked = none → f.entered = [] → (doReturn e (T.setTop f) acts (some (.int z))).1 = T.setFrames fs) :
    Steps p.tables e below (T.setTop (mkF m pc Ls (.int z :: rest))) (T.setFrames fs) :=
  retOut X hx hret rfl (Or.inl ⟨rfl, Or.inl rfl, z, rfl⟩) hd hl
theorem o_retB (X : Stand p l e R s m args below meth c T locs cells slots) (hx : p.tables.exec = Jvm.exec) {Ls : Array Slot} {z : Int32} {rest : List Value} (hret : meth.sig.returnType = some .byte)
    (hd : decode c.code pc = .ok (.ireturn, 1)) (hz : narrow .byte (.int z) = .int z) {fs : List Frame} (hl : ∀ (f : JFrame) (acts : List Action), f.method = m → f.locked = none → f.entered = [] → (doReturn e (T.setTop f) acts (some (.int z))).1 = T.setFrames fs) :
    Steps p.tables e below (T.setTop (mkF m pc Ls (.int z :: rest))) (T.setFrames fs) :=
  retOut X hx hret hz (Or.inl ⟨rfl, Or.inr (Or.inr (Or.inl rfl)), z, rfl⟩) hd hl
theorem o_retJ (X : Stand p l e R s m args below meth c T locs cells slots) (hx : p.tables.exec = Jvm.exec) {Ls : Array Slot} {z : Int64} {rest : List Value} (hret : meth.sig.returnType = some .long)
    (hd : decode c.code pc = .ok (.lreturn, 1)) {fs : List Frame} (hl : ∀ (f : JFrame) (acts : List Action), f.method = m → f.locked = none → f.entered = [] → (doReturn e (T.setTop f) acts (some (.long z))).1 = T.setFrames fs) :
    Steps p.tables e below (T.setTop (mkF m pc Ls (.long z :: rest))) (T.setFrames fs) :=
  retOut X hx hret rfl (Or.inr (Or.inl ⟨rfl, rfl, z, rfl⟩)) hd hl
theorem o_retR (X : Stand p l e R s m args below meth c T locs cells slots) (hx : p.tables.exec = Jvm.exec) {Ls : Array Slot} {w : Value} {ty : FieldType} {rest : List Value} (hret : meth.sig.returnType = some ty) (ht : ty.isReference = true)
    (hd : decode c.code pc = .ok (.areturn, 1)) (hw : w.isRef = true) (hn : narrow ty w = w) {fs : List Frame} (hl : ∀ (f : JFrame) (acts : List Action), f.method = m → f.locked = none → f.entered = [] → (doReturn e (T.setTop f) acts (some w)).1 = T.setFrames fs) :
    Steps p.tables e below (T.setTop (mkF m pc Ls (w :: rest))) (T.setFrames fs) :=
  retOut X hx hret hn (Or.inr (Or.inr (Or.inr (Or.inr ⟨rfl, ht, hw⟩)))) hd hl
end Own

theorem d1_0 : decode prog_21_method_2_code 0 = .ok (.lload_n 0, 1) := by decide +kernel
theorem d1_1 : decode prog_21_method_2_code 1 = .ok (.lload 4, 2) := by decide +kernel
theorem d1_3 : decode prog_21_method_2_code 3 = .ok (.lcmp, 1) := by decide +kernel
theorem d1_4 : decode prog_21_method_2_code 4 = .ok (.ifCond .eq 18, 3) := by decide +kernel
theorem d1_7 : decode prog_21_method_2_code 7 = .ok (.lload_n 0, 1) := by decide +kernel
theorem d1_8 : decode prog_21_method_2_code 8 = .ok (.lload 4, 2) := by decide +kernel
theorem d1_10 : decode prog_21_method_2_code 10 = .ok (.lcmp, 1) := by decide +kernel
theorem d1_11 : decode prog_21_method_2_code 11 = .ok (.ifCond .le 7, 3) := by decide +kernel
theorem d1_14 : decode prog_21_method_2_code 14 = .ok (.iconst 1, 1) := by decide +kernel
theorem d1_15 : decode prog_21_method_2_code 15 = .ok (.goto 19, 3) := by decide +kernel
theorem d1_18 : decode prog_21_method_2_code 18 = .ok (.iconst 0, 1) := by decide +kernel
theorem d1_19 : decode prog_21_method_2_code 19 = .ok (.goto 15, 3) := by decide +kernel
theorem d1_22 : decode prog_21_method_2_code 22 = .ok (.lload_n 2, 1) := by decide +kernel
theorem d1_23 : decode prog_21_method_2_code 23 = .ok (.lload 6, 2) := by decide +kernel
theorem d1_25 : decode prog_21_method_2_code 25 = .ok (.lcmp, 1) := by decide +kernel
theorem d1_26 : decode prog_21_method_2_code 26 = .ok (.ifCond .le 7, 3) := by decide +kernel
theorem d1_29 : decode prog_21_method_2_code 29 = .ok (.iconst 1, 1) := by decide +kernel
theorem d1_30 : decode prog_21_method_2_code 30 = .ok (.goto 4, 3) := by decide +kernel
theorem d1_33 : decode prog_21_method_2_code 33 = .ok (.iconst 0, 1) := by decide +kernel
theorem d1_34 : decode prog_21_method_2_code 34 = .ok (.ireturn, 1) := by decide +kernel
theorem pn_1 : plainName "org/shardwright/model/DocumentVersion" = true := by first | (simp [plainName, overriddenIn]; done) | decide +kernel
theorem ef_1 (m : MethodId) (x0 : Int64) (x1 : Int64) (x2 : Int64) (x3 : Int64) : entryFrame m #[(.long x0), (.long x1), (.long x2), (.long x3)] 8 = mkF m 0 #[.val (.long x0), .second, .val (.long x1), .second, .val (.long x2), .second, .val (.long x3), .second] [] := by first | (simp [entryFrame, mkF, argsToLocals, Value.category]; done) | rfl
def F1 (q0 : Int64) (q1 : Int64) (q2 : Int64) (q3 : Int64) : Int32 := let v3 : Int32 := (if q0 = q2 then (if q3 < q1 then (1 : Int32) else (0 : Int32)) else (if q2 < q0 then (1 : Int32) else (0 : Int32))); v3
def Q1 (Z : State) (q0 : Int64) (q1 : Int64) (q2 : Int64) (q3 : Int64) (h0 : Heap) (n0 : Nat) (v : Option Value) (h : Heap) (L : List Loc) : Prop := v = some (.int (F1 q0 q1 q2 q3)) ∧ Fr n0 L ∧ h = h0
set_option maxRecDepth 65536 in
set_option maxHeartbeats 40000000 in
theorem rm1 (l : Launch) (Z : State) (aw : Array Value) (hw : ∀ d ∈ tables_1, d.before aw Z = true) (ws : List Jvm.Cond) (q0 : Int64) (q1 : Int64) (q2 : Int64) (q3 : Int64) (h0 : Heap) (n0 : Nat) (Z0 : n0 ≤ h0.size) :
    MetFree l (⟨"org/shardwright/model/DocumentVersion", "isLater", "(JJJJ)Z"⟩ : MethodName) (head1 (Jvm.Cond.code (⟨"org/shardwright/model/DocumentVersion", "isLater", "(JJJJ)Z"⟩ : MethodName) prog_21_method_2_code 8 (some .boolean) :: ws) ({ frames := 0, cells := 0, slots := 0, locals := 0 } : Room)) (fun a U => a = #[(.long q0), (.long q1), (.long q2), (.long q3)] ∧ Z.Warmed39 U.vm ∧ U.heap = h0) (fun _ _ _ _ _ => True) (fun _ U o U' => ∃ v L, o = .returned v ∧ Q1 Z q0 q1 q2 q3 h0 n0 v U'.heap L ∧ FrameEnd U o U' L ({ frames := 0, cells := 0, slots := 0, locals := 0 } : Room).cells ({ frames := 0, cells := 0, slots := 0, locals := 0 } : Room).slots) := by
  refine MetFree.of_bodySF (plainFor_of_name pn_1) hisR ?_
  intro p e s m args below meth c s₁ Bd hml0 hP hK
  obtain ⟨rfl, hZ, hh⟩ := hP
  have hx := Bd.exec
  have hby := Bd.bytes
  have hml : c.maxLocals = 8 := hml0
  have hown : s.vm.findClass "org/shardwright/model/DocumentVersion" = some m.cls := findClass_of_methodNamed Bd.named
  have hnm := (name_of_methodNamed Bd.named Bd.method).1
  have X0 : Stand p l e ({ frames := 0, cells := 0, slots := 0, locals := 0 } : Room) s m #[(.long q0), (.long q1), (.long q2), (.long q3)] below meth c s₁ [] 0 0 := Stand.of_body Bd
  have e0 : s₁.heap = h0 := by rw [← hh, Bd.state]; rfl
  have N0 := Fr.nil n0
  obtain ⟨A0, hA0⟩ : ∃ A0, A0 = s₁.setTop (entryFrame m #[(.long q0), (.long q1), (.long q2), (.long q3)] 8) := ⟨_, rfl⟩
  have go0 : Go p e below A0 (s₁.setTop (mkF m 0 #[.val (.long q0), .second, .val (.long q1), .second, .val (.long q2), .second, .val (.long q3), .second] [])) := fun t k => by rw [hA0]; exact castTop (ef_1 m q0 q1 q2 q3) k
  have go1 : Go p e below A0 (s₁.setTop (mkF m 4 #[.val (.long q0), .second, .val (.long q1), .second, .val (.long q2), .second, .val (.long q3), .second] [(.int (lcmpW q0 q2))])) := by
    intro t k
    refine go0 t ?_
    refine o_lloadN X0 hx hby d1_0 1 rfl rfl ?_
    refine o_lload X0 hx hby d1_1 3 rfl rfl ?_
    refine o_lcmp X0 hx hby d1_3 4 rfl ?_
    exact k
  obtain ⟨v3, hv3, go10⟩ : ∃ (v3 : Int32), v3 = (if q0 = q2 then (if q3 < q1 then (1 : Int32) else (0 : Int32)) else (if q2 < q0 then (1 : Int32) else (0 : Int32))) ∧ Go p e below A0 (s₁.setTop (mkF m 34 #[.val (.long q0), .second, .val (.long q1), .second, .val (.long q2), .second, .val (.long q3), .second] [(.int v3)])) := by
    by_cases hc4_1 : q0 = q2
    · have go2 : Go p e below A0 (s₁.setTop (mkF m 26 #[.val (.long q0), .second, .val (.long q1), .second, .val (.long q2), .second, .val (.long q3), .second] [(.int (lcmpW q1 q3))])) := by
        intro t k
        refine go1 t ?_
        refine o_ifY X0 hx hby d1_4 22 rfl (teq ((lw_eq q0 q2).mpr hc4_1)).1 ?_
        refine o_lloadN X0 hx hby d1_22 23 rfl rfl ?_
        refine o_lload X0 hx hby d1_23 25 rfl rfl ?_
        refine o_lcmp X0 hx hby d1_25 26 rfl ?_
        exact k
      obtain ⟨v1, hv1, go5⟩ : ∃ (v1 : Int32), v1 = (if q3 < q1 then (1 : Int32) else (0 : Int32)) ∧ Go p e below A0 (s₁.setTop (mkF m 34 #[.val (.long q0), .second, .val (.long q1), .second, .val (.long q2), .second, .val (.long q3), .second] [(.int v1)])) := by
        by_cases hc26_2 : q3 < q1
        · have go3 : Go p e below A0 (s₁.setTop (mkF m 34 #[.val (.long q0), .second, .val (.long q1), .second, .val (.long q2), .second, .val (.long q3), .second] [(.int (1 : Int32))])) := by
            intro t k
            refine go2 t ?_
            refine o_ifN X0 hx hby d1_26 29 rfl (tlt ((lw_gt q1 q3).mpr hc26_2)).2.2.2 ?_
            refine o_iconst X0 hx hby d1_29 30 rfl (v := (1 : Int32)) rfl ?_
            refine o_goto X0 hx hby d1_30 34 rfl ?_
            exact k
          exact ⟨(1 : Int32), (if_pos hc26_2).symm, go3⟩
        · have go4 : Go p e below A0 (s₁.setTop (mkF m 34 #[.val (.long q0), .second, .val (.long q1), .second, .val (.long q2), .second, .val (.long q3), .second] [(.int (0 : Int32))])) := by
            intro t k
            refine go2 t ?_
            refine o_ifY X0 hx hby d1_26 33 rfl (flt (fun q => hc26_2 ((lw_gt q1 q3).mp q))).2.2.2 ?_
            refine o_iconst X0 hx hby d1_33 34 rfl (v := (0 : Int32)) rfl ?_
            exact k
          exact ⟨(0 : Int32), (if_neg hc26_2).symm, go4⟩
      subst hv1
      exact ⟨(if q3 < q1 then (1 : Int32) else (0 : Int32)), (if_pos hc4_1).symm, go5⟩
    · have go6 : Go p e below A0 (s₁.setTop (mkF m 11 #[.val (.long q0), .second, .val (.long q1), .second, .val (.long q2), .second, .val (.long q3), .second] [(.int (lcmpW q0 q2))])) := by
        intro t k
        refine go1 t ?_
        refine o_ifN X0 hx hby d1_4 7 rfl (feq (fun q => hc4_1 ((lw_eq q0 q2).mp q))).1 ?_
        refine o_lloadN X0 hx hby d1_7 8 rfl rfl ?_
        refine o_lload X0 hx hby d1_8 10 rfl rfl ?_
        refine o_lcmp X0 hx hby d1_10 11 rfl ?_
        exact k
      obtain ⟨v2, hv2, go9⟩ : ∃ (v2 : Int32), v2 = (if q2 < q0 then (1 : Int32) else (0 : Int32)) ∧ Go p e below A0 (s₁.setTop (mkF m 34 #[.val (.long q0), .second, .val (.long q1), .second, .val (.long q2), .second, .val (.long q3), .second] [(.int v2)])) := by
        by_cases hc11_3 : q2 < q0
        · have go7 : Go p e below A0 (s₁.setTop (mkF m 34 #[.val (.long q0), .second, .val (.long q1), .second, .val (.long q2), .second, .val (.long q3), .second] [(.int (1 : Int32))])) := by
            intro t k
            refine go6 t ?_
            refine o_ifN X0 hx hby d1_11 14 rfl (tlt ((lw_gt q0 q2).mpr hc11_3)).2.2.2 ?_
            refine o_iconst X0 hx hby d1_14 15 rfl (v := (1 : Int32)) rfl ?_
            refine o_goto X0 hx hby d1_15 34 rfl ?_
            exact k
          exact ⟨(1 : Int32), (if_pos hc11_3).symm, go7⟩
        · have go8 : Go p e below A0 (s₁.setTop (mkF m 34 #[.val (.long q0), .second, .val (.long q1), .second, .val (.long q2), .second, .val (.long q3), .second] [(.int (0 : Int32))])) := by
            intro t k
            refine go6 t ?_
            refine o_ifY X0 hx hby d1_11 18 rfl (flt (fun q => hc11_3 ((lw_gt q0 q2).mp q))).2.2.2 ?_
            refine o_iconst X0 hx hby d1_18 19 rfl (v := (0 : Int32)) rfl ?_
            refine o_goto X0 hx hby d1_19 34 rfl ?_
            exact k
          exact ⟨(0 : Int32), (if_neg hc11_3).symm, go8⟩
      subst hv2
      exact ⟨(if q2 < q0 then (1 : Int32) else (0 : Int32)), (if_neg hc4_1).symm, go9⟩
  have hF : v3 = F1 q0 q1 q2 q3 := by subst hv3; rfl
  subst hA0
  obtain ⟨fs, hr, hrun, hended, hW, hsame⟩ := X0.leave (v := some (.int v3)) (fun h => by rw [Bd.returns] at h; cases h)
  refine ⟨_, _, go10 _ (o_retZ X0 hx Bd.returns (hb hby d1_34) (by rw [hv3]; repeat' (first | exact Or.inl rfl | exact Or.inr rfl | split)) hr), hrun, hended, _, _, rfl, ?_, ⟨_, rfl⟩, hW, hsame.mono (by decide) (by decide)⟩
  show Q1 Z q0 q1 q2 q3 h0 n0 _ s₁.heap _
  rw [e0]
  exact ⟨congrArg (fun z => some (Value.int z)) hF, N0, rfl⟩
theorem own_tri (a b : Int64) : (a < b ∧ ¬ b < a ∧ ¬ a = b ∧ ¬ b = a) ∨ (a = b) ∨ (b < a ∧ ¬ a < b ∧ ¬ a = b ∧ ¬ b = a) := by
  simp only [Int64.lt_iff_toInt_lt, ← Int64.toInt_inj]; omega
theorem pn_0 : plainName "org/shardwright/model/DocumentVersionIsLaterPinLaw" = true := by first | (simp [plainName, overriddenIn]; done) | decide +kernel
theorem pd_2 : parseMethodDescriptor "(JJJJ)Z" = some ⟨[.long, .long, .long, .long], some .boolean⟩ := by decide +kernel
theorem ef_0 (m : MethodId) (x0 : Int64) (x1 : Int64) (x2 : Int64) (x3 : Int64) (x4 : Int32) : entryFrame m #[(.long x0), (.long x1), (.long x2), (.long x3), (.int x4)] maxLocals = mkF m 0 #[.val (.long x0), .second, .val (.long x1), .second, .val (.long x2), .second, .val (.long x3), .second, .val (.int x4), .unset, .unset, .unset, .unset, .unset, .unset, .unset, .unset, .unset] [] := by first | (simp [entryFrame, mkF, argsToLocals, Value.category, maxLocals]; done) | rfl
set_option maxRecDepth 65536 in
set_option maxHeartbeats 4000000 in
theorem pl_0_0 (q0 : Int64) (q1 : Int64) (q2 : Int64) (q3 : Int64) (p4 : Int32) (v1 : Int64) (v2 : Int64) (v3 : Int32) (v4 : Int32) (v7 : Int32) (v10 : Int32) (v12 : Int32) (v22 : Int32) (hv1 : v1 = (if (p4 &&& (1 : Int32)) = (0 : Int32) then q2 else q0)) (hv2 : v2 = (if (p4 &&& (2 : Int32)) = (0 : Int32) then q3 else q1)) (hv3 : v3 = (F1 q0 q1 v1 v2)) (hv4 : v4 = (F1 v1 v2 q0 q1)) (hv7 : v7 = (if v1 < q0 then (1 : Int32) else (if q0 = v1 then (if v2 < q1 then (1 : Int32) else (0 : Int32)) else (0 : Int32)))) (hv10 : v10 = (if q0 < v1 then (1 : Int32) else (if v1 = q0 then (if q1 < v2 then (1 : Int32) else (0 : Int32)) else (0 : Int32)))) (hv12 : v12 = (if q0 = v1 then (if q1 = v2 then (1 : Int32) else (0 : Int32)) else (0 : Int32))) (hv22 : v22 = (if v3 = v7 then (if v4 = v10 then (if v3 = (0 : Int32) then (if v3 = (0 : Int32) then (if v4 = (0 : Int32) then (if v12 = (0 : Int32) then (0 : Int32) else (1 : Int32)) else (1 : Int32)) else (1 : Int32)) else (if v4 = (0 : Int32) then (if v3 = (0 : Int32) then (if v4 = (0 : Int32) then (if v12 = (0 : Int32) then (0 : Int32) else (1 : Int32)) else (1 : Int32)) else (1 : Int32)) else (0 : Int32))) else (0 : Int32)) else (0 : Int32))) : v22 = (1 : Int32) := by
  clear hv1 hv2
  subst hv22 hv12 hv10 hv7 hv4 hv3
  unfold F1
  have n0 : ∀ x : Int64, ¬ x < x := fun x => by rw [Int64.lt_iff_toInt_lt]; omega
  rcases own_tri q0 v1 with ⟨a, b, c, d⟩ | rfl | ⟨a, b, c, d⟩ <;> rcases own_tri q1 v2 with ⟨a', b', c', d'⟩ | rfl | ⟨a', b', c', d'⟩ <;> simp [*]
def Q0 (Z : State) (q0 : Int64) (q1 : Int64) (q2 : Int64) (q3 : Int64) (p4 : Int32) (h0 : Heap) (n0 : Nat) (v : Option Value) (h : Heap) (L : List Loc) : Prop := v = some (.int 1) ∧ Fr n0 L
set_option maxRecDepth 65536 in
set_option maxHeartbeats 40000000 in
theorem rm0 (l : Launch) (Z : State) (aw : Array Value) (hw : ∀ d ∈ tables_1, d.before aw Z = true) (ws : List Jvm.Cond) (q0 : Int64) (q1 : Int64) (q2 : Int64) (q3 : Int64) (p4 : Int32) (h0 : Heap) (n0 : Nat) (Z0 : n0 ≤ h0.size) :
    MetFree l x (head1 (Jvm.Cond.code x code maxLocals ret :: ws) room_1) (fun a U => a = #[(.long q0), (.long q1), (.long q2), (.long q3), (.int p4)] ∧ Z.Warmed39 U.vm ∧ U.heap = h0) (fun _ _ _ _ _ => True) (fun _ U o U' => ∃ v L, o = .returned v ∧ Q0 Z q0 q1 q2 q3 p4 h0 n0 v U'.heap L ∧ FrameEnd U o U' L room_1.cells room_1.slots) := by
  refine MetFree.of_bodySF (plainFor_of_name pn_0) hisR ?_
  intro p e s m args below meth c s₁ Bd hml0 hP hK
  obtain ⟨rfl, hZ, hh⟩ := hP
  have hx := Bd.exec
  have hby := Bd.bytes
  have hml : c.maxLocals = 18 := hml0
  have hown : s.vm.findClass "org/shardwright/model/DocumentVersionIsLaterPinLaw" = some m.cls := findClass_of_methodNamed Bd.named
  have hnm := (name_of_methodNamed Bd.named Bd.method).1
  have X0 : Stand p l e room_1 s m #[(.long q0), (.long q1), (.long q2), (.long q3), (.int p4)] below meth c s₁ [] 0 0 := Stand.of_body Bd
  have e0 : s₁.heap = h0 := by rw [← hh, Bd.state]; rfl
  have N0 := Fr.nil n0
  obtain ⟨A0, hA0⟩ : ∃ A0, A0 = s₁.setTop (entryFrame m #[(.long q0), (.long q1), (.long q2), (.long q3), (.int p4)] maxLocals) := ⟨_, rfl⟩
  have go0 : Go p e below A0 (s₁.setTop (mkF m 0 #[.val (.long q0), .second, .val (.long q1), .second, .val (.long q2), .second, .val (.long q3), .second, .val (.int p4), .unset, .unset, .unset, .unset, .unset, .unset, .unset, .unset, .unset] [])) := fun t k => by rw [hA0]; exact castTop (ef_0 m q0 q1 q2 q3 p4) k
  have go1 : Go p e below A0 (s₁.setTop (mkF m 4 #[.val (.long q0), .second, .val (.long q1), .second, .val (.long q2), .second, .val (.long q3), .second, .val (.int p4), .unset, .unset, .unset, .unset, .unset, .unset, .unset, .unset, .unset] [(.int (p4 &&& (1 : Int32)))])) := by
    intro t k
    refine go0 t ?_
    refine o_iload X0 hx hby at_0 2 rfl rfl ?_
    refine o_iconst X0 hx hby at_2 3 rfl (v := (1 : Int32)) rfl ?_
    refine o_iand X0 hx hby at_3 4 rfl ?_
    exact k
  obtain ⟨v1, hv1, go4⟩ : ∃ (v1 : Int64), v1 = (if (p4 &&& (1 : Int32)) = (0 : Int32) then q2 else q0) ∧ Go p e below A0 (s₁.setTop (mkF m 13 #[.val (.long q0), .second, .val (.long q1), .second, .val (.long q2), .second, .val (.long q3), .second, .val (.int p4), .unset, .unset, .unset, .unset, .unset, .unset, .unset, .unset, .unset] [(.long v1)])) := by
    by_cases hc4_1 : (p4 &&& (1 : Int32)) = (0 : Int32)
    · have go2 : Go p e below A0 (s₁.setTop (mkF m 13 #[.val (.long q0), .second, .val (.long q1), .second, .val (.long q2), .second, .val (.long q3), .second, .val (.int p4), .unset, .unset, .unset, .unset, .unset, .unset, .unset, .unset, .unset] [(.long q2)])) := by
        intro t k
        refine go1 t ?_
        refine o_ifY X0 hx hby at_4 11 rfl (teq hc4_1).1 ?_
        refine o_lload X0 hx hby at_11 13 rfl rfl ?_
        exact k
      exact ⟨q2, (if_pos hc4_1).symm, go2⟩
    · have go3 : Go p e below A0 (s₁.setTop (mkF m 13 #[.val (.long q0), .second, .val (.long q1), .second, .val (.long q2), .second, .val (.long q3), .second, .val (.int p4), .unset, .unset, .unset, .unset, .unset, .unset, .unset, .unset, .unset] [(.long q0)])) := by
        intro t k
        refine go1 t ?_
        refine o_ifN X0 hx hby at_4 7 rfl (feq hc4_1).1 ?_
        refine o_lloadN X0 hx hby at_7 8 rfl rfl ?_
        refine o_goto X0 hx hby at_8 13 rfl ?_
        exact k
      exact ⟨q0, (if_neg hc4_1).symm, go3⟩
  have go5 : Go p e below A0 (s₁.setTop (mkF m 15 #[.val (.long q0), .second, .val (.long q1), .second, .val (.long q2), .second, .val (.long q3), .second, .val (.int p4), .val (.long v1), .second, .unset, .unset, .unset, .unset, .unset, .unset, .unset] [])) := by
    intro t k
    refine go4 t ?_
    refine o_lstore X0 hx hby at_13 15 rfl (l' := #[.val (.long q0), .second, .val (.long q1), .second, .val (.long q2), .second, .val (.long q3), .second, .val (.int p4), .val (.long v1), .second, .unset, .unset, .unset, .unset, .unset, .unset, .unset]) rfl ?_
    exact k
  have go6 : Go p e below A0 (s₁.setTop (mkF m 19 #[.val (.long q0), .second, .val (.long q1), .second, .val (.long q2), .second, .val (.long q3), .second, .val (.int p4), .val (.long v1), .second, .unset, .unset, .unset, .unset, .unset, .unset, .unset] [(.int (p4 &&& (2 : Int32)))])) := by
    intro t k
    refine go5 t ?_
    refine o_iload X0 hx hby at_15 17 rfl rfl ?_
    refine o_iconst X0 hx hby at_17 18 rfl (v := (2 : Int32)) rfl ?_
    refine o_iand X0 hx hby at_18 19 rfl ?_
    exact k
  obtain ⟨v2, hv2, go9⟩ : ∃ (v2 : Int64), v2 = (if (p4 &&& (2 : Int32)) = (0 : Int32) then q3 else q1) ∧ Go p e below A0 (s₁.setTop (mkF m 28 #[.val (.long q0), .second, .val (.long q1), .second, .val (.long q2), .second, .val (.long q3), .second, .val (.int p4), .val (.long v1), .second, .unset, .unset, .unset, .unset, .unset, .unset, .unset] [(.long v2)])) := by
    by_cases hc19_2 : (p4 &&& (2 : Int32)) = (0 : Int32)
    · have go7 : Go p e below A0 (s₁.setTop (mkF m 28 #[.val (.long q0), .second, .val (.long q1), .second, .val (.long q2), .second, .val (.long q3), .second, .val (.int p4), .val (.long v1), .second, .unset, .unset, .unset, .unset, .unset, .unset, .unset] [(.long q3)])) := by
        intro t k
        refine go6 t ?_
        refine o_ifY X0 hx hby at_19 26 rfl (teq hc19_2).1 ?_
        refine o_lload X0 hx hby at_26 28 rfl rfl ?_
        exact k
      exact ⟨q3, (if_pos hc19_2).symm, go7⟩
    · have go8 : Go p e below A0 (s₁.setTop (mkF m 28 #[.val (.long q0), .second, .val (.long q1), .second, .val (.long q2), .second, .val (.long q3), .second, .val (.int p4), .val (.long v1), .second, .unset, .unset, .unset, .unset, .unset, .unset, .unset] [(.long q1)])) := by
        intro t k
        refine go6 t ?_
        refine o_ifN X0 hx hby at_19 22 rfl (feq hc19_2).1 ?_
        refine o_lloadN X0 hx hby at_22 23 rfl rfl ?_
        refine o_goto X0 hx hby at_23 28 rfl ?_
        exact k
      exact ⟨q1, (if_neg hc19_2).symm, go8⟩
  have go10 : Go p e below A0 (s₁.setTop (mkF m 30 #[.val (.long q0), .second, .val (.long q1), .second, .val (.long q2), .second, .val (.long q3), .second, .val (.int p4), .val (.long v1), .second, .val (.long v2), .second, .unset, .unset, .unset, .unset, .unset] [])) := by
    intro t k
    refine go9 t ?_
    refine o_lstore X0 hx hby at_28 30 rfl (l' := #[.val (.long q0), .second, .val (.long q1), .second, .val (.long q2), .second, .val (.long q3), .second, .val (.int p4), .val (.long v1), .second, .val (.long v2), .second, .unset, .unset, .unset, .unset, .unset]) rfl ?_
    exact k
  have go11 : Go p e below A0 (s₁.setTop (mkF m 36 #[.val (.long q0), .second, .val (.long q1), .second, .val (.long q2), .second, .val (.long q3), .second, .val (.int p4), .val (.long v1), .second, .val (.long v2), .second, .unset, .unset, .unset, .unset, .unset] [(.long v2), (.long v1), (.long q1), (.long q0)])) := by
    intro t k
    refine go10 t ?_
    refine o_lloadN X0 hx hby at_30 31 rfl rfl ?_
    refine o_lloadN X0 hx hby at_31 32 rfl rfl ?_
    refine o_lload X0 hx hby at_32 34 rfl rfl ?_
    refine o_lload X0 hx hby at_34 36 rfl rfl ?_
    exact k
  obtain ⟨_, _, ⟨T3, L3, k3, n3⟩, -, X3, ⟨Lc3, hQ3, l3, y3, z3⟩, st3⟩ := Jvm.LawKit.callS X0 hx (y := (⟨"org/shardwright/model/DocumentVersion", "isLater", "(JJJJ)Z"⟩ : MethodName)) hown (mvT hZ (hw _ (List.mem_of_getElem? (i := 0) rfl))) (mvT hZ (hw _ (List.mem_of_getElem? (i := 1) rfl))) (mvT hZ (hw _ (List.mem_of_getElem? (i := 2) rfl))) (mvT hZ (hw _ (List.mem_of_getElem? (i := 3) rfl))) (by decide) (backOf (W := 0) (rm1 l Z aw hw [] q0 q1 v1 v2 h0 n0 Z0) hZ (hw _ (List.mem_of_getElem? (i := 3) rfl)) (hw _ (List.mem_of_getElem? (i := 2) rfl)) (by decide) (by decide)) (g := (mkF m 36 #[.val (.long q0), .second, .val (.long q1), .second, .val (.long q2), .second, .val (.long q3), .second, .val (.int p4), .val (.long v1), .second, .val (.long v2), .second, .unset, .unset, .unset, .unset, .unset] [(.long v2), (.long v1), (.long q1), (.long q0)])) rfl (by rw [hml]; rfl) (argsL := [(.long q0), (.long q1), (.long v1), (.long v2)]) (rest := []) (lenOf pd_2 rfl) rfl (by show 2 * 0 + _ ≤ _; exact Nat.le_of_eq rfl) (hb hby at_36) (fun _ _ => ⟨rfl, e0, (by decide : 0 + 0 ≤ _), (by decide : 0 + 0 ≤ _)⟩)
  dsimp only [Pt.U, Pt.locs, Pt.cells, Pt.slots] at X3 l3 y3 z3 st3 hQ3
  subst l3 y3 z3
  obtain ⟨rfl, N3q, e3⟩ := hQ3
  have N3 := Fr.app N0 N3q
  have go12 : Go p e below A0 (T3.setTop (mkF m 39 #[.val (.long q0), .second, .val (.long q1), .second, .val (.long q2), .second, .val (.long q3), .second, .val (.int p4), .val (.long v1), .second, .val (.long v2), .second, .unset, .unset, .unset, .unset, .unset] [(.int (F1 q0 q1 v1 v2))])) := by
    intro t k
    refine go11 t ?_
    refine st3 _ ?_
    show Steps p.tables e below (T3.setTop (mkF m 39 #[.val (.long q0), .second, .val (.long q1), .second, .val (.long q2), .second, .val (.long q3), .second, .val (.int p4), .val (.long v1), .second, .val (.long v2), .second, .unset, .unset, .unset, .unset, .unset] [(.int (F1 q0 q1 v1 v2))])) _
    exact k
  obtain ⟨v3, hv3, go13⟩ : ∃ v3 : Int32, v3 = (F1 q0 q1 v1 v2) ∧ Go p e below A0 (T3.setTop (mkF m 39 #[.val (.long q0), .second, .val (.long q1), .second, .val (.long q2), .second, .val (.long q3), .second, .val (.int p4), .val (.long v1), .second, .val (.long v2), .second, .unset, .unset, .unset, .unset, .unset] [(.int v3)])) := ⟨_, rfl, go12⟩
  have go14 : Go p e below A0 (T3.setTop (mkF m 41 #[.val (.long q0), .second, .val (.long q1), .second, .val (.long q2), .second, .val (.long q3), .second, .val (.int p4), .val (.long v1), .second, .val (.long v2), .second, .val (.int v3), .unset, .unset, .unset, .unset] [])) := by
    intro t k
    refine go13 t ?_
    refine o_istore X3 hx hby at_39 41 rfl (l' := #[.val (.long q0), .second, .val (.long q1), .second, .val (.long q2), .second, .val (.long q3), .second, .val (.int p4), .val (.long v1), .second, .val (.long v2), .second, .val (.int v3), .unset, .unset, .unset, .unset]) rfl ?_
    exact k
  have go15 : Go p e below A0 (T3.setTop (mkF m 47 #[.val (.long q0), .second, .val (.long q1), .second, .val (.long q2), .second, .val (.long q3), .second, .val (.int p4), .val (.long v1), .second, .val (.long v2), .second, .val (.int v3), .unset, .unset, .unset, .unset] [(.long q1), (.long q0), (.long v2), (.long v1)])) := by
    intro t k
    refine go14 t ?_
    refine o_lload X3 hx hby at_41 43 rfl rfl ?_
    refine o_lload X3 hx hby at_43 45 rfl rfl ?_
    refine o_lloadN X3 hx hby at_45 46 rfl rfl ?_
    refine o_lloadN X3 hx hby at_46 47 rfl rfl ?_
    exact k
  obtain ⟨_, _, ⟨T4, L4, k4, n4⟩, -, X4, ⟨Lc4, hQ4, l4, y4, z4⟩, st4⟩ := Jvm.LawKit.callS X3 hx (y := (⟨"org/shardwright/model/DocumentVersion", "isLater", "(JJJJ)Z"⟩ : MethodName)) hown (mvT hZ (hw _ (List.mem_of_getElem? (i := 0) rfl))) (mvT hZ (hw _ (List.mem_of_getElem? (i := 1) rfl))) (mvT hZ (hw _ (List.mem_of_getElem? (i := 2) rfl))) (mvT hZ (hw _ (List.mem_of_getElem? (i := 3) rfl))) (by decide) (backOf (W := 0) (rm1 l Z aw hw [] v1 v2 q0 q1 h0 n0 Z0) hZ (hw _ (List.mem_of_getElem? (i := 3) rfl)) (hw _ (List.mem_of_getElem? (i := 2) rfl)) (by decide) (by decide)) (g := (mkF m 47 #[.val (.long q0), .second, .val (.long q1), .second, .val (.long q2), .second, .val (.long q3), .second, .val (.int p4), .val (.long v1), .second, .val (.long v2), .second, .val (.int v3), .unset, .unset, .unset, .unset] [(.long q1), (.long q0), (.long v2), (.long v1)])) rfl (by rw [hml]; rfl) (argsL := [(.long v1), (.long v2), (.long q0), (.long q1)]) (rest := []) (lenOf pd_2 rfl) rfl (by show 2 * 0 + _ ≤ _; exact Nat.le_of_eq rfl) (hb hby at_47) (fun _ _ => ⟨rfl, e3, (by decide : 0 + 0 ≤ _), (by decide : 0 + 0 ≤ _)⟩)
  dsimp only [Pt.U, Pt.locs, Pt.cells, Pt.slots] at X4 l4 y4 z4 st4 hQ4
  subst l4 y4 z4
  obtain ⟨rfl, N4q, e4⟩ := hQ4
  have N4 := Fr.app N3 N4q
  have go16 : Go p e below A0 (T4.setTop (mkF m 50 #[.val (.long q0), .second, .val (.long q1), .second, .val (.long q2), .second, .val (.long q3), .second, .val (.int p4), .val (.long v1), .second, .val (.long v2), .second, .val (.int v3), .unset, .unset, .unset, .unset] [(.int (F1 v1 v2 q0 q1))])) := by
    intro t k
    refine go15 t ?_
    refine st4 _ ?_
    show Steps p.tables e below (T4.setTop (mkF m 50 #[.val (.long q0), .second, .val (.long q1), .second, .val (.long q2), .second, .val (.long q3), .second, .val (.int p4), .val (.long v1), .second, .val (.long v2), .second, .val (.int v3), .unset, .unset, .unset, .unset] [(.int (F1 v1 v2 q0 q1))])) _
    exact k
  obtain ⟨v4, hv4, go17⟩ : ∃ v4 : Int32, v4 = (F1 v1 v2 q0 q1) ∧ Go p e below A0 (T4.setTop (mkF m 50 #[.val (.long q0), .second, .val (.long q1), .second, .val (.long q2), .second, .val (.long q3), .second, .val (.int p4), .val (.long v1), .second, .val (.long v2), .second, .val (.int v3), .unset, .unset, .unset, .unset] [(.int v4)])) := ⟨_, rfl, go16⟩
  have go18 : Go p e below A0 (T4.setTop (mkF m 52 #[.val (.long q0), .second, .val (.long q1), .second, .val (.long q2), .second, .val (.long q3), .second, .val (.int p4), .val (.long v1), .second, .val (.long v2), .second, .val (.int v3), .val (.int v4), .unset, .unset, .unset] [])) := by
    intro t k
    refine go17 t ?_
    refine o_istore X4 hx hby at_50 52 rfl (l' := #[.val (.long q0), .second, .val (.long q1), .second, .val (.long q2), .second, .val (.long q3), .second, .val (.int p4), .val (.long v1), .second, .val (.long v2), .second, .val (.int v3), .val (.int v4), .unset, .unset, .unset]) rfl ?_
    exact k
  have go19 : Go p e below A0 (T4.setTop (mkF m 56 #[.val (.long q0), .second, .val (.long q1), .second, .val (.long q2), .second, .val (.long q3), .second, .val (.int p4), .val (.long v1), .second, .val (.long v2), .second, .val (.int v3), .val (.int v4), .unset, .unset, .unset] [(.int (lcmpW q0 v1))])) := by
    intro t k
    refine go18 t ?_
    refine o_lloadN X4 hx hby at_52 53 rfl rfl ?_
    refine o_lload X4 hx hby at_53 55 rfl rfl ?_
    refine o_lcmp X4 hx hby at_55 56 rfl ?_
    exact k
  obtain ⟨v7, hv7, go28⟩ : ∃ (v7 : Int32), v7 = (if v1 < q0 then (1 : Int32) else (if q0 = v1 then (if v2 < q1 then (1 : Int32) else (0 : Int32)) else (0 : Int32))) ∧ Go p e below A0 (T4.setTop (mkF m 78 #[.val (.long q0), .second, .val (.long q1), .second, .val (.long q2), .second, .val (.long q3), .second, .val (.int p4), .val (.long v1), .second, .val (.long v2), .second, .val (.int v3), .val (.int v4), .unset, .unset, .unset] [(.int v7)])) := by
    by_cases hc56_5 : v1 < q0
    · have go20 : Go p e below A0 (T4.setTop (mkF m 78 #[.val (.long q0), .second, .val (.long q1), .second, .val (.long q2), .second, .val (.long q3), .second, .val (.int p4), .val (.long v1), .second, .val (.long v2), .second, .val (.int v3), .val (.int v4), .unset, .unset, .unset] [(.int (1 : Int32))])) := by
        intro t k
        refine go19 t ?_
        refine o_ifY X4 hx hby at_56 73 rfl (tlt ((lw_gt q0 v1).mpr hc56_5)).2.2.1 ?_
        refine o_iconst X4 hx hby at_73 74 rfl (v := (1 : Int32)) rfl ?_
        refine o_goto X4 hx hby at_74 78 rfl ?_
        exact k
      exact ⟨(1 : Int32), (if_pos hc56_5).symm, go20⟩
    · have go21 : Go p e below A0 (T4.setTop (mkF m 63 #[.val (.long q0), .second, .val (.long q1), .second, .val (.long q2), .second, .val (.long q3), .second, .val (.int p4), .val (.long v1), .second, .val (.long v2), .second, .val (.int v3), .val (.int v4), .unset, .unset, .unset] [(.int (lcmpW q0 v1))])) := by
        intro t k
        refine go19 t ?_
        refine o_ifN X4 hx hby at_56 59 rfl (flt (fun q => hc56_5 ((lw_gt q0 v1).mp q))).2.2.1 ?_
        refine o_lloadN X4 hx hby at_59 60 rfl rfl ?_
        refine o_lload X4 hx hby at_60 62 rfl rfl ?_
        refine o_lcmp X4 hx hby at_62 63 rfl ?_
        exact k
      obtain ⟨v6, hv6, go27⟩ : ∃ (v6 : Int32), v6 = (if q0 = v1 then (if v2 < q1 then (1 : Int32) else (0 : Int32)) else (0 : Int32)) ∧ Go p e below A0 (T4.setTop (mkF m 78 #[.val (.long q0), .second, .val (.long q1), .second, .val (.long q2), .second, .val (.long q3), .second, .val (.int p4), .val (.long v1), .second, .val (.long v2), .second, .val (.int v3), .val (.int v4), .unset, .unset, .unset] [(.int v6)])) := by
        by_cases hc63_6 : q0 = v1
        · have go22 : Go p e below A0 (T4.setTop (mkF m 70 #[.val (.long q0), .second, .val (.long q1), .second, .val (.long q2), .second, .val (.long q3), .second, .val (.int p4), .val (.long v1), .second, .val (.long v2), .second, .val (.int v3), .val (.int v4), .unset, .unset, .unset] [(.int (lcmpW q1 v2))])) := by
            intro t k
            refine go21 t ?_
            refine o_ifN X4 hx hby at_63 66 rfl (teq ((lw_eq q0 v1).mpr hc63_6)).2 ?_
            refine o_lloadN X4 hx hby at_66 67 rfl rfl ?_
            refine o_lload X4 hx hby at_67 69 rfl rfl ?_
            refine o_lcmp X4 hx hby at_69 70 rfl ?_
            exact k
          obtain ⟨v5, hv5, go25⟩ : ∃ (v5 : Int32), v5 = (if v2 < q1 then (1 : Int32) else (0 : Int32)) ∧ Go p e below A0 (T4.setTop (mkF m 78 #[.val (.long q0), .second, .val (.long q1), .second, .val (.long q2), .second, .val (.long q3), .second, .val (.int p4), .val (.long v1), .second, .val (.long v2), .second, .val (.int v3), .val (.int v4), .unset, .unset, .unset] [(.int v5)])) := by
            by_cases hc70_7 : v2 < q1
            · have go23 : Go p e below A0 (T4.setTop (mkF m 78 #[.val (.long q0), .second, .val (.long q1), .second, .val (.long q2), .second, .val (.long q3), .second, .val (.int p4), .val (.long v1), .second, .val (.long v2), .second, .val (.int v3), .val (.int v4), .unset, .unset, .unset] [(.int (1 : Int32))])) := by
                intro t k
                refine go22 t ?_
                refine o_ifN X4 hx hby at_70 73 rfl (tlt ((lw_gt q1 v2).mpr hc70_7)).2.2.2 ?_
                refine o_iconst X4 hx hby at_73 74 rfl (v := (1 : Int32)) rfl ?_
                refine o_goto X4 hx hby at_74 78 rfl ?_
                exact k
              exact ⟨(1 : Int32), (if_pos hc70_7).symm, go23⟩
            · have go24 : Go p e below A0 (T4.setTop (mkF m 78 #[.val (.long q0), .second, .val (.long q1), .second, .val (.long q2), .second, .val (.long q3), .second, .val (.int p4), .val (.long v1), .second, .val (.long v2), .second, .val (.int v3), .val (.int v4), .unset, .unset, .unset] [(.int (0 : Int32))])) := by
                intro t k
                refine go22 t ?_
                refine o_ifY X4 hx hby at_70 77 rfl (flt (fun q => hc70_7 ((lw_gt q1 v2).mp q))).2.2.2 ?_
                refine o_iconst X4 hx hby at_77 78 rfl (v := (0 : Int32)) rfl ?_
                exact k
              exact ⟨(0 : Int32), (if_neg hc70_7).symm, go24⟩
          subst hv5
          exact ⟨(if v2 < q1 then (1 : Int32) else (0 : Int32)), (if_pos hc63_6).symm, go25⟩
        · have go26 : Go p e below A0 (T4.setTop (mkF m 78 #[.val (.long q0), .second, .val (.long q1), .second, .val (.long q2), .second, .val (.long q3), .second, .val (.int p4), .val (.long v1), .second, .val (.long v2), .second, .val (.int v3), .val (.int v4), .unset, .unset, .unset] [(.int (0 : Int32))])) := by
            intro t k
            refine go21 t ?_
            refine o_ifY X4 hx hby at_63 77 rfl (feq (fun q => hc63_6 ((lw_eq q0 v1).mp q))).2 ?_
            refine o_iconst X4 hx hby at_77 78 rfl (v := (0 : Int32)) rfl ?_
            exact k
          exact ⟨(0 : Int32), (if_neg hc63_6).symm, go26⟩
      subst hv6
      exact ⟨(if q0 = v1 then (if v2 < q1 then (1 : Int32) else (0 : Int32)) else (0 : Int32)), (if_neg hc56_5).symm, go27⟩
  have go29 : Go p e below A0 (T4.setTop (mkF m 80 #[.val (.long q0), .second, .val (.long q1), .second, .val (.long q2), .second, .val (.long q3), .second, .val (.int p4), .val (.long v1), .second, .val (.long v2), .second, .val (.int v3), .val (.int v4), .val (.int v7), .unset, .unset] [])) := by
    intro t k
    refine go28 t ?_
    refine o_istore X4 hx hby at_78 80 rfl (l' := #[.val (.long q0), .second, .val (.long q1), .second, .val (.long q2), .second, .val (.long q3), .second, .val (.int p4), .val (.long v1), .second, .val (.long v2), .second, .val (.int v3), .val (.int v4), .val (.int v7), .unset, .unset]) rfl ?_
    exact k
  have go30 : Go p e below A0 (T4.setTop (mkF m 84 #[.val (.long q0), .second, .val (.long q1), .second, .val (.long q2), .second, .val (.long q3), .second, .val (.int p4), .val (.long v1), .second, .val (.long v2), .second, .val (.int v3), .val (.int v4), .val (.int v7), .unset, .unset] [(.int (lcmpW v1 q0))])) := by
    intro t k
    refine go29 t ?_
    refine o_lload X4 hx hby at_80 82 rfl rfl ?_
    refine o_lloadN X4 hx hby at_82 83 rfl rfl ?_
    refine o_lcmp X4 hx hby at_83 84 rfl ?_
    exact k
  obtain ⟨v10, hv10, go39⟩ : ∃ (v10 : Int32), v10 = (if q0 < v1 then (1 : Int32) else (if v1 = q0 then (if q1 < v2 then (1 : Int32) else (0 : Int32)) else (0 : Int32))) ∧ Go p e below A0 (T4.setTop (mkF m 106 #[.val (.long q0), .second, .val (.long q1), .second, .val (.long q2), .second, .val (.long q3), .second, .val (.int p4), .val (.long v1), .second, .val (.long v2), .second, .val (.int v3), .val (.int v4), .val (.int v7), .unset, .unset] [(.int v10)])) := by
    by_cases hc84_8 : q0 < v1
    · have go31 : Go p e below A0 (T4.setTop (mkF m 106 #[.val (.long q0), .second, .val (.long q1), .second, .val (.long q2), .second, .val (.long q3), .second, .val (.int p4), .val (.long v1), .second, .val (.long v2), .second, .val (.int v3), .val (.int v4), .val (.int v7), .unset, .unset] [(.int (1 : Int32))])) := by
        intro t k
        refine go30 t ?_
        refine o_ifY X4 hx hby at_84 101 rfl (tlt ((lw_gt v1 q0).mpr hc84_8)).2.2.1 ?_
        refine o_iconst X4 hx hby at_101 102 rfl (v := (1 : Int32)) rfl ?_
        refine o_goto X4 hx hby at_102 106 rfl ?_
        exact k
      exact ⟨(1 : Int32), (if_pos hc84_8).symm, go31⟩
    · have go32 : Go p e below A0 (T4.setTop (mkF m 91 #[.val (.long q0), .second, .val (.long q1), .second, .val (.long q2), .second, .val (.long q3), .second, .val (.int p4), .val (.long v1), .second, .val (.long v2), .second, .val (.int v3), .val (.int v4), .val (.int v7), .unset, .unset] [(.int (lcmpW v1 q0))])) := by
        intro t k
        refine go30 t ?_
        refine o_ifN X4 hx hby at_84 87 rfl (flt (fun q => hc84_8 ((lw_gt v1 q0).mp q))).2.2.1 ?_
        refine o_lload X4 hx hby at_87 89 rfl rfl ?_
        refine o_lloadN X4 hx hby at_89 90 rfl rfl ?_
        refine o_lcmp X4 hx hby at_90 91 rfl ?_
        exact k
      obtain ⟨v9, hv9, go38⟩ : ∃ (v9 : Int32), v9 = (if v1 = q0 then (if q1 < v2 then (1 : Int32) else (0 : Int32)) else (0 : Int32)) ∧ Go p e below A0 (T4.setTop (mkF m 106 #[.val (.long q0), .second, .val (.long q1), .second, .val (.long q2), .second, .val (.long q3), .second, .val (.int p4), .val (.long v1), .second, .val (.long v2), .second, .val (.int v3), .val (.int v4), .val (.int v7), .unset, .unset] [(.int v9)])) := by
        by_cases hc91_9 : v1 = q0
        · have go33 : Go p e below A0 (T4.setTop (mkF m 98 #[.val (.long q0), .second, .val (.long q1), .second, .val (.long q2), .second, .val (.long q3), .second, .val (.int p4), .val (.long v1), .second, .val (.long v2), .second, .val (.int v3), .val (.int v4), .val (.int v7), .unset, .unset] [(.int (lcmpW v2 q1))])) := by
            intro t k
            refine go32 t ?_
            refine o_ifN X4 hx hby at_91 94 rfl (teq ((lw_eq v1 q0).mpr hc91_9)).2 ?_
            refine o_lload X4 hx hby at_94 96 rfl rfl ?_
            refine o_lloadN X4 hx hby at_96 97 rfl rfl ?_
            refine o_lcmp X4 hx hby at_97 98 rfl ?_
            exact k
          obtain ⟨v8, hv8, go36⟩ : ∃ (v8 : Int32), v8 = (if q1 < v2 then (1 : Int32) else (0 : Int32)) ∧ Go p e below A0 (T4.setTop (mkF m 106 #[.val (.long q0), .second, .val (.long q1), .second, .val (.long q2), .second, .val (.long q3), .second, .val (.int p4), .val (.long v1), .second, .val (.long v2), .second, .val (.int v3), .val (.int v4), .val (.int v7), .unset, .unset] [(.int v8)])) := by
            by_cases hc98_10 : q1 < v2
            · have go34 : Go p e below A0 (T4.setTop (mkF m 106 #[.val (.long q0), .second, .val (.long q1), .second, .val (.long q2), .second, .val (.long q3), .second, .val (.int p4), .val (.long v1), .second, .val (.long v2), .second, .val (.int v3), .val (.int v4), .val (.int v7), .unset, .unset] [(.int (1 : Int32))])) := by
                intro t k
                refine go33 t ?_
                refine o_ifN X4 hx hby at_98 101 rfl (tlt ((lw_gt v2 q1).mpr hc98_10)).2.2.2 ?_
                refine o_iconst X4 hx hby at_101 102 rfl (v := (1 : Int32)) rfl ?_
                refine o_goto X4 hx hby at_102 106 rfl ?_
                exact k
              exact ⟨(1 : Int32), (if_pos hc98_10).symm, go34⟩
            · have go35 : Go p e below A0 (T4.setTop (mkF m 106 #[.val (.long q0), .second, .val (.long q1), .second, .val (.long q2), .second, .val (.long q3), .second, .val (.int p4), .val (.long v1), .second, .val (.long v2), .second, .val (.int v3), .val (.int v4), .val (.int v7), .unset, .unset] [(.int (0 : Int32))])) := by
                intro t k
                refine go33 t ?_
                refine o_ifY X4 hx hby at_98 105 rfl (flt (fun q => hc98_10 ((lw_gt v2 q1).mp q))).2.2.2 ?_
                refine o_iconst X4 hx hby at_105 106 rfl (v := (0 : Int32)) rfl ?_
                exact k
              exact ⟨(0 : Int32), (if_neg hc98_10).symm, go35⟩
          subst hv8
          exact ⟨(if q1 < v2 then (1 : Int32) else (0 : Int32)), (if_pos hc91_9).symm, go36⟩
        · have go37 : Go p e below A0 (T4.setTop (mkF m 106 #[.val (.long q0), .second, .val (.long q1), .second, .val (.long q2), .second, .val (.long q3), .second, .val (.int p4), .val (.long v1), .second, .val (.long v2), .second, .val (.int v3), .val (.int v4), .val (.int v7), .unset, .unset] [(.int (0 : Int32))])) := by
            intro t k
            refine go32 t ?_
            refine o_ifY X4 hx hby at_91 105 rfl (feq (fun q => hc91_9 ((lw_eq v1 q0).mp q))).2 ?_
            refine o_iconst X4 hx hby at_105 106 rfl (v := (0 : Int32)) rfl ?_
            exact k
          exact ⟨(0 : Int32), (if_neg hc91_9).symm, go37⟩
      subst hv9
      exact ⟨(if v1 = q0 then (if q1 < v2 then (1 : Int32) else (0 : Int32)) else (0 : Int32)), (if_neg hc84_8).symm, go38⟩
  have go40 : Go p e below A0 (T4.setTop (mkF m 108 #[.val (.long q0), .second, .val (.long q1), .second, .val (.long q2), .second, .val (.long q3), .second, .val (.int p4), .val (.long v1), .second, .val (.long v2), .second, .val (.int v3), .val (.int v4), .val (.int v7), .val (.int v10), .unset] [])) := by
    intro t k
    refine go39 t ?_
    refine o_istore X4 hx hby at_106 108 rfl (l' := #[.val (.long q0), .second, .val (.long q1), .second, .val (.long q2), .second, .val (.long q3), .second, .val (.int p4), .val (.long v1), .second, .val (.long v2), .second, .val (.int v3), .val (.int v4), .val (.int v7), .val (.int v10), .unset]) rfl ?_
    exact k
  have go41 : Go p e below A0 (T4.setTop (mkF m 112 #[.val (.long q0), .second, .val (.long q1), .second, .val (.long q2), .second, .val (.long q3), .second, .val (.int p4), .val (.long v1), .second, .val (.long v2), .second, .val (.int v3), .val (.int v4), .val (.int v7), .val (.int v10), .unset] [(.int (lcmpW q0 v1))])) := by
    intro t k
    refine go40 t ?_
    refine o_lloadN X4 hx hby at_108 109 rfl rfl ?_
    refine o_lload X4 hx hby at_109 111 rfl rfl ?_
    refine o_lcmp X4 hx hby at_111 112 rfl ?_
    exact k
  obtain ⟨v12, hv12, go47⟩ : ∃ (v12 : Int32), v12 = (if q0 = v1 then (if q1 = v2 then (1 : Int32) else (0 : Int32)) else (0 : Int32)) ∧ Go p e below A0 (T4.setTop (mkF m 127 #[.val (.long q0), .second, .val (.long q1), .second, .val (.long q2), .second, .val (.long q3), .second, .val (.int p4), .val (.long v1), .second, .val (.long v2), .second, .val (.int v3), .val (.int v4), .val (.int v7), .val (.int v10), .unset] [(.int v12)])) := by
    by_cases hc112_11 : q0 = v1
    · have go42 : Go p e below A0 (T4.setTop (mkF m 119 #[.val (.long q0), .second, .val (.long q1), .second, .val (.long q2), .second, .val (.long q3), .second, .val (.int p4), .val (.long v1), .second, .val (.long v2), .second, .val (.int v3), .val (.int v4), .val (.int v7), .val (.int v10), .unset] [(.int (lcmpW q1 v2))])) := by
        intro t k
        refine go41 t ?_
        refine o_ifN X4 hx hby at_112 115 rfl (teq ((lw_eq q0 v1).mpr hc112_11)).2 ?_
        refine o_lloadN X4 hx hby at_115 116 rfl rfl ?_
        refine o_lload X4 hx hby at_116 118 rfl rfl ?_
        refine o_lcmp X4 hx hby at_118 119 rfl ?_
        exact k
      obtain ⟨v11, hv11, go45⟩ : ∃ (v11 : Int32), v11 = (if q1 = v2 then (1 : Int32) else (0 : Int32)) ∧ Go p e below A0 (T4.setTop (mkF m 127 #[.val (.long q0), .second, .val (.long q1), .second, .val (.long q2), .second, .val (.long q3), .second, .val (.int p4), .val (.long v1), .second, .val (.long v2), .second, .val (.int v3), .val (.int v4), .val (.int v7), .val (.int v10), .unset] [(.int v11)])) := by
        by_cases hc119_12 : q1 = v2
        · have go43 : Go p e below A0 (T4.setTop (mkF m 127 #[.val (.long q0), .second, .val (.long q1), .second, .val (.long q2), .second, .val (.long q3), .second, .val (.int p4), .val (.long v1), .second, .val (.long v2), .second, .val (.int v3), .val (.int v4), .val (.int v7), .val (.int v10), .unset] [(.int (1 : Int32))])) := by
            intro t k
            refine go42 t ?_
            refine o_ifN X4 hx hby at_119 122 rfl (teq ((lw_eq q1 v2).mpr hc119_12)).2 ?_
            refine o_iconst X4 hx hby at_122 123 rfl (v := (1 : Int32)) rfl ?_
            refine o_goto X4 hx hby at_123 127 rfl ?_
            exact k
          exact ⟨(1 : Int32), (if_pos hc119_12).symm, go43⟩
        · have go44 : Go p e below A0 (T4.setTop (mkF m 127 #[.val (.long q0), .second, .val (.long q1), .second, .val (.long q2), .second, .val (.long q3), .second, .val (.int p4), .val (.long v1), .second, .val (.long v2), .second, .val (.int v3), .val (.int v4), .val (.int v7), .val (.int v10), .unset] [(.int (0 : Int32))])) := by
            intro t k
            refine go42 t ?_
            refine o_ifY X4 hx hby at_119 126 rfl (feq (fun q => hc119_12 ((lw_eq q1 v2).mp q))).2 ?_
            refine o_iconst X4 hx hby at_126 127 rfl (v := (0 : Int32)) rfl ?_
            exact k
          exact ⟨(0 : Int32), (if_neg hc119_12).symm, go44⟩
      subst hv11
      exact ⟨(if q1 = v2 then (1 : Int32) else (0 : Int32)), (if_pos hc112_11).symm, go45⟩
    · have go46 : Go p e below A0 (T4.setTop (mkF m 127 #[.val (.long q0), .second, .val (.long q1), .second, .val (.long q2), .second, .val (.long q3), .second, .val (.int p4), .val (.long v1), .second, .val (.long v2), .second, .val (.int v3), .val (.int v4), .val (.int v7), .val (.int v10), .unset] [(.int (0 : Int32))])) := by
        intro t k
        refine go41 t ?_
        refine o_ifY X4 hx hby at_112 126 rfl (feq (fun q => hc112_11 ((lw_eq q0 v1).mp q))).2 ?_
        refine o_iconst X4 hx hby at_126 127 rfl (v := (0 : Int32)) rfl ?_
        exact k
      exact ⟨(0 : Int32), (if_neg hc112_11).symm, go46⟩
  have go48 : Go p e below A0 (T4.setTop (mkF m 129 #[.val (.long q0), .second, .val (.long q1), .second, .val (.long q2), .second, .val (.long q3), .second, .val (.int p4), .val (.long v1), .second, .val (.long v2), .second, .val (.int v3), .val (.int v4), .val (.int v7), .val (.int v10), .val (.int v12)] [])) := by
    intro t k
    refine go47 t ?_
    refine o_istore X4 hx hby at_127 129 rfl (l' := #[.val (.long q0), .second, .val (.long q1), .second, .val (.long q2), .second, .val (.long q3), .second, .val (.int p4), .val (.long v1), .second, .val (.long v2), .second, .val (.int v3), .val (.int v4), .val (.int v7), .val (.int v10), .val (.int v12)]) rfl ?_
    exact k
  have go49 : Go p e below A0 (T4.setTop (mkF m 133 #[.val (.long q0), .second, .val (.long q1), .second, .val (.long q2), .second, .val (.long q3), .second, .val (.int p4), .val (.long v1), .second, .val (.long v2), .second, .val (.int v3), .val (.int v4), .val (.int v7), .val (.int v10), .val (.int v12)] [(.int v7), (.int v3)])) := by
    intro t k
    refine go48 t ?_
    refine o_iload X4 hx hby at_129 131 rfl rfl ?_
    refine o_iload X4 hx hby at_131 133 rfl rfl ?_
    exact k
  obtain ⟨v22, hv22, go79⟩ : ∃ (v22 : Int32), v22 = (if v3 = v7 then (if v4 = v10 then (if v3 = (0 : Int32) then (if v3 = (0 : Int32) then (if v4 = (0 : Int32) then (if v12 = (0 : Int32) then (0 : Int32) else (1 : Int32)) else (1 : Int32)) else (1 : Int32)) else (if v4 = (0 : Int32) then (if v3 = (0 : Int32) then (if v4 = (0 : Int32) then (if v12 = (0 : Int32) then (0 : Int32) else (1 : Int32)) else (1 : Int32)) else (1 : Int32)) else (0 : Int32))) else (0 : Int32)) else (0 : Int32)) ∧ Go p e below A0 (T4.setTop (mkF m 173 #[.val (.long q0), .second, .val (.long q1), .second, .val (.long q2), .second, .val (.long q3), .second, .val (.int p4), .val (.long v1), .second, .val (.long v2), .second, .val (.int v3), .val (.int v4), .val (.int v7), .val (.int v10), .val (.int v12)] [(.int v22)])) := by
    by_cases hc133_13 : v3 = v7
    · have go50 : Go p e below A0 (T4.setTop (mkF m 140 #[.val (.long q0), .second, .val (.long q1), .second, .val (.long q2), .second, .val (.long q3), .second, .val (.int p4), .val (.long v1), .second, .val (.long v2), .second, .val (.int v3), .val (.int v4), .val (.int v7), .val (.int v10), .val (.int v12)] [(.int v10), (.int v4)])) := by
        intro t k
        refine go49 t ?_
        refine o_icmpN X4 hx hby at_133 136 rfl (teq hc133_13).2 ?_
        refine o_iload X4 hx hby at_136 138 rfl rfl ?_
        refine o_iload X4 hx hby at_138 140 rfl rfl ?_
        exact k
      obtain ⟨v21, hv21, go77⟩ : ∃ (v21 : Int32), v21 = (if v4 = v10 then (if v3 = (0 : Int32) then (if v3 = (0 : Int32) then (if v4 = (0 : Int32) then (if v12 = (0 : Int32) then (0 : Int32) else (1 : Int32)) else (1 : Int32)) else (1 : Int32)) else (if v4 = (0 : Int32) then (if v3 = (0 : Int32) then (if v4 = (0 : Int32) then (if v12 = (0 : Int32) then (0 : Int32) else (1 : Int32)) else (1 : Int32)) else (1 : Int32)) else (0 : Int32))) else (0 : Int32)) ∧ Go p e below A0 (T4.setTop (mkF m 173 #[.val (.long q0), .second, .val (.long q1), .second, .val (.long q2), .second, .val (.long q3), .second, .val (.int p4), .val (.long v1), .second, .val (.long v2), .second, .val (.int v3), .val (.int v4), .val (.int v7), .val (.int v10), .val (.int v12)] [(.int v21)])) := by
        by_cases hc140_14 : v4 = v10
        · have go51 : Go p e below A0 (T4.setTop (mkF m 145 #[.val (.long q0), .second, .val (.long q1), .second, .val (.long q2), .second, .val (.long q3), .second, .val (.int p4), .val (.long v1), .second, .val (.long v2), .second, .val (.int v3), .val (.int v4), .val (.int v7), .val (.int v10), .val (.int v12)] [(.int v3)])) := by
            intro t k
            refine go50 t ?_
            refine o_icmpN X4 hx hby at_140 143 rfl (teq hc140_14).2 ?_
            refine o_iload X4 hx hby at_143 145 rfl rfl ?_
            exact k
          obtain ⟨v20, hv20, go75⟩ : ∃ (v20 : Int32), v20 = (if v3 = (0 : Int32) then (if v3 = (0 : Int32) then (if v4 = (0 : Int32) then (if v12 = (0 : Int32) then (0 : Int32) else (1 : Int32)) else (1 : Int32)) else (1 : Int32)) else (if v4 = (0 : Int32) then (if v3 = (0 : Int32) then (if v4 = (0 : Int32) then (if v12 = (0 : Int32) then (0 : Int32) else (1 : Int32)) else (1 : Int32)) else (1 : Int32)) else (0 : Int32))) ∧ Go p e below A0 (T4.setTop (mkF m 173 #[.val (.long q0), .second, .val (.long q1), .second, .val (.long q2), .second, .val (.long q3), .second, .val (.int p4), .val (.long v1), .second, .val (.long v2), .second, .val (.int v3), .val (.int v4), .val (.int v7), .val (.int v10), .val (.int v12)] [(.int v20)])) := by
            by_cases hc145_15 : v3 = (0 : Int32)
            · have go52 : Go p e below A0 (T4.setTop (mkF m 155 #[.val (.long q0), .second, .val (.long q1), .second, .val (.long q2), .second, .val (.long q3), .second, .val (.int p4), .val (.long v1), .second, .val (.long v2), .second, .val (.int v3), .val (.int v4), .val (.int v7), .val (.int v10), .val (.int v12)] [(.int v3)])) := by
                intro t k
                refine go51 t ?_
                refine o_ifY X4 hx hby at_145 153 rfl (teq hc145_15).1 ?_
                refine o_iload X4 hx hby at_153 155 rfl rfl ?_
                exact k
              obtain ⟨v15, hv15, go61⟩ : ∃ (v15 : Int32), v15 = (if v3 = (0 : Int32) then (if v4 = (0 : Int32) then (if v12 = (0 : Int32) then (0 : Int32) else (1 : Int32)) else (1 : Int32)) else (1 : Int32)) ∧ Go p e below A0 (T4.setTop (mkF m 173 #[.val (.long q0), .second, .val (.long q1), .second, .val (.long q2), .second, .val (.long q3), .second, .val (.int p4), .val (.long v1), .second, .val (.long v2), .second, .val (.int v3), .val (.int v4), .val (.int v7), .val (.int v10), .val (.int v12)] [(.int v15)])) := by
                by_cases hc155_16 : v3 = (0 : Int32)
                · have go53 : Go p e below A0 (T4.setTop (mkF m 160 #[.val (.long q0), .second, .val (.long q1), .second, .val (.long q2), .second, .val (.long q3), .second, .val (.int p4), .val (.long v1), .second, .val (.long v2), .second, .val (.int v3), .val (.int v4), .val (.int v7), .val (.int v10), .val (.int v12)] [(.int v4)])) := by
                    intro t k
                    refine go52 t ?_
                    refine o_ifN X4 hx hby at_155 158 rfl (teq hc155_16).2 ?_
                    refine o_iload X4 hx hby at_158 160 rfl rfl ?_
                    exact k
                  obtain ⟨v14, hv14, go59⟩ : ∃ (v14 : Int32), v14 = (if v4 = (0 : Int32) then (if v12 = (0 : Int32) then (0 : Int32) else (1 : Int32)) else (1 : Int32)) ∧ Go p e below A0 (T4.setTop (mkF m 173 #[.val (.long q0), .second, .val (.long q1), .second, .val (.long q2), .second, .val (.long q3), .second, .val (.int p4), .val (.long v1), .second, .val (.long v2), .second, .val (.int v3), .val (.int v4), .val (.int v7), .val (.int v10), .val (.int v12)] [(.int v14)])) := by
                    by_cases hc160_17 : v4 = (0 : Int32)
                    · have go54 : Go p e below A0 (T4.setTop (mkF m 165 #[.val (.long q0), .second, .val (.long q1), .second, .val (.long q2), .second, .val (.long q3), .second, .val (.int p4), .val (.long v1), .second, .val (.long v2), .second, .val (.int v3), .val (.int v4), .val (.int v7), .val (.int v10), .val (.int v12)] [(.int v12)])) := by
                        intro t k
                        refine go53 t ?_
                        refine o_ifN X4 hx hby at_160 163 rfl (teq hc160_17).2 ?_
                        refine o_iload X4 hx hby at_163 165 rfl rfl ?_
                        exact k
                      obtain ⟨v13, hv13, go57⟩ : ∃ (v13 : Int32), v13 = (if v12 = (0 : Int32) then (0 : Int32) else (1 : Int32)) ∧ Go p e below A0 (T4.setTop (mkF m 173 #[.val (.long q0), .second, .val (.long q1), .second, .val (.long q2), .second, .val (.long q3), .second, .val (.int p4), .val (.long v1), .second, .val (.long v2), .second, .val (.int v3), .val (.int v4), .val (.int v7), .val (.int v10), .val (.int v12)] [(.int v13)])) := by
                        by_cases hc165_18 : v12 = (0 : Int32)
                        · have go55 : Go p e below A0 (T4.setTop (mkF m 173 #[.val (.long q0), .second, .val (.long q1), .second, .val (.long q2), .second, .val (.long q3), .second, .val (.int p4), .val (.long v1), .second, .val (.long v2), .second, .val (.int v3), .val (.int v4), .val (.int v7), .val (.int v10), .val (.int v12)] [(.int (0 : Int32))])) := by
                            intro t k
                            refine go54 t ?_
                            refine o_ifY X4 hx hby at_165 172 rfl (teq hc165_18).1 ?_
                            refine o_iconst X4 hx hby at_172 173 rfl (v := (0 : Int32)) rfl ?_
                            exact k
                          exact ⟨(0 : Int32), (if_pos hc165_18).symm, go55⟩
                        · have go56 : Go p e below A0 (T4.setTop (mkF m 173 #[.val (.long q0), .second, .val (.long q1), .second, .val (.long q2), .second, .val (.long q3), .second, .val (.int p4), .val (.long v1), .second, .val (.long v2), .second, .val (.int v3), .val (.int v4), .val (.int v7), .val (.int v10), .val (.int v12)] [(.int (1 : Int32))])) := by
                            intro t k
                            refine go54 t ?_
                            refine o_ifN X4 hx hby at_165 168 rfl (feq hc165_18).1 ?_
                            refine o_iconst X4 hx hby at_168 169 rfl (v := (1 : Int32)) rfl ?_
                            refine o_goto X4 hx hby at_169 173 rfl ?_
                            exact k
                          exact ⟨(1 : Int32), (if_neg hc165_18).symm, go56⟩
                      subst hv13
                      exact ⟨(if v12 = (0 : Int32) then (0 : Int32) else (1 : Int32)), (if_pos hc160_17).symm, go57⟩
                    · have go58 : Go p e below A0 (T4.setTop (mkF m 173 #[.val (.long q0), .second, .val (.long q1), .second, .val (.long q2), .second, .val (.long q3), .second, .val (.int p4), .val (.long v1), .second, .val (.long v2), .second, .val (.int v3), .val (.int v4), .val (.int v7), .val (.int v10), .val (.int v12)] [(.int (1 : Int32))])) := by
                        intro t k
                        refine go53 t ?_
                        refine o_ifY X4 hx hby at_160 168 rfl (feq hc160_17).2 ?_
                        refine o_iconst X4 hx hby at_168 169 rfl (v := (1 : Int32)) rfl ?_
                        refine o_goto X4 hx hby at_169 173 rfl ?_
                        exact k
                      exact ⟨(1 : Int32), (if_neg hc160_17).symm, go58⟩
                  subst hv14
                  exact ⟨(if v4 = (0 : Int32) then (if v12 = (0 : Int32) then (0 : Int32) else (1 : Int32)) else (1 : Int32)), (if_pos hc155_16).symm, go59⟩
                · have go60 : Go p e below A0 (T4.setTop (mkF m 173 #[.val (.long q0), .second, .val (.long q1), .second, .val (.long q2), .second, .val (.long q3), .second, .val (.int p4), .val (.long v1), .second, .val (.long v2), .second, .val (.int v3), .val (.int v4), .val (.int v7), .val (.int v10), .val (.int v12)] [(.int (1 : Int32))])) := by
                    intro t k
                    refine go52 t ?_
                    refine o_ifY X4 hx hby at_155 168 rfl (feq hc155_16).2 ?_
                    refine o_iconst X4 hx hby at_168 169 rfl (v := (1 : Int32)) rfl ?_
                    refine o_goto X4 hx hby at_169 173 rfl ?_
                    exact k
                  exact ⟨(1 : Int32), (if_neg hc155_16).symm, go60⟩
              subst hv15
              exact ⟨(if v3 = (0 : Int32) then (if v4 = (0 : Int32) then (if v12 = (0 : Int32) then (0 : Int32) else (1 : Int32)) else (1 : Int32)) else (1 : Int32)), (if_pos hc145_15).symm, go61⟩
            · have go62 : Go p e below A0 (T4.setTop (mkF m 150 #[.val (.long q0), .second, .val (.long q1), .second, .val (.long q2), .second, .val (.long q3), .second, .val (.int p4), .val (.long v1), .second, .val (.long v2), .second, .val (.int v3), .val (.int v4), .val (.int v7), .val (.int v10), .val (.int v12)] [(.int v4)])) := by
                intro t k
                refine go51 t ?_
                refine o_ifN X4 hx hby at_145 148 rfl (feq hc145_15).1 ?_
                refine o_iload X4 hx hby at_148 150 rfl rfl ?_
                exact k
              obtain ⟨v19, hv19, go74⟩ : ∃ (v19 : Int32), v19 = (if v4 = (0 : Int32) then (if v3 = (0 : Int32) then (if v4 = (0 : Int32) then (if v12 = (0 : Int32) then (0 : Int32) else (1 : Int32)) else (1 : Int32)) else (1 : Int32)) else (0 : Int32)) ∧ Go p e below A0 (T4.setTop (mkF m 173 #[.val (.long q0), .second, .val (.long q1), .second, .val (.long q2), .second, .val (.long q3), .second, .val (.int p4), .val (.long v1), .second, .val (.long v2), .second, .val (.int v3), .val (.int v4), .val (.int v7), .val (.int v10), .val (.int v12)] [(.int v19)])) := by
                by_cases hc150_19 : v4 = (0 : Int32)
                · have go63 : Go p e below A0 (T4.setTop (mkF m 155 #[.val (.long q0), .second, .val (.long q1), .second, .val (.long q2), .second, .val (.long q3), .second, .val (.int p4), .val (.long v1), .second, .val (.long v2), .second, .val (.int v3), .val (.int v4), .val (.int v7), .val (.int v10), .val (.int v12)] [(.int v3)])) := by
                    intro t k
                    refine go62 t ?_
                    refine o_ifN X4 hx hby at_150 153 rfl (teq hc150_19).2 ?_
                    refine o_iload X4 hx hby at_153 155 rfl rfl ?_
                    exact k
                  obtain ⟨v18, hv18, go72⟩ : ∃ (v18 : Int32), v18 = (if v3 = (0 : Int32) then (if v4 = (0 : Int32) then (if v12 = (0 : Int32) then (0 : Int32) else (1 : Int32)) else (1 : Int32)) else (1 : Int32)) ∧ Go p e below A0 (T4.setTop (mkF m 173 #[.val (.long q0), .second, .val (.long q1), .second, .val (.long q2), .second, .val (.long q3), .second, .val (.int p4), .val (.long v1), .second, .val (.long v2), .second, .val (.int v3), .val (.int v4), .val (.int v7), .val (.int v10), .val (.int v12)] [(.int v18)])) := by
                    by_cases hc155_20 : v3 = (0 : Int32)
                    · have go64 : Go p e below A0 (T4.setTop (mkF m 160 #[.val (.long q0), .second, .val (.long q1), .second, .val (.long q2), .second, .val (.long q3), .second, .val (.int p4), .val (.long v1), .second, .val (.long v2), .second, .val (.int v3), .val (.int v4), .val (.int v7), .val (.int v10), .val (.int v12)] [(.int v4)])) := by
                        intro t k
                        refine go63 t ?_
                        refine o_ifN X4 hx hby at_155 158 rfl (teq hc155_20).2 ?_
                        refine o_iload X4 hx hby at_158 160 rfl rfl ?_
                        exact k
                      obtain ⟨v17, hv17, go70⟩ : ∃ (v17 : Int32), v17 = (if v4 = (0 : Int32) then (if v12 = (0 : Int32) then (0 : Int32) else (1 : Int32)) else (1 : Int32)) ∧ Go p e below A0 (T4.setTop (mkF m 173 #[.val (.long q0), .second, .val (.long q1), .second, .val (.long q2), .second, .val (.long q3), .second, .val (.int p4), .val (.long v1), .second, .val (.long v2), .second, .val (.int v3), .val (.int v4), .val (.int v7), .val (.int v10), .val (.int v12)] [(.int v17)])) := by
                        by_cases hc160_21 : v4 = (0 : Int32)
                        · have go65 : Go p e below A0 (T4.setTop (mkF m 165 #[.val (.long q0), .second, .val (.long q1), .second, .val (.long q2), .second, .val (.long q3), .second, .val (.int p4), .val (.long v1), .second, .val (.long v2), .second, .val (.int v3), .val (.int v4), .val (.int v7), .val (.int v10), .val (.int v12)] [(.int v12)])) := by
                            intro t k
                            refine go64 t ?_
                            refine o_ifN X4 hx hby at_160 163 rfl (teq hc160_21).2 ?_
                            refine o_iload X4 hx hby at_163 165 rfl rfl ?_
                            exact k
                          obtain ⟨v16, hv16, go68⟩ : ∃ (v16 : Int32), v16 = (if v12 = (0 : Int32) then (0 : Int32) else (1 : Int32)) ∧ Go p e below A0 (T4.setTop (mkF m 173 #[.val (.long q0), .second, .val (.long q1), .second, .val (.long q2), .second, .val (.long q3), .second, .val (.int p4), .val (.long v1), .second, .val (.long v2), .second, .val (.int v3), .val (.int v4), .val (.int v7), .val (.int v10), .val (.int v12)] [(.int v16)])) := by
                            by_cases hc165_22 : v12 = (0 : Int32)
                            · have go66 : Go p e below A0 (T4.setTop (mkF m 173 #[.val (.long q0), .second, .val (.long q1), .second, .val (.long q2), .second, .val (.long q3), .second, .val (.int p4), .val (.long v1), .second, .val (.long v2), .second, .val (.int v3), .val (.int v4), .val (.int v7), .val (.int v10), .val (.int v12)] [(.int (0 : Int32))])) := by
                                intro t k
                                refine go65 t ?_
                                refine o_ifY X4 hx hby at_165 172 rfl (teq hc165_22).1 ?_
                                refine o_iconst X4 hx hby at_172 173 rfl (v := (0 : Int32)) rfl ?_
                                exact k
                              exact ⟨(0 : Int32), (if_pos hc165_22).symm, go66⟩
                            · have go67 : Go p e below A0 (T4.setTop (mkF m 173 #[.val (.long q0), .second, .val (.long q1), .second, .val (.long q2), .second, .val (.long q3), .second, .val (.int p4), .val (.long v1), .second, .val (.long v2), .second, .val (.int v3), .val (.int v4), .val (.int v7), .val (.int v10), .val (.int v12)] [(.int (1 : Int32))])) := by
                                intro t k
                                refine go65 t ?_
                                refine o_ifN X4 hx hby at_165 168 rfl (feq hc165_22).1 ?_
                                refine o_iconst X4 hx hby at_168 169 rfl (v := (1 : Int32)) rfl ?_
                                refine o_goto X4 hx hby at_169 173 rfl ?_
                                exact k
                              exact ⟨(1 : Int32), (if_neg hc165_22).symm, go67⟩
                          subst hv16
                          exact ⟨(if v12 = (0 : Int32) then (0 : Int32) else (1 : Int32)), (if_pos hc160_21).symm, go68⟩
                        · have go69 : Go p e below A0 (T4.setTop (mkF m 173 #[.val (.long q0), .second, .val (.long q1), .second, .val (.long q2), .second, .val (.long q3), .second, .val (.int p4), .val (.long v1), .second, .val (.long v2), .second, .val (.int v3), .val (.int v4), .val (.int v7), .val (.int v10), .val (.int v12)] [(.int (1 : Int32))])) := by
                            intro t k
                            refine go64 t ?_
                            refine o_ifY X4 hx hby at_160 168 rfl (feq hc160_21).2 ?_
                            refine o_iconst X4 hx hby at_168 169 rfl (v := (1 : Int32)) rfl ?_
                            refine o_goto X4 hx hby at_169 173 rfl ?_
                            exact k
                          exact ⟨(1 : Int32), (if_neg hc160_21).symm, go69⟩
                      subst hv17
                      exact ⟨(if v4 = (0 : Int32) then (if v12 = (0 : Int32) then (0 : Int32) else (1 : Int32)) else (1 : Int32)), (if_pos hc155_20).symm, go70⟩
                    · have go71 : Go p e below A0 (T4.setTop (mkF m 173 #[.val (.long q0), .second, .val (.long q1), .second, .val (.long q2), .second, .val (.long q3), .second, .val (.int p4), .val (.long v1), .second, .val (.long v2), .second, .val (.int v3), .val (.int v4), .val (.int v7), .val (.int v10), .val (.int v12)] [(.int (1 : Int32))])) := by
                        intro t k
                        refine go63 t ?_
                        refine o_ifY X4 hx hby at_155 168 rfl (feq hc155_20).2 ?_
                        refine o_iconst X4 hx hby at_168 169 rfl (v := (1 : Int32)) rfl ?_
                        refine o_goto X4 hx hby at_169 173 rfl ?_
                        exact k
                      exact ⟨(1 : Int32), (if_neg hc155_20).symm, go71⟩
                  subst hv18
                  exact ⟨(if v3 = (0 : Int32) then (if v4 = (0 : Int32) then (if v12 = (0 : Int32) then (0 : Int32) else (1 : Int32)) else (1 : Int32)) else (1 : Int32)), (if_pos hc150_19).symm, go72⟩
                · have go73 : Go p e below A0 (T4.setTop (mkF m 173 #[.val (.long q0), .second, .val (.long q1), .second, .val (.long q2), .second, .val (.long q3), .second, .val (.int p4), .val (.long v1), .second, .val (.long v2), .second, .val (.int v3), .val (.int v4), .val (.int v7), .val (.int v10), .val (.int v12)] [(.int (0 : Int32))])) := by
                    intro t k
                    refine go62 t ?_
                    refine o_ifY X4 hx hby at_150 172 rfl (feq hc150_19).2 ?_
                    refine o_iconst X4 hx hby at_172 173 rfl (v := (0 : Int32)) rfl ?_
                    exact k
                  exact ⟨(0 : Int32), (if_neg hc150_19).symm, go73⟩
              subst hv19
              exact ⟨(if v4 = (0 : Int32) then (if v3 = (0 : Int32) then (if v4 = (0 : Int32) then (if v12 = (0 : Int32) then (0 : Int32) else (1 : Int32)) else (1 : Int32)) else (1 : Int32)) else (0 : Int32)), (if_neg hc145_15).symm, go74⟩
          subst hv20
          exact ⟨(if v3 = (0 : Int32) then (if v3 = (0 : Int32) then (if v4 = (0 : Int32) then (if v12 = (0 : Int32) then (0 : Int32) else (1 : Int32)) else (1 : Int32)) else (1 : Int32)) else (if v4 = (0 : Int32) then (if v3 = (0 : Int32) then (if v4 = (0 : Int32) then (if v12 = (0 : Int32) then (0 : Int32) else (1 : Int32)) else (1 : Int32)) else (1 : Int32)) else (0 : Int32))), (if_pos hc140_14).symm, go75⟩
        · have go76 : Go p e below A0 (T4.setTop (mkF m 173 #[.val (.long q0), .second, .val (.long q1), .second, .val (.long q2), .second, .val (.long q3), .second, .val (.int p4), .val (.long v1), .second, .val (.long v2), .second, .val (.int v3), .val (.int v4), .val (.int v7), .val (.int v10), .val (.int v12)] [(.int (0 : Int32))])) := by
            intro t k
            refine go50 t ?_
            refine o_icmpY X4 hx hby at_140 172 rfl (feq hc140_14).2 ?_
            refine o_iconst X4 hx hby at_172 173 rfl (v := (0 : Int32)) rfl ?_
            exact k
          exact ⟨(0 : Int32), (if_neg hc140_14).symm, go76⟩
      subst hv21
      exact ⟨(if v4 = v10 then (if v3 = (0 : Int32) then (if v3 = (0 : Int32) then (if v4 = (0 : Int32) then (if v12 = (0 : Int32) then (0 : Int32) else (1 : Int32)) else (1 : Int32)) else (1 : Int32)) else (if v4 = (0 : Int32) then (if v3 = (0 : Int32) then (if v4 = (0 : Int32) then (if v12 = (0 : Int32) then (0 : Int32) else (1 : Int32)) else (1 : Int32)) else (1 : Int32)) else (0 : Int32))) else (0 : Int32)), (if_pos hc133_13).symm, go77⟩
    · have go78 : Go p e below A0 (T4.setTop (mkF m 173 #[.val (.long q0), .second, .val (.long q1), .second, .val (.long q2), .second, .val (.long q3), .second, .val (.int p4), .val (.long v1), .second, .val (.long v2), .second, .val (.int v3), .val (.int v4), .val (.int v7), .val (.int v10), .val (.int v12)] [(.int (0 : Int32))])) := by
        intro t k
        refine go49 t ?_
        refine o_icmpY X4 hx hby at_133 172 rfl (feq hc133_13).2 ?_
        refine o_iconst X4 hx hby at_172 173 rfl (v := (0 : Int32)) rfl ?_
        exact k
      exact ⟨(0 : Int32), (if_neg hc133_13).symm, go78⟩
  obtain rfl : v22 = (1 : Int32) := pl_0_0 q0 q1 q2 q3 p4 v1 v2 v3 v4 v7 v10 v12 v22 hv1 hv2 hv3 hv4 hv7 hv10 hv12 hv22
  subst hA0
  obtain ⟨fs, hr, hrun, hended, hW, hsame⟩ := X4.leave (v := some (.int (1 : Int32))) (fun h => by rw [Bd.returns] at h; cases h)
  refine ⟨_, _, go79 _ (o_retZ X4 hx Bd.returns (hb hby at_173) (Or.inr rfl) hr), hrun, hended, _, _, rfl, ?_, ⟨_, rfl⟩, hW, hsame.mono (by decide) (by decide)⟩
  show Q0 Z q0 q1 q2 q3 p4 h0 n0 _ T4.heap _
  rw [e4]
  exact ⟨rfl, N4⟩
set_option maxRecDepth 65536 in
set_option maxHeartbeats 40000000 in
theorem comes_1 {Post : Tables → Env → Array Value → State → Outcome → State → Prop} (hpost : ∀ tb e args s v u, (limb_1_1.after args s (.returned v) u = true ∧ limb_1_2.after args s (.returned v) u = true ∧ True) → FrameEnd s (.returned v) u (Jvm.fieldLocs frame_1_writes args s ++ Jvm.arrayLocs frame_1_arrays args s ++ Jvm.staticLocs frame_1_statics s) 0 0 → Post tb e args s (.returned v) u) :
    ArmFor flags0 classFile x code maxLocals ret World_1 tables_1 room_1 Calls_1 rest_1 Pre_1 Post := by
  intro l hfl _ _ p e ha hc hk s m args below hf hA hF happ hP
  obtain ⟨hcalls, hrest, hpre⟩ := hP
  obtain ⟨-, -, -, hnamed, -, -, -, hat⟩ := (Spec.applies_iff hf).mp happ
  obtain ⟨hg, hn⟩ := and_e (Cond.before_iff.mp (show (Jvm.Cond.and given_1 narrow_1).before args s = true from hpre))
  obtain ⟨g1, g2⟩ := and_e hg
  obtain ⟨g3, g4⟩ := and_e g2
  obtain ⟨g5, g6⟩ := and_e g4
  obtain ⟨g7, g8⟩ := and_e g6
  obtain ⟨g9, g10⟩ := and_e g8
  obtain ⟨w0, w1, w2, w3, w4, rfl⟩ : ∃ w0 w1 w2 w3 w4 : Value, args = #[w0, w1, w2, w3, w4] := by
    have hs : args.size = 5 := by simpa [Cond.value, given_1] using g1
    obtain ⟨L⟩ := args
    match L, hs with
    | [w0, w1, w2, w3, w4], _ => exact ⟨w0, w1, w2, w3, w4, rfl⟩
  have hw := fun d (hd : d ∈ tables_1) => atoms_spec (ws := Jvm.Cond.code x code maxLocals ret :: tables_1) hat d (List.mem_cons_of_mem _ hd)
  have hfit : Fit s := fun {y c} hc i hi => by
    obtain ⟨ha, rfl⟩ := Array.getElem?_eq_some_iff.mp hc
    have q := List.all_eq_true.mp ((Array.all_eq_true_iff_forall_mem.mp hF) _ (Array.getElem_mem ha)) i (List.mem_range.mpr hi)
    simpa [Array.getElem?_eq_getElem hi] using q
  obtain ⟨i0, ei0⟩ := isL_v g3
  obtain rfl : w0 = (.long i0) := Option.some.inj ei0
  obtain ⟨i1, ei1⟩ := isL_v g5
  obtain rfl : w1 = (.long i1) := Option.some.inj ei1
  obtain ⟨i2, ei2⟩ := isL_v g7
  obtain rfl : w2 = (.long i2) := Option.some.inj ei2
  obtain ⟨i3, ei3⟩ := isL_v g9
  obtain rfl : w3 = (.long i3) := Option.some.inj ei3
  obtain ⟨i4, ei4⟩ := is_v g10
  obtain rfl : w4 = (.int i4) := Option.some.inj ei4
  obtain ⟨n, o, h1, h2, h3, _, L, rfl, ⟨rfl, N⟩, hq⟩ := rm0 l s _ hw tables_1 i0 i1 i2 i3 i4 s.heap s.heap.size (Nat.le_refl _)  p e ha hc hk s m _ below hf ((Spec.applies_iff_loose hf).mp happ).1 ⟨rfl, State.Warmed39.refl s, rfl⟩ trivial
  refine ⟨n, _, h1, h2, h3, hpost _ _ _ _ _ _ ⟨Cond.after_iff.mpr rfl, Cond.after_iff.mpr (eq_i res_at (Term.int_eval (1)) rfl), trivial⟩ ⟨hq.1, hq.2.1, (hq.2.2.sift fun y hy => Or.inr (N y hy)).mono (by decide) (by decide)⟩⟩
theorem main_1_1 : Claimed_1_1 := comes_1 fun _ _ _ _ _ _ h hF => ⟨h.1, hF⟩
theorem main_1_2 : Claimed_1_2 := comes_1 fun _ _ _ _ _ _ h hF => ⟨h.2.1, hF⟩
end Jvm.Pilot.@@N@@
namespace Jvm.Pilot.@@N@@
open Jvm Jvm.ClassFile Sem Op Lib Jvm.Free Jvm.Stand Jvm.Pilot.@@N@@.Jvm.D
/-! MADE BY PROGRAM (witnessworld.py) out of the Statement's table words and the real class files: 10 classes; the members and pool entries that the words name. The judged class is class 1, her method 1. -/
namespace start1
open Jvm.ClassFile
def u (s : String) : CpInfo := .utf8 (stringToUtf16 s)
/-- a pool by its gaps: so many unusable entries, then the entry; so many at the end -/
def gap : Nat → List CpInfo → List CpInfo
  | 0, r => r
  | n + 1, r => .unusable :: gap n r
def poolList (es : List (Nat × CpInfo)) (last : Nat) : List CpInfo := es.foldr (fun e r => gap e.1 (e.2 :: r)) (gap last [])
def pool (es : List (Nat × CpInfo)) (last : Nat) : Array CpInfo := ⟨poolList es last⟩
def fileOf (pool : Array CpInfo) (this : Nat) (attrs : Array Attribute := #[]) (ms : Array MethodInfo := #[]) (fl : Nat := 33) (sup : Nat := 0) (ifs : Array Nat := #[]) (fds : Array FieldInfo := #[]) : ClassFile where
  minorVersion := 0
  majorVersion := 65
  constantPool := pool
  accessFlags := fl
  thisClass := this
  superClass := sup
  interfaces := ifs
  fields := fds
  methods := ms
  attributes := attrs
def plain (name : String) (sup : Option ClassId) : Class where
  name := name
  kind := .ordinary
  loader := none
  accessFlags := 33
  super := sup
  interfaces := #[]
  cf := none
  fields := #[]
  methods := #[]
  instanceTypes := #[]
  staticTypes := #[]
  resolved := #[]
  callSites := []
  init := .initialized
  statics := none
  mirror := none

def pool0 : Array CpInfo := pool [(5, u "<init>"), (0, u "()V"), (1, .class_ 10), (1, u "java/lang/Object")] 113

def k0m0 : Method := { name := "<init>", desc := "()V", sig := { parameters := [], returnType := none }, accessFlags := 1, code := none }
/-- java/lang/Object -/
def k0 : Class := { plain "java/lang/Object" none with
  accessFlags := 33
  interfaces := #[]
  cf := some (fileOf pool0 8 #[] #[{ accessFlags := 1, nameIndex := 5, descriptorIndex := 6, attributes := #[] }] 33 0 #[] #[])
  fields := #[]
  methods := #[k0m0]
  instanceTypes := #[]
  staticTypes := #[]
  resolved := Array.replicate 124 none
  statics := none }

def pool1 : Array CpInfo := pool [(2, .class_ 4), (1, u "java/lang/Object"), (0, u "<init>"), (0, u "()V"), (0, .methodref 8 9), (0, .class_ 10), (0, .nameAndType 11 12), (0, u "org/shardwright/model/DocumentVersion"), (0, u "isLater"), (0, u "(JJJJ)Z"), (0, .class_ 14), (0, u "org/shardwright/model/DocumentVersionIsLaterPinLaw"), (2, u "law"), (0, u "(JJJJI)Z")] 3

def k1m0 : Method := { name := "<init>", desc := "()V", sig := { parameters := [], returnType := none }, accessFlags := 1, code := none }
def k1c1 : Code := { maxStack := 8, maxLocals := 18, code := code, exceptionTable := #[], attributes := #[] }
def k1m1 : Method := { name := "law", desc := "(JJJJI)Z", sig := { parameters := [.long, .long, .long, .long, .int], returnType := some .boolean }, accessFlags := 9, code := some k1c1 }
/-- org/shardwright/model/DocumentVersionIsLaterPinLaw -/
def k1 : Class := { plain "org/shardwright/model/DocumentVersionIsLaterPinLaw" (some 0) with
  accessFlags := 49
  interfaces := #[]
  cf := some (fileOf pool1 13 #[] #[{ accessFlags := 1, nameIndex := 5, descriptorIndex := 6, attributes := #[] }, { accessFlags := 9, nameIndex := 17, descriptorIndex := 18, attributes := #[] }] 49 2 #[] #[])
  fields := #[]
  methods := #[k1m0, k1m1]
  instanceTypes := #[]
  staticTypes := #[]
  resolved := Array.replicate 22 none
  statics := none }

def pool2 : Array CpInfo := pool [(2, .class_ 4), (1, u "java/lang/Object"), (0, u "<init>"), (0, u "()V"), (0, .class_ 8), (0, u "java/lang/Record")] 13

def k2m0 : Method := { name := "<init>", desc := "()V", sig := { parameters := [], returnType := none }, accessFlags := 4, code := none }
/-- java/lang/Record -/
def k2 : Class := { plain "java/lang/Record" (some 0) with
  accessFlags := 1057
  interfaces := #[]
  cf := some (fileOf pool2 7 #[] #[{ accessFlags := 4, nameIndex := 5, descriptorIndex := 6, attributes := #[] }] 1057 2 #[] #[])
  fields := #[]
  methods := #[k2m0]
  instanceTypes := #[]
  staticTypes := #[]
  resolved := Array.replicate 22 none
  statics := none }

def pool3 : Array CpInfo := pool [(2, .class_ 4), (1, u "java/lang/Record"), (3, .class_ 10), (1, u "org/shardwright/model/DocumentVersion"), (0, u "seqNo"), (0, u "J"), (2, u "primaryTerm"), (2, u "version"), (2, u "deleted"), (0, u "Z"), (16, u "isLater"), (0, u "(JJJJ)Z")] 29

def k3c0 : Code := { maxStack := 4, maxLocals := 8, code := prog_21_method_2_code, exceptionTable := #[], attributes := #[] }
def k3m0 : Method := { name := "isLater", desc := "(JJJJ)Z", sig := { parameters := [.long, .long, .long, .long], returnType := some .boolean }, accessFlags := 9, code := some k3c0 }
/-- org/shardwright/model/DocumentVersion -/
def k3 : Class := { plain "org/shardwright/model/DocumentVersion" (some 2) with
  accessFlags := 49
  interfaces := #[]
  cf := some (fileOf pool3 8 #[] #[{ accessFlags := 9, nameIndex := 39, descriptorIndex := 40, attributes := #[] }] 49 2 #[] #[{ accessFlags := 18, nameIndex := 11, descriptorIndex := 12, attributes := #[] }, { accessFlags := 18, nameIndex := 15, descriptorIndex := 12, attributes := #[] }, { accessFlags := 18, nameIndex := 18, descriptorIndex := 12, attributes := #[] }, { accessFlags := 18, nameIndex := 21, descriptorIndex := 22, attributes := #[] }])
  fields := #[{ name := "seqNo", type := .long, accessFlags := 18, slot := 0, constantValue := 0 }, { name := "primaryTerm", type := .long, accessFlags := 18, slot := 1, constantValue := 0 }, { name := "version", type := .long, accessFlags := 18, slot := 2, constantValue := 0 }, { name := "deleted", type := .boolean, accessFlags := 18, slot := 3, constantValue := 0 }]
  methods := #[k3m0]
  instanceTypes := #[.long, .long, .long, .boolean]
  staticTypes := #[]
  resolved := Array.replicate 70 none
  statics := none }

def pool4 : Array CpInfo := pool [(1, u "java/lang/Cloneable"), (0, .class_ 1), (0, u "java/lang/Object"), (0, .class_ 3)] 3

/-- java/lang/Cloneable -/
def k4 : Class := { plain "java/lang/Cloneable" (some 0) with
  accessFlags := 1537
  interfaces := #[]
  cf := some (fileOf pool4 2 #[] #[] 1537 4 #[] #[])
  fields := #[]
  methods := #[]
  instanceTypes := #[]
  staticTypes := #[]
  resolved := Array.replicate 8 none
  statics := none }

def pool5 : Array CpInfo := pool [(1, u "java/io/Serializable"), (0, .class_ 1), (0, u "java/lang/Object"), (0, .class_ 3)] 3

/-- java/io/Serializable -/
def k5 : Class := { plain "java/io/Serializable" (some 0) with
  accessFlags := 1537
  interfaces := #[]
  cf := some (fileOf pool5 2 #[] #[] 1537 4 #[] #[])
  fields := #[]
  methods := #[]
  instanceTypes := #[]
  staticTypes := #[]
  resolved := Array.replicate 8 none
  statics := none }

/-- the primitive byte -/
def k6 : Class := { plain "byte" none with kind := .primitive 'B', accessFlags := 0x411 }
/-- [B -/
def k7 : Class := { plain "[B" (some 0) with kind := .array 6 .byte, interfaces := #[4, 5], accessFlags := 1041 }

/-- the primitive int -/
def k8 : Class := { plain "int" none with kind := .primitive 'I', accessFlags := 0x411 }
/-- [I -/
def k9 : Class := { plain "[I" (some 0) with kind := .array 8 .int, interfaces := #[4, 5], accessFlags := 1041 }

def heap : Heap := #[]
def classes : Array Class := #[k0, k1, k2, k3, k4, k5, k6, k7, k8, k9]
def interned : List (Array UInt16 × Addr) := []
def slotsUsed : Nat := 0
def theMethod : MethodId := ⟨1, 1⟩
def args0 : Array Value := #[.long 5, .long 7, .long 9, .long 3, .int 2]
def aboutOver (below : List Frame) : State where
  vm := { classes := classes, interned := interned.toArray }
  heap := heap
  slotsUsed := slotsUsed
  threads := #[{ frames := .invoking theMethod args0 :: below }]
def below0 : List Frame := [.native { method := ⟨0, 0⟩, args := #[] }]
def about1 : State := aboutOver below0
def p0 : Program := .bare "" "" ""
def e0 : Env := launch0.env 0 0 0
theorem w_frames : about1.frames = Frame.invoking theMethod args0 :: below0 := rfl
set_option maxRecDepth 65536 in
theorem w_args : argsFit about1.vm theMethod args0 = true := by decide +kernel
set_option maxRecDepth 65536 in
theorem w_heap : heapFits about1 = true := by decide +kernel
set_option maxRecDepth 65536 in
theorem w_runnable : about1.curStatus? = some .runnable := by decide +kernel
set_option maxRecDepth 65536 in
theorem w_alone : about1.alone = true := by decide +kernel
set_option maxRecDepth 65536 in
theorem w_named : about1.methodNamed? x = some theMethod := by decide +kernel
set_option maxRecDepth 65536 in
theorem w_hears : about1.hears theMethod below0 = true := by decide +kernel
set_option maxRecDepth 65536 in
theorem w_ripe : about1.ripe theMethod args0 below0 = true := by decide +kernel
theorem w_running : about1.status = .running := rfl
set_option maxRecDepth 65536 in
theorem w_room : about1.hasRoom e0.platform room_1 = true :=
  launch0.hasRoom_least _ room_1 (by decide +kernel) (by decide +kernel) (by decide +kernel) (by decide +kernel) (by decide +kernel) (by decide +kernel)
theorem allAtoms_all (ts : List Jvm.Cond) (a : Array Jvm.Value) (st : Jvm.State) : (allAtoms ts).before a st = ts.all (fun c => c.before a st) := by
  induction ts with
  | nil => rfl
  | cons c t ih =>
    show (Jvm.Cond.and c (allAtoms t)).before a st = _
    rw [Jvm.Cond.before_and, ih, List.all_cons]
def words1 : List Jvm.Cond := Jvm.Cond.code x code maxLocals ret :: tables_1
/-- a 'code' word, met by the world's own term for the bytes: nothing is compared byte by byte -/
theorem code_word {y : MethodName} {bytes : ByteArray} {mx : Nat} {rt : Option FieldType} {a : Array Value} {s : State} {m : MethodId} {meth : Method} {c : Code} (h1 : s.methodNamed? y = some m) (h2 : s.vm.method? m = some meth) (h3 : meth.code = some c) (h4 : c.code = bytes)
    (h5 : (c.maxLocals == mx && c.exceptionTable.isEmpty && decide (c.maxStack ≤ mostOperands) && decide (meth.sig.returnType = rt) && !meth.locks && decide (parseMethodDescriptor y.desc = some meth.sig)) = true) : (Jvm.Cond.code y bytes mx rt).before a s = true := by
  simp only [Bool.and_eq_true, beq_iff_eq, Bool.not_eq_true', decide_eq_true_eq] at h5
  obtain ⟨⟨⟨⟨⟨g1, g2⟩, g3⟩, g4⟩, g5⟩, g6⟩ := h5
  simp [Cond.before, Cond.holds, Cond.value, h1, h2, h3, h4, g1, g2, g3, g4, g5, g6]
def isCode : Jvm.Cond → Bool
  | .code _ _ _ _ => true
  | _ => false
theorem all_split {L : List Jvm.Cond} {P : Jvm.Cond → Bool} (h1 : L.all (fun c => isCode c || P c) = true) (h2 : ∀ c ∈ L.filter isCode, P c = true) : L.all P = true := by
  refine List.all_eq_true.mpr fun c hc => ?_
  have h := List.all_eq_true.mp h1 c hc
  rcases Bool.eq_false_or_eq_true (isCode c) with hi | hi
  · exact h2 c (List.mem_filter.mpr ⟨hc, hi⟩)
  · simpa [hi] using h
set_option maxRecDepth 65536 in
theorem w_c0 : (Jvm.Cond.code x code maxLocals ret).before args0 about1 = true := code_word (m := ⟨1, 1⟩) (meth := k1m1) (c := k1c1) (by decide +kernel) rfl rfl rfl (by decide +kernel)
set_option maxRecDepth 65536 in
theorem w_c1 : (Jvm.Cond.code ({ cls := "org/shardwright/model/DocumentVersion", name := "isLater", desc := "(JJJJ)Z" } : Jvm.MethodName) prog_21_method_2_code (8 : Nat) (Option.some Jvm.ClassFile.FieldType.boolean)).before args0 about1 = true := code_word (m := ⟨3, 0⟩) (meth := k3m0) (c := k3c0) (by decide +kernel) rfl rfl rfl (by decide +kernel)
def codes1 : List Jvm.Cond := [Jvm.Cond.code x code maxLocals ret, Jvm.Cond.code ({ cls := "org/shardwright/model/DocumentVersion", name := "isLater", desc := "(JJJJ)Z" } : Jvm.MethodName) prog_21_method_2_code (8 : Nat) (Option.some Jvm.ClassFile.FieldType.boolean)]
set_option maxRecDepth 65536 in
theorem codes_eq : words1.filter isCode = codes1 := rfl
theorem w_codes : ∀ c ∈ words1.filter isCode, c.before args0 about1 = true := by
  rw [codes_eq]
  intro c hc
  simp only [codes1, List.mem_cons, List.not_mem_nil, or_false] at hc
  rcases hc with rfl | rfl
  · exact w_c0
  · exact w_c1
set_option maxRecDepth 65536 in
theorem w_t1 : words1.all (fun c => isCode c || c.before args0 about1) = true := by decide +kernel
theorem w_tables : (allAtoms (Jvm.Cond.code x code maxLocals ret :: tables_1)).before args0 about1 = true := by
  rw [allAtoms_all]
  show words1.all (fun c => c.before args0 about1) = true
  refine all_split ?_ w_codes
  rw [w_t1]
set_option maxRecDepth 65536 in
theorem w_case : (Jvm.Cond.and given_1 narrow_1).before args0 about1 = true := by decide +kernel
theorem w_applies : (headSpec (Jvm.Cond.code x code maxLocals ret :: tables_1) room_1).applies x e0.platform about1 = true :=
  (Spec.applies_iff w_frames).mpr ⟨w_running, w_runnable, w_alone, w_named, w_hears, w_ripe, w_room, w_tables⟩
theorem atStart : AtStart classFile x code maxLocals ret World_1 tables_1 room_1 Calls_1 rest_1 Pre_1 launch0 p0 e0 about1 theMethod args0 below0 :=
  ⟨lists_1, trivial, launch0.admits_env _ _ _, launch0.least_env, fairChoices_fair.cas, fairChoices_fair.clock, w_frames, w_args, w_heap, w_applies, trivial, trivial, w_case⟩
end start1
theorem witness_1 : WitnessClaimed_1 := ⟨start1.p0, start1.e0, start1.about1, start1.theMethod, start1.args0, start1.below0, start1.atStart⟩
end Jvm.Pilot.@@N@@
