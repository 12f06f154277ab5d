import JvmDerived
import JvmDerived.Pilot.@@N@@Statement
import JvmDerived.Pilot.@@N@@Code
set_option linter.unusedVariables false
set_option linter.unusedSimpArgs false
namespace Jvm.Pilot.@@N@@
open Jvm Jvm.ClassFile Sem Op Lib Jvm.Free Jvm.Stand Jvm.LawKit Jvm.RoadKit Bundle Jvm.Pilot.@@N@@.Jvm.D
/-- from A the run comes to B -/
abbrev Go (p : Program) (e : Env) (below : List Frame) (A B : State) : Prop := ∀ t, Steps p.tables e below B t → Steps p.tables e below A t
section Own
variable {p : Program} {l : Launch} {e : Env} {R : Room} {s : State} {m : MethodId} {args : Array Value} {below : List Frame} {meth : Method} {c : Code} {T : State} {locs : List Loc} {cells slots : Nat} {t : State} {A : ByteArray} {pc : Nat} {L : Array Slot} {S : List Value}
theorem o_iloadN (X : Stand p l e R s m args below meth c T locs cells slots) (hx : p.tables.exec = Jvm.exec) (hby : c.code = A) {k : Fin 4} {v : Int32} (hd : decode A pc = .ok (.iload_n k, 1)) (n : Nat) (hn : pc + 1 = n) (hl : L[k.val]? = some (.val (.int v))) (hr : Steps p.tables e below (T.setTop (mkF m n L (.int v :: S))) t) : Steps p.tables e below (T.setTop (mkF m pc L S)) t := by
  subst hn; exact XS.iloadN X.here hx rfl (hb hby hd) hl hr
theorem o_lloadN (X : Stand p l e R s m args below meth c T locs cells slots) (hx : p.tables.exec = Jvm.exec) (hby : c.code = A) {k : Fin 4} {v : Int64} (hd : decode A pc = .ok (.lload_n k, 1)) (n : Nat) (hn : pc + 1 = n) (hl : L[k.val]? = some (.val (.long v))) (hr : Steps p.tables e below (T.setTop (mkF m n L (.long v :: S))) t) : Steps p.tables e below (T.setTop (mkF m pc L S)) t := by
  subst hn; exact XS.lloadN X.here hx rfl (hb hby hd) hl hr
theorem o_aloadN (X : Stand p l e R s m args below meth c T locs cells slots) (hx : p.tables.exec = Jvm.exec) (hby : c.code = A) {k : Fin 4} {v : Value} (hd : decode A pc = .ok (.aload_n k, 1)) (n : Nat) (hn : pc + 1 = n) (hl : L[k.val]? = some (.val v)) (hv : v.isRef = true) (hr : Steps p.tables e below (T.setTop (mkF m n L (v :: S))) t) : Steps p.tables e below (T.setTop (mkF m pc L S)) t := by
  subst hn; exact XS.aloadN X.here hx rfl (hb hby hd) hl hv hr
theorem o_istoreN (X : Stand p l e R s m args below meth c T locs cells slots) (hx : p.tables.exec = Jvm.exec) (hby : c.code = A) {k : Fin 4} {v : Int32} {l' : Array Slot} (hd : decode A pc = .ok (.istore_n k, 1)) (n : Nat) (hn : pc + 1 = n) (hl : storeLocals L k.val (.int v) = some l') (hr : Steps p.tables e below (T.setTop (mkF m n l' S)) t) : Steps p.tables e below (T.setTop (mkF m pc L (.int v :: S))) t := by
  subst hn; exact XS.istoreN X.here hx rfl (hb hby hd) rfl hl hr
theorem o_lstoreN (X : Stand p l e R s m args below meth c T locs cells slots) (hx : p.tables.exec = Jvm.exec) (hby : c.code = A) {k : Fin 4} {v : Int64} {l' : Array Slot} (hd : decode A pc = .ok (.lstore_n k, 1)) (n : Nat) (hn : pc + 1 = n) (hl : storeLocals L k.val (.long v) = some l') (hr : Steps p.tables e below (T.setTop (mkF m n l' S)) t) : Steps p.tables e below (T.setTop (mkF m pc L (.long v :: S))) t := by
  subst hn; exact XS.lstoreN X.here hx rfl (hb hby hd) rfl hl hr
theorem o_astoreN (X : Stand p l e R s m args below meth c T locs cells slots) (hx : p.tables.exec = Jvm.exec) (hby : c.code = A) {k : Fin 4} {v : Value} {l' : Array Slot} (hd : decode A pc = .ok (.astore_n k, 1)) (n : Nat) (hn : pc + 1 = n) (hv : v.isRef = true) (hl : storeLocals L k.val v = some l') (hr : Steps p.tables e below (T.setTop (mkF m n l' S)) t) : Steps p.tables e below (T.setTop (mkF m pc L (v :: S))) t := by
  subst hn; exact XS.astoreN X.here hx rfl (hb hby hd) rfl hv hl hr
theorem o_iload (X : Stand p l e R s m args below meth c T locs cells slots) (hx : p.tables.exec = Jvm.exec) (hby : c.code = A) {k : Nat} {v : Int32} (hd : decode A pc = .ok (.iload k, 2)) (n : Nat) (hn : pc + 2 = n) (hl : L[k]? = some (.val (.int v))) (hr : Steps p.tables e below (T.setTop (mkF m n L (.int v :: S))) t) : Steps p.tables e below (T.setTop (mkF m pc L S)) t := by
  subst hn; exact XS.iload X.here hx rfl (hb hby hd) hl hr
theorem o_lload (X : Stand p l e R s m args below meth c T locs cells slots) (hx : p.tables.exec = Jvm.exec) (hby : c.code = A) {k : Nat} {v : Int64} (hd : decode A pc = .ok (.lload k, 2)) (n : Nat) (hn : pc + 2 = n) (hl : L[k]? = some (.val (.long v))) (hr : Steps p.tables e below (T.setTop (mkF m n L (.long v :: S))) t) : Steps p.tables e below (T.setTop (mkF m pc L S)) t := by
  subst hn; exact XS.lload X.here hx rfl (hb hby hd) hl hr
theorem o_aload (X : Stand p l e R s m args below meth c T locs cells slots) (hx : p.tables.exec = Jvm.exec) (hby : c.code = A) {k : Nat} {v : Value} (hd : decode A pc = .ok (.aload k, 2)) (n : Nat) (hn : pc + 2 = n) (hl : L[k]? = some (.val v)) (hv : v.isRef = true) (hr : Steps p.tables e below (T.setTop (mkF m n L (v :: S))) t) : Steps p.tables e below (T.setTop (mkF m pc L S)) t := by
  subst hn; exact XS.aload X.here hx rfl (hb hby hd) hl hv hr
theorem o_istore (X : Stand p l e R s m args below meth c T locs cells slots) (hx : p.tables.exec = Jvm.exec) (hby : c.code = A) {k : Nat} {v : Int32} {l' : Array Slot} (hd : decode A pc = .ok (.istore k, 2)) (n : Nat) (hn : pc + 2 = n) (hl : storeLocals L k (.int v) = some l') (hr : Steps p.tables e below (T.setTop (mkF m n l' S)) t) : Steps p.tables e below (T.setTop (mkF m pc L (.int v :: S))) t := by
  subst hn; exact XS.istore X.here hx rfl (hb hby hd) rfl hl hr
theorem o_lstore (X : Stand p l e R s m args below meth c T locs cells slots) (hx : p.tables.exec = Jvm.exec) (hby : c.code = A) {k : Nat} {v : Int64} {l' : Array Slot} (hd : decode A pc = .ok (.lstore k, 2)) (n : Nat) (hn : pc + 2 = n) (hl : storeLocals L k (.long v) = some l') (hr : Steps p.tables e below (T.setTop (mkF m n l' S)) t) : Steps p.tables e below (T.setTop (mkF m pc L (.long v :: S))) t := by
  subst hn; exact XS.lstore X.here hx rfl (hb hby hd) rfl hl hr
theorem o_astore (X : Stand p l e R s m args below meth c T locs cells slots) (hx : p.tables.exec = Jvm.exec) (hby : c.code = A) {k : Nat} {v : Value} {l' : Array Slot} (hd : decode A pc = .ok (.astore k, 2)) (n : Nat) (hn : pc + 2 = n) (hv : v.isRef = true) (hl : storeLocals L k v = some l') (hr : Steps p.tables e below (T.setTop (mkF m n l' S)) t) : Steps p.tables e below (T.setTop (mkF m pc L (v :: S))) t := by
  subst hn; exact XS.astore X.here hx rfl (hb hby hd) rfl hv hl hr
theorem o_iconst (X : Stand p l e R s m args below meth c T locs cells slots) (hx : p.tables.exec = Jvm.exec) (hby : c.code = A) {i : Int} (hd : decode A pc = .ok (.iconst i, 1)) (n : Nat) (hn : pc + 1 = n) {v : Int32} (hv : Int32.ofInt i = v) (hr : Steps p.tables e below (T.setTop (mkF m n L (.int v :: S))) t) : Steps p.tables e below (T.setTop (mkF m pc L S)) t := by
  subst hn; subst hv; exact XS.iconst X.here hx rfl (hb hby hd) hr
theorem o_bipush (X : Stand p l e R s m args below meth c T locs cells slots) (hx : p.tables.exec = Jvm.exec) (hby : c.code = A) {i : Int} (hd : decode A pc = .ok (.bipush i, 2)) (n : Nat) (hn : pc + 2 = n) {v : Int32} (hv : (Int8.ofInt i).toInt32 = v) (hr : Steps p.tables e below (T.setTop (mkF m n L (.int v :: S))) t) : Steps p.tables e below (T.setTop (mkF m pc L S)) t := by
  subst hn; subst hv; exact XS.bipush X.here hx rfl (hb hby hd) hr
theorem o_sipush (X : Stand p l e R s m args below meth c T locs cells slots) (hx : p.tables.exec = Jvm.exec) (hby : c.code = A) {i : Int} (hd : decode A pc = .ok (.sipush i, 3)) (n : Nat) (hn : pc + 3 = n) {v : Int32} (hv : (Int16.ofInt i).toInt32 = v) (hr : Steps p.tables e below (T.setTop (mkF m n L (.int v :: S))) t) : Steps p.tables e below (T.setTop (mkF m pc L S)) t := by
  subst hn; subst hv; exact XS.sipush X.here hx rfl (hb hby hd) hr
theorem o_lconst (X : Stand p l e R s m args below meth c T locs cells slots) (hx : p.tables.exec = Jvm.exec) (hby : c.code = A) {i : Fin 2} (hd : decode A pc = .ok (.lconst i, 1)) (n : Nat) (hn : pc + 1 = n) {v : Int64} (hv : Int64.ofNat i.val = v) (hr : Steps p.tables e below (T.setTop (mkF m n L (.long v :: S))) t) : Steps p.tables e below (T.setTop (mkF m pc L S)) t := by
  subst hn; subst hv; exact XS.lconst X.here hx rfl (hb hby hd) hr
theorem o_aconstNull (X : Stand p l e R s m args below meth c T locs cells slots) (hx : p.tables.exec = Jvm.exec) (hby : c.code = A) (hd : decode A pc = .ok (.aconst_null, 1)) (n : Nat) (hn : pc + 1 = n) (hr : Steps p.tables e below (T.setTop (mkF m n L (.null :: S))) t) : Steps p.tables e below (T.setTop (mkF m pc L S)) t := by
  subst hn; exact XS.aconstNull X.here hx rfl (hb hby hd) hr
theorem o_iadd (X : Stand p l e R s m args below meth c T locs cells slots) (hx : p.tables.exec = Jvm.exec) (hby : c.code = A) {x y : Int32} (hd : decode A pc = .ok (.iadd, 1)) (n : Nat) (hn : pc + 1 = n) (hr : Steps p.tables e below (T.setTop (mkF m n L (.int (x + y) :: S))) t) : Steps p.tables e below (T.setTop (mkF m pc L (.int y :: .int x :: S))) t := by
  subst hn; exact XS.iadd X.here hx rfl (hb hby hd) rfl hr
theorem o_ladd (X : Stand p l e R s m args below meth c T locs cells slots) (hx : p.tables.exec = Jvm.exec) (hby : c.code = A) {x y : Int64} (hd : decode A pc = .ok (.ladd, 1)) (n : Nat) (hn : pc + 1 = n) (hr : Steps p.tables e below (T.setTop (mkF m n L (.long (x + y) :: S))) t) : Steps p.tables e below (T.setTop (mkF m pc L (.long y :: .long x :: S))) t := by
  subst hn; exact XS.ladd X.here hx rfl (hb hby hd) rfl hr
theorem o_isub (X : Stand p l e R s m args below meth c T locs cells slots) (hx : p.tables.exec = Jvm.exec) (hby : c.code = A) {x y : Int32} (hd : decode A pc = .ok (.isub, 1)) (n : Nat) (hn : pc + 1 = n) (hr : Steps p.tables e below (T.setTop (mkF m n L (.int (x - y) :: S))) t) : Steps p.tables e below (T.setTop (mkF m pc L (.int y :: .int x :: S))) t := by
  subst hn; exact XS.isub X.here hx rfl (hb hby hd) rfl hr
theorem o_lsub (X : Stand p l e R s m args below meth c T locs cells slots) (hx : p.tables.exec = Jvm.exec) (hby : c.code = A) {x y : Int64} (hd : decode A pc = .ok (.lsub, 1)) (n : Nat) (hn : pc + 1 = n) (hr : Steps p.tables e below (T.setTop (mkF m n L (.long (x - y) :: S))) t) : Steps p.tables e below (T.setTop (mkF m pc L (.long y :: .long x :: S))) t := by
  subst hn; exact XS.lsub X.here hx rfl (hb hby hd) rfl hr
theorem o_imul (X : Stand p l e R s m args below meth c T locs cells slots) (hx : p.tables.exec = Jvm.exec) (hby : c.code = A) {x y : Int32} (hd : decode A pc = .ok (.imul, 1)) (n : Nat) (hn : pc + 1 = n) (hr : Steps p.tables e below (T.setTop (mkF m n L (.int (x * y) :: S))) t) : Steps p.tables e below (T.setTop (mkF m pc L (.int y :: .int x :: S))) t := by
  subst hn; exact XS.imul X.here hx rfl (hb hby hd) rfl hr
theorem o_lmul (X : Stand p l e R s m args below meth c T locs cells slots) (hx : p.tables.exec = Jvm.exec) (hby : c.code = A) {x y : Int64} (hd : decode A pc = .ok (.lmul, 1)) (n : Nat) (hn : pc + 1 = n) (hr : Steps p.tables e below (T.setTop (mkF m n L (.long (x * y) :: S))) t) : Steps p.tables e below (T.setTop (mkF m pc L (.long y :: .long x :: S))) t := by
  subst hn; exact XS.lmul X.here hx rfl (hb hby hd) rfl hr
theorem o_iand (X : Stand p l e R s m args below meth c T locs cells slots) (hx : p.tables.exec = Jvm.exec) (hby : c.code = A) {x y : Int32} (hd : decode A pc = .ok (.iand, 1)) (n : Nat) (hn : pc + 1 = n) (hr : Steps p.tables e below (T.setTop (mkF m n L (.int (x &&& y) :: S))) t) : Steps p.tables e below (T.setTop (mkF m pc L (.int y :: .int x :: S))) t := by
  subst hn; exact XS.iand X.here hx rfl (hb hby hd) rfl hr
theorem o_land (X : Stand p l e R s m args below meth c T locs cells slots) (hx : p.tables.exec = Jvm.exec) (hby : c.code = A) {x y : Int64} (hd : decode A pc = .ok (.land, 1)) (n : Nat) (hn : pc + 1 = n) (hr : Steps p.tables e below (T.setTop (mkF m n L (.long (x &&& y) :: S))) t) : Steps p.tables e below (T.setTop (mkF m pc L (.long y :: .long x :: S))) t := by
  subst hn; exact XS.land X.here hx rfl (hb hby hd) rfl hr
theorem o_ior (X : Stand p l e R s m args below meth c T locs cells slots) (hx : p.tables.exec = Jvm.exec) (hby : c.code = A) {x y : Int32} (hd : decode A pc = .ok (.ior, 1)) (n : Nat) (hn : pc + 1 = n) (hr : Steps p.tables e below (T.setTop (mkF m n L (.int (x ||| y) :: S))) t) : Steps p.tables e below (T.setTop (mkF m pc L (.int y :: .int x :: S))) t := by
  subst hn; exact XS.ior X.here hx rfl (hb hby hd) rfl hr
theorem o_lor (X : Stand p l e R s m args below meth c T locs cells slots) (hx : p.tables.exec = Jvm.exec) (hby : c.code = A) {x y : Int64} (hd : decode A pc = .ok (.lor, 1)) (n : Nat) (hn : pc + 1 = n) (hr : Steps p.tables e below (T.setTop (mkF m n L (.long (x ||| y) :: S))) t) : Steps p.tables e below (T.setTop (mkF m pc L (.long y :: .long x :: S))) t := by
  subst hn; exact XS.lor X.here hx rfl (hb hby hd) rfl hr
theorem o_ixor (X : Stand p l e R s m args below meth c T locs cells slots) (hx : p.tables.exec = Jvm.exec) (hby : c.code = A) {x y : Int32} (hd : decode A pc = .ok (.ixor, 1)) (n : Nat) (hn : pc + 1 = n) (hr : Steps p.tables e below (T.setTop (mkF m n L (.int (x ^^^ y) :: S))) t) : Steps p.tables e below (T.setTop (mkF m pc L (.int y :: .int x :: S))) t := by
  subst hn; exact XS.ixor X.here hx rfl (hb hby hd) rfl hr
theorem o_lxor (X : Stand p l e R s m args below meth c T locs cells slots) (hx : p.tables.exec = Jvm.exec) (hby : c.code = A) {x y : Int64} (hd : decode A pc = .ok (.lxor, 1)) (n : Nat) (hn : pc + 1 = n) (hr : Steps p.tables e below (T.setTop (mkF m n L (.long (x ^^^ y) :: S))) t) : Steps p.tables e below (T.setTop (mkF m pc L (.long y :: .long x :: S))) t := by
  subst hn; exact XS.lxor X.here hx rfl (hb hby hd) rfl hr
theorem o_idiv (X : Stand p l e R s m args below meth c T locs cells slots) (hx : p.tables.exec = Jvm.exec) (hby : c.code = A) {x y : Int32} (hd : decode A pc = .ok (.idiv, 1)) (n : Nat) (hn : pc + 1 = n) (hy : ¬ (y = 0)) (hr : Steps p.tables e below (T.setTop (mkF m n L (.int (x / y) :: S))) t) : Steps p.tables e below (T.setTop (mkF m pc L (.int y :: .int x :: S))) t := by
  subst hn; exact XS.idiv X.here hx rfl (hb hby hd) rfl hy hr
theorem o_ldiv (X : Stand p l e R s m args below meth c T locs cells slots) (hx : p.tables.exec = Jvm.exec) (hby : c.code = A) {x y : Int64} (hd : decode A pc = .ok (.ldiv, 1)) (n : Nat) (hn : pc + 1 = n) (hy : ¬ (y = 0)) (hr : Steps p.tables e below (T.setTop (mkF m n L (.long (x / y) :: S))) t) : Steps p.tables e below (T.setTop (mkF m pc L (.long y :: .long x :: S))) t := by
  subst hn; exact XS.ldiv X.here hx rfl (hb hby hd) rfl hy hr
theorem o_irem (X : Stand p l e R s m args below meth c T locs cells slots) (hx : p.tables.exec = Jvm.exec) (hby : c.code = A) {x y : Int32} (hd : decode A pc = .ok (.irem, 1)) (n : Nat) (hn : pc + 1 = n) (hy : ¬ (y = 0)) (hr : Steps p.tables e below (T.setTop (mkF m n L (.int (x % y) :: S))) t) : Steps p.tables e below (T.setTop (mkF m pc L (.int y :: .int x :: S))) t := by
  subst hn; exact XS.irem X.here hx rfl (hb hby hd) rfl hy (by rw [irem_eq_mod]; exact hr)
theorem o_lrem (X : Stand p l e R s m args below meth c T locs cells slots) (hx : p.tables.exec = Jvm.exec) (hby : c.code = A) {x y : Int64} (hd : decode A pc = .ok (.lrem, 1)) (n : Nat) (hn : pc + 1 = n) (hy : ¬ (y = 0)) (hr : Steps p.tables e below (T.setTop (mkF m n L (.long (x % y) :: S))) t) : Steps p.tables e below (T.setTop (mkF m pc L (.long y :: .long x :: S))) t := by
  subst hn; exact XS.lrem X.here hx rfl (hb hby hd) rfl hy (by rw [lrem_mod]; exact hr)
theorem o_ineg (X : Stand p l e R s m args below meth c T locs cells slots) (hx : p.tables.exec = Jvm.exec) (hby : c.code = A) {x : Int32} (hd : decode A pc = .ok (.ineg, 1)) (n : Nat) (hn : pc + 1 = n) (hr : Steps p.tables e below (T.setTop (mkF m n L (.int (-x) :: S))) t) : Steps p.tables e below (T.setTop (mkF m pc L (.int x :: S))) t := by
  subst hn; exact XS.ineg X.here hx rfl (hb hby hd) rfl hr
theorem o_lneg (X : Stand p l e R s m args below meth c T locs cells slots) (hx : p.tables.exec = Jvm.exec) (hby : c.code = A) {x : Int64} (hd : decode A pc = .ok (.lneg, 1)) (n : Nat) (hn : pc + 1 = n) (hr : Steps p.tables e below (T.setTop (mkF m n L (.long (-x) :: S))) t) : Steps p.tables e below (T.setTop (mkF m pc L (.long x :: S))) t := by
  subst hn; exact XS.lneg X.here hx rfl (hb hby hd) rfl hr
theorem o_i2l (X : Stand p l e R s m args below meth c T locs cells slots) (hx : p.tables.exec = Jvm.exec) (hby : c.code = A) {x : Int32} (hd : decode A pc = .ok (.i2l, 1)) (n : Nat) (hn : pc + 1 = n) (hr : Steps p.tables e below (T.setTop (mkF m n L (.long (x.toInt64) :: S))) t) : Steps p.tables e below (T.setTop (mkF m pc L (.int x :: S))) t := by
  subst hn; exact XS.i2l X.here hx rfl (hb hby hd) rfl hr
theorem o_l2i (X : Stand p l e R s m args below meth c T locs cells slots) (hx : p.tables.exec = Jvm.exec) (hby : c.code = A) {x : Int64} (hd : decode A pc = .ok (.l2i, 1)) (n : Nat) (hn : pc + 1 = n) (hr : Steps p.tables e below (T.setTop (mkF m n L (.int (x.toInt32) :: S))) t) : Steps p.tables e below (T.setTop (mkF m pc L (.long x :: S))) t := by
  subst hn; exact XS.l2i X.here hx rfl (hb hby hd) rfl hr
theorem o_i2b (X : Stand p l e R s m args below meth c T locs cells slots) (hx : p.tables.exec = Jvm.exec) (hby : c.code = A) {x : Int32} (hd : decode A pc = .ok (.i2b, 1)) (n : Nat) (hn : pc + 1 = n) (hr : Steps p.tables e below (T.setTop (mkF m n L (.int (x.toInt8.toInt32) :: S))) t) : Steps p.tables e below (T.setTop (mkF m pc L (.int x :: S))) t := by
  subst hn; exact XS.i2b X.here hx rfl (hb hby hd) rfl hr
theorem o_i2s (X : Stand p l e R s m args below meth c T locs cells slots) (hx : p.tables.exec = Jvm.exec) (hby : c.code = A) {x : Int32} (hd : decode A pc = .ok (.i2s, 1)) (n : Nat) (hn : pc + 1 = n) (hr : Steps p.tables e below (T.setTop (mkF m n L (.int (x.toInt16.toInt32) :: S))) t) : Steps p.tables e below (T.setTop (mkF m pc L (.int x :: S))) t := by
  subst hn; exact XS.i2s X.here hx rfl (hb hby hd) rfl hr
theorem o_i2c (X : Stand p l e R s m args below meth c T locs cells slots) (hx : p.tables.exec = Jvm.exec) (hby : c.code = A) {x : Int32} (hd : decode A pc = .ok (.i2c, 1)) (n : Nat) (hn : pc + 1 = n) (hr : Steps p.tables e below (T.setTop (mkF m n L (.int (x.toUInt32.toUInt16.toUInt32.toInt32) :: S))) t) : Steps p.tables e below (T.setTop (mkF m pc L (.int x :: S))) t := by
  subst hn; exact XS.i2c X.here hx rfl (hb hby hd) rfl hr
theorem o_ishl (X : Stand p l e R s m args below meth c T locs cells slots) (hx : p.tables.exec = Jvm.exec) (hby : c.code = A) {x y : Int32} (hd : decode A pc = .ok (.ishl, 1)) (n : Nat) (hn : pc + 1 = n) (hr : Steps p.tables e below (T.setTop (mkF m n L (.int (x <<< (y &&& 31)) :: S))) t) : Steps p.tables e below (T.setTop (mkF m pc L (.int y :: .int x :: S))) t := by
  subst hn; exact XS.ishl X.here hx rfl (hb hby hd) rfl hr
theorem o_ishr (X : Stand p l e R s m args below meth c T locs cells slots) (hx : p.tables.exec = Jvm.exec) (hby : c.code = A) {x y : Int32} (hd : decode A pc = .ok (.ishr, 1)) (n : Nat) (hn : pc + 1 = n) (hr : Steps p.tables e below (T.setTop (mkF m n L (.int (x >>> (y &&& 31)) :: S))) t) : Steps p.tables e below (T.setTop (mkF m pc L (.int y :: .int x :: S))) t := by
  subst hn; exact XS.ishr X.here hx rfl (hb hby hd) rfl hr
theorem o_iushr (X : Stand p l e R s m args below meth c T locs cells slots) (hx : p.tables.exec = Jvm.exec) (hby : c.code = A) {x y : Int32} (hd : decode A pc = .ok (.iushr, 1)) (n : Nat) (hn : pc + 1 = n) (hr : Steps p.tables e below (T.setTop (mkF m n L (.int ((x.toUInt32 >>> (y &&& 31).toUInt32).toInt32) :: S))) t) : Steps p.tables e below (T.setTop (mkF m pc L (.int y :: .int x :: S))) t := by
  subst hn; exact XS.iushr X.here hx rfl (hb hby hd) rfl hr
theorem o_lshl (X : Stand p l e R s m args below meth c T locs cells slots) (hx : p.tables.exec = Jvm.exec) (hby : c.code = A) {x : Int64} {y : Int32} (hd : decode A pc = .ok (.lshl, 1)) (n : Nat) (hn : pc + 1 = n) (hr : Steps p.tables e below (T.setTop (mkF m n L (.long (x <<< (y &&& 0x3f).toInt64) :: S))) t) : Steps p.tables e below (T.setTop (mkF m pc L (.int y :: .long x :: S))) t := by
  subst hn; exact XS.lshl X.here hx rfl (hb hby hd) rfl hr
theorem o_lshr (X : Stand p l e R s m args below meth c T locs cells slots) (hx : p.tables.exec = Jvm.exec) (hby : c.code = A) {x : Int64} {y : Int32} (hd : decode A pc = .ok (.lshr, 1)) (n : Nat) (hn : pc + 1 = n) (hr : Steps p.tables e below (T.setTop (mkF m n L (.long (x >>> (y &&& 0x3f).toInt64) :: S))) t) : Steps p.tables e below (T.setTop (mkF m pc L (.int y :: .long x :: S))) t := by
  subst hn; exact XS.lshr X.here hx rfl (hb hby hd) rfl hr
theorem o_lushr (X : Stand p l e R s m args below meth c T locs cells slots) (hx : p.tables.exec = Jvm.exec) (hby : c.code = A) {x : Int64} {y : Int32} (hd : decode A pc = .ok (.lushr, 1)) (n : Nat) (hn : pc + 1 = n) (hr : Steps p.tables e below (T.setTop (mkF m n L (.long ((x.toUInt64 >>> (y &&& 0x3f).toInt64.toUInt64).toInt64) :: S))) t) : Steps p.tables e below (T.setTop (mkF m pc L (.int y :: .long x :: S))) t := by
  subst hn; exact XS.lushr X.here hx rfl (hb hby hd) rfl hr
theorem o_lcmp (X : Stand p l e R s m args below meth c T locs cells slots) (hx : p.tables.exec = Jvm.exec) (hby : c.code = A) {x y : Int64} (hd : decode A pc = .ok (.lcmp, 1)) (n : Nat) (hn : pc + 1 = n) (hr : Steps p.tables e below (T.setTop (mkF m n L (.int (lcmpW x y) :: S))) t) : Steps p.tables e below (T.setTop (mkF m pc L (.long y :: .long x :: S))) t := by
  subst hn; exact XS.lcmp X.here hx rfl (hb hby hd) rfl hr
theorem o_dup (X : Stand p l e R s m args below meth c T locs cells slots) (hx : p.tables.exec = Jvm.exec) (hby : c.code = A) {x : Value} (hd : decode A pc = .ok (.dup, 1)) (n : Nat) (hn : pc + 1 = n) (hc : x.category = 1) (hr : Steps p.tables e below (T.setTop (mkF m n L (x :: x :: S))) t) : Steps p.tables e below (T.setTop (mkF m pc L (x :: S))) t := by
  subst hn; exact XS.dup X.here hx rfl (hb hby hd) rfl hc hr
theorem o_dupX1 (X : Stand p l e R s m args below meth c T locs cells slots) (hx : p.tables.exec = Jvm.exec) (hby : c.code = A) {x y : Value} (hd : decode A pc = .ok (.dup_x1, 1)) (n : Nat) (hn : pc + 1 = n) (hc : x.category = 1) (hc' : y.category = 1) (hr : Steps p.tables e below (T.setTop (mkF m n L (x :: y :: x :: S))) t) : Steps p.tables e below (T.setTop (mkF m pc L (x :: y :: S))) t := by
  subst hn; exact XT.dupX1 X.here hx rfl (hb hby hd) rfl hc hc' hr
theorem o_dup2 (X : Stand p l e R s m args below meth c T locs cells slots) (hx : p.tables.exec = Jvm.exec) (hby : c.code = A) {x y : Value} (hd : decode A pc = .ok (.dup2, 1)) (n : Nat) (hn : pc + 1 = n) (hc : x.category = 1) (hc' : y.category = 1) (hr : Steps p.tables e below (T.setTop (mkF m n L (x :: y :: x :: y :: S))) t) : Steps p.tables e below (T.setTop (mkF m pc L (x :: y :: S))) t := by
  subst hn; exact XT.dup2 X.here hx rfl (hb hby hd) rfl hc hc' hr
theorem o_iinc (X : Stand p l e R s m args below meth c T locs cells slots) (hx : p.tables.exec = Jvm.exec) (hby : c.code = A) {k : Nat} {cst : Int} {x : Int32} {l' : Array Slot} (hd : decode A pc = .ok (.iinc k cst, 3)) (n : Nat) (hn : pc + 3 = n) (hl : L[k]? = some (.val (.int x))) {i : Int32} (hi : Int32.ofInt cst = i) (hl' : storeLocals L k (.int (x + i)) = some l') (hr : Steps p.tables e below (T.setTop (mkF m n l' S)) t) : Steps p.tables e below (T.setTop (mkF m pc L S)) t := by
  subst hn; subst hi; exact XS.iinc X.here hx rfl (hb hby hd) hl hl' hr
theorem o_pop (X : Stand p l e R s m args below meth c T locs cells slots) (hx : p.tables.exec = Jvm.exec) (hby : c.code = A) {x : Value} (hd : decode A pc = .ok (.pop, 1)) (n : Nat) (hn : pc + 1 = n) (hc : x.category = 1) (hr : Steps p.tables e below (T.setTop (mkF m n L S)) t) : Steps p.tables e below (T.setTop (mkF m pc L (x :: S))) t := by
  subst hn; exact XT.pop X.here hx rfl (hb hby hd) rfl hc hr
theorem o_goto (X : Stand p l e R s m args below meth c T locs cells slots) (hx : p.tables.exec = Jvm.exec) (hby : c.code = A) {o : Int} (hd : decode A pc = .ok (.goto o, 3)) (n : Nat) (hn : (pc : Int) + o = (n : Int)) (hr : Steps p.tables e below (T.setTop (mkF m n L S)) t) : Steps p.tables e below (T.setTop (mkF m pc L S)) t :=
  XS.goto X.here hx rfl (pc0 := pc) (pc' := n) rfl (hb hby hd) (by omega) (by omega) hr
theorem o_ifY (X : Stand p l e R s m args below meth c T locs cells slots) (hx : p.tables.exec = Jvm.exec) (hby : c.code = A) {cd : ClassFile.Cond} {x : Int32} {o : Int} (hd : decode A pc = .ok (.ifCond cd o, 3)) (n : Nat) (hn : (pc : Int) + o = (n : Int)) (hc : if_icmp.holds cd x 0 = true) (hr : Steps p.tables e below (T.setTop (mkF m n L S)) t) : Steps p.tables e below (T.setTop (mkF m pc L (.int x :: S))) t :=
  XS.ifYes X.here hx rfl (pc0 := pc) (pc' := n) rfl (hb hby hd) rfl ((if0 _ _).trans hc) (by omega) (by omega) hr
theorem o_ifN (X : Stand p l e R s m args below meth c T locs cells slots) (hx : p.tables.exec = Jvm.exec) (hby : c.code = A) {cd : ClassFile.Cond} {x : Int32} {o : Int} (hd : decode A pc = .ok (.ifCond cd o, 3)) (n : Nat) (hn : pc + 3 = n) (hc : if_icmp.holds cd x 0 = false) (hr : Steps p.tables e below (T.setTop (mkF m n L S)) t) : Steps p.tables e below (T.setTop (mkF m pc L (.int x :: S))) t := by
  subst hn; exact XS.ifNo X.here hx rfl (hb hby hd) rfl ((if0 _ _).trans hc) hr
theorem o_icmpY (X : Stand p l e R s m args below meth c T locs cells slots) (hx : p.tables.exec = Jvm.exec) (hby : c.code = A) {cd : ClassFile.Cond} {x y : Int32} {o : Int} (hd : decode A pc = .ok (.if_icmp cd o, 3)) (n : Nat) (hn : (pc : Int) + o = (n : Int)) (hc : if_icmp.holds cd x y = true) (hr : Steps p.tables e below (T.setTop (mkF m n L S)) t) : Steps p.tables e below (T.setTop (mkF m pc L (.int y :: .int x :: S))) t :=
  XS.icmpYes X.here hx rfl (pc0 := pc) (pc' := n) rfl (hb hby hd) rfl hc (by omega) (by omega) hr
theorem o_icmpN (X : Stand p l e R s m args below meth c T locs cells slots) (hx : p.tables.exec = Jvm.exec) (hby : c.code = A) {cd : ClassFile.Cond} {x y : Int32} {o : Int} (hd : decode A pc = .ok (.if_icmp cd o, 3)) (n : Nat) (hn : pc + 3 = n) (hc : if_icmp.holds cd x y = false) (hr : Steps p.tables e below (T.setTop (mkF m n L S)) t) : Steps p.tables e below (T.setTop (mkF m pc L (.int y :: .int x :: S))) t := by
  subst hn; exact XS.icmpNo X.here hx rfl (hb hby hd) rfl hc hr
theorem o_ifnullY (X : Stand p l e R s m args below meth c T locs cells slots) (hx : p.tables.exec = Jvm.exec) (hby : c.code = A) {o : Int} (hd : decode A pc = .ok (.ifnull o, 3)) (n : Nat) (hn : (pc : Int) + o = (n : Int)) (hr : Steps p.tables e below (T.setTop (mkF m n L S)) t) : Steps p.tables e below (T.setTop (mkF m pc L (.null :: S))) t :=
  XS.ifnullYes X.here hx rfl (pc0 := pc) (pc' := n) rfl (hb hby hd) rfl (by omega) (by omega) hr
theorem o_ifnullN (X : Stand p l e R s m args below meth c T locs cells slots) (hx : p.tables.exec = Jvm.exec) (hby : c.code = A) {a : Addr} {o : Int} (hd : decode A pc = .ok (.ifnull o, 3)) (n : Nat) (hn : pc + 3 = n) (hr : Steps p.tables e below (T.setTop (mkF m n L S)) t) : Steps p.tables e below (T.setTop (mkF m pc L (.ref a :: S))) t := by
  subst hn; exact XS.ifnullNo X.here hx rfl (hb hby hd) rfl hr
theorem o_ifnonnullY (X : Stand p l e R s m args below meth c T locs cells slots) (hx : p.tables.exec = Jvm.exec) (hby : c.code = A) {a : Addr} {o : Int} (hd : decode A pc = .ok (.ifnonnull o, 3)) (n : Nat) (hn : (pc : Int) + o = (n : Int)) (hr : Steps p.tables e below (T.setTop (mkF m n L S)) t) : Steps p.tables e below (T.setTop (mkF m pc L (.ref a :: S))) t :=
  XS.ifnonnullYes X.here hx rfl (pc0 := pc) (pc' := n) rfl (hb hby hd) rfl (by omega) (by omega) hr
theorem o_ifnonnullN (X : Stand p l e R s m args below meth c T locs cells slots) (hx : p.tables.exec = Jvm.exec) (hby : c.code = A) {o : Int} (hd : decode A pc = .ok (.ifnonnull o, 3)) (n : Nat) (hn : pc + 3 = n) (hr : Steps p.tables e below (T.setTop (mkF m n L S)) t) : Steps p.tables e below (T.setTop (mkF m pc L (.null :: S))) t := by
  subst hn; exact XS.ifnonnullNo X.here hx rfl (hb hby hd) rfl hr
theorem o_acmp (X : Stand p l e R s m args below meth c T locs cells slots) (hx : p.tables.exec = Jvm.exec) (hby : c.code = A) {cd : ClassFile.ACond} {x y : Value} {o : Int} (hd : decode A pc = .ok (.if_acmp cd o, 3)) (n : Nat) {same : Bool} (h1 : x.isRef = true) (h2 : y.isRef = true) (hq : decide (x = y) = same) (ho : 0 ≤ (pc : Int) + o) (hp : n = if acV cd same = true then ((pc : Int) + o).toNat else pc + 3) (hr : Steps p.tables e below (T.setTop (mkF m n L S)) t) : Steps p.tables e below (T.setTop (mkF m pc L (y :: x :: S))) t :=
  Jvm.RoadKit.acmp X hx rfl h1 h2 (pc0 := pc) (pc' := n) rfl (hb hby hd) rfl hq ho hp hr
theorem o_ldcInt (X : Stand p l e R s m args below meth c T locs cells slots) (hx : p.tables.exec = Jvm.exec) (hby : c.code = A) {own : String} {i : Nat} {v : Int32} (hown : s.vm.findClass own = some m.cls) (hc : (Cond.constant own i v).before args s = true) (hd : decode A pc = .ok (.ldc i, 2)) (n : Nat) (hn : pc + 2 = n) (hr : Steps p.tables e below (T.setTop (mkF m n L (.int v :: S))) t) : Steps p.tables e below (T.setTop (mkF m pc L S)) t := by
  subst hn; exact X.ldcInt hx hown hc (g := mkF m pc L S) rfl (hb hby hd) t hr
theorem o_ldcwInt (X : Stand p l e R s m args below meth c T locs cells slots) (hx : p.tables.exec = Jvm.exec) (hby : c.code = A) {own : String} {i : Nat} {v : Int32} (hown : s.vm.findClass own = some m.cls) (hc : (Cond.constant own i v).before args s = true) (hd : decode A pc = .ok (.ldc_w i, 3)) (n : Nat) (hn : pc + 3 = n) (hr : Steps p.tables e below (T.setTop (mkF m n L (.int v :: S))) t) : Steps p.tables e below (T.setTop (mkF m pc L S)) t := by
  subst hn; exact X.ldcwInt hx hown hc (g := mkF m pc L S) rfl (hb hby hd) t hr
theorem o_ldc2Long (X : Stand p l e R s m args below meth c T locs cells slots) (hx : p.tables.exec = Jvm.exec) (hby : c.code = A) {own : String} {i : Nat} {v : Int64} (hown : s.vm.findClass own = some m.cls) (hc : (Cond.constantLong own i v).before args s = true) (hd : decode A pc = .ok (.ldc2_w i, 3)) (n : Nat) (hn : pc + 3 = n) (hr : Steps p.tables e below (T.setTop (mkF m n L (.long v :: S))) t) : Steps p.tables e below (T.setTop (mkF m pc L S)) t := by
  subst hn; exact X.ldc2Long hx hown hc (g := mkF m pc L S) rfl (hb hby hd) t hr
theorem o_b0 : narrow .boolean (.int (0 : Int32)) = .int (0 : Int32) := by decide
theorem o_b1 : narrow .boolean (.int (1 : Int32)) = .int (1 : Int32) := by decide
theorem o_b01 {z : Int32} (h : z = 0 ∨ z = 1) : narrow .boolean (.int z) = .int z := by rcases h with rfl | rfl <;> decide
theorem o_nf {z : Int32} (h : z = 0 ∨ z = 1) : narrow .boolean (.int z) = .int z ∧ fits .boolean (.int z) = true := by rcases h with rfl | rfl <;> decide
theorem o_retZ (X : Stand p l e R s m args below meth c T locs cells slots) (hx : p.tables.exec = Jvm.exec) {Ls : Array Slot} {z : Int32} {rest : List Value} (hret : meth.sig.returnType = some .boolean)
    (hd : decode c.code pc = .ok (.ireturn, 1)) (hz : z = 0 ∨ z = 1) {fs : List Frame} (hl : ∀ (f : JFrame) (acts : List Action), f.method = m → f.locked = none → f.entered = [] → (doReturn e (T.setTop f) acts (some (.int z))).1 = T.setFrames fs) :
    Steps p.tables e below (T.setTop (mkF m pc Ls (.int z :: rest))) (T.setFrames fs) :=
  retOut X hx hret (o_b01 hz) (Or.inl ⟨rfl, Or.inr (Or.inl rfl), z, rfl⟩) hd hl
theorem o_retI (X : Stand p l e R s m args below meth c T locs cells slots) (hx : p.tables.exec = Jvm.exec) {Ls : Array Slot} {z : Int32} {rest : List Value} (hret : meth.sig.returnType = some .int)
    (hd : decode c.code pc = .ok (.ireturn, 1)) {fs : List Frame} (hl : ∀ (f : JFrame) (acts : List Action), f.method = m → f.locked = none → f.entered = [] → (doReturn e (T.setTop f) acts (some (.int z))).1 = T.setFrames fs) :
    Steps p.tables e below (T.setTop (mkF m pc Ls (.int z :: rest))) (T.setFrames fs) :=
  retOut X hx hret rfl (Or.inl ⟨rfl, Or.inl rfl, z, rfl⟩) hd hl
theorem o_retB (X : Stand p l e R s m args below meth c T locs cells slots) (hx : p.tables.exec = Jvm.exec) {Ls : Array Slot} {z : Int32} {rest : List Value} (hret : meth.sig.returnType = some .byte)
    (hd : decode c.code pc = .ok (.ireturn, 1)) (hz : narrow .byte (.int z) = .int z) {fs : List Frame} (hl : ∀ (f : JFrame) (acts : List Action), f.method = m → f.locked = none → f.entered = [] → (doReturn e (T.setTop f) acts (some (.int z))).1 = T.setFrames fs) :
    Steps p.tables e below (T.setTop (mkF m pc Ls (.int z :: rest))) (T.setFrames fs) :=
  retOut X hx hret hz (Or.inl ⟨rfl, Or.inr (Or.inr (Or.inl rfl)), z, rfl⟩) hd hl
theorem o_retJ (X : Stand p l e R s m args below meth c T locs cells slots) (hx : p.tables.exec = Jvm.exec) {Ls : Array Slot} {z : Int64} {rest : List Value} (hret : meth.sig.returnType = some .long)
    (hd : decode c.code pc = .ok (.lreturn, 1)) {fs : List Frame} (hl : ∀ (f : JFrame) (acts : List Action), f.method = m → f.locked = none → f.entered = [] → (doReturn e (T.setTop f) acts (some (.long z))).1 = T.setFrames fs) :
    Steps p.tables e below (T.setTop (mkF m pc Ls (.long z :: rest))) (T.setFrames fs) :=
  retOut X hx hret rfl (Or.inr (Or.inl ⟨rfl, rfl, z, rfl⟩)) hd hl
theorem o_retR (X : Stand p l e R s m args below meth c T locs cells slots) (hx : p.tables.exec = Jvm.exec) {Ls : Array Slot} {w : Value} {ty : FieldType} {rest : List Value} (hret : meth.sig.returnType = some ty) (ht : ty.isReference = true)
    (hd : decode c.code pc = .ok (.areturn, 1)) (hw : w.isRef = true) (hn : narrow ty w = w) {fs : List Frame} (hl : ∀ (f : JFrame) (acts : List Action), f.method = m → f.locked = none → f.entered = [] → (doReturn e (T.setTop f) acts (some w)).1 = T.setFrames fs) :
    Steps p.tables e below (T.setTop (mkF m pc Ls (w :: rest))) (T.setFrames fs) :=
  retOut X hx hret hn (Or.inr (Or.inr (Or.inr (Or.inr ⟨rfl, ht, hw⟩)))) hd hl
end Own

theorem own_c255 (x : Int32) : ¬ (255 : Int32) < ((x &&& (255 : Int32)).toUInt32.toUInt16.toUInt32.toInt32) := by
  have h1 : (x &&& (255 : Int32)).toUInt32.toUInt16.toUInt32.toNat ≤ 255 := by
    rw [UInt16.toNat_toUInt32, UInt32.toNat_toUInt16]
    have h2 : (x &&& (255 : Int32)).toUInt32.toNat = x.toBitVec.toNat % 2 ^ 8 := by
      show (x.toBitVec &&& (255 : Int32).toBitVec).toNat = _
      rw [BitVec.toNat_and, show (255 : Int32).toBitVec.toNat = 2 ^ 8 - 1 from by decide, Nat.and_two_pow_sub_one_eq_mod]
    omega
  rw [Int32.lt_iff_toInt_lt]
  show ¬ (255 : Int) < ((x &&& (255 : Int32)).toUInt32.toUInt16.toUInt32.toInt32).toBitVec.toInt
  rw [BitVec.toInt_eq_toNat_cond]
  have h3 : ((x &&& (255 : Int32)).toUInt32.toUInt16.toUInt32.toInt32).toBitVec.toNat = (x &&& (255 : Int32)).toUInt32.toUInt16.toUInt32.toNat := rfl
  rw [h3, if_pos (by omega)]; omega
theorem d7_0 : decode jdk_43_method_3_code 0 = .ok (.iload_n 0, 1) := by decide +kernel
theorem d7_1 : decode jdk_43_method_3_code 1 = .ok (.sipush 255, 3) := by decide +kernel
theorem d7_4 : decode jdk_43_method_3_code 4 = .ok (.if_icmp .gt 7, 3) := by decide +kernel
theorem d7_7 : decode jdk_43_method_3_code 7 = .ok (.iconst 1, 1) := by decide +kernel
theorem d7_8 : decode jdk_43_method_3_code 8 = .ok (.goto 4, 3) := by decide +kernel
theorem d7_11 : decode jdk_43_method_3_code 11 = .ok (.iconst 0, 1) := by decide +kernel
theorem d7_12 : decode jdk_43_method_3_code 12 = .ok (.ireturn, 1) := by decide +kernel
theorem pn_7 : plainName "java/lang/StringLatin1" = true := by first | (simp [plainName, overriddenIn]; done) | decide +kernel
theorem ef_7 (m : MethodId) (x0 : Int32) : entryFrame m #[(.int x0)] 1 = mkF m 0 #[.val (.int x0)] [] := by first | (simp [entryFrame, mkF, argsToLocals, Value.category]; done) | rfl
def Fce (p0 : Int32) : Int32 := let v1 : Int32 := (if (255 : Int32) < p0 then (0 : Int32) else (1 : Int32)); v1
def Q7 (Z : State) (p0 : Int32) (h0 : Heap) (n0 : Nat) (v : Option Value) (h : Heap) (L : List Loc) : Prop := v = some (.int (Fce p0)) ∧ Fr n0 L ∧ h = h0
set_option maxRecDepth 65536 in
set_option maxHeartbeats 40000000 in
theorem rm7 (l : Launch) (Z : State) (aw : Array Value) (hw : ∀ d ∈ tables_1, d.before aw Z = true) (ws : List Jvm.Cond) (p0 : Int32) (h0 : Heap) (n0 : Nat) (Z0 : n0 ≤ h0.size) :
    MetFree l (⟨"java/lang/StringLatin1", "canEncode", "(C)Z"⟩ : MethodName) (head1 (Jvm.Cond.code (⟨"java/lang/StringLatin1", "canEncode", "(C)Z"⟩ : MethodName) jdk_43_method_3_code 1 (some .boolean) :: ws) ({ frames := 0, cells := 0, slots := 0, locals := 0 } : Room)) (fun a U => a = #[(.int p0)] ∧ Z.Warmed39 U.vm ∧ U.heap = h0) (fun _ _ _ _ _ => True) (fun _ U o U' => ∃ v L, o = .returned v ∧ Q7 Z p0 h0 n0 v U'.heap L ∧ FrameEnd U o U' L ({ frames := 0, cells := 0, slots := 0, locals := 0 } : Room).cells ({ frames := 0, cells := 0, slots := 0, locals := 0 } : Room).slots) := by
  refine MetFree.of_bodySF (plainFor_of_name pn_7) hisR ?_
  intro p e s m args below meth c s₁ Bd hml0 hP hK
  obtain ⟨rfl, hZ, hh⟩ := hP
  have hx := Bd.exec
  have hby := Bd.bytes
  have hml : c.maxLocals = 1 := hml0
  have hown : s.vm.findClass "java/lang/StringLatin1" = some m.cls := findClass_of_methodNamed Bd.named
  have hnm := (name_of_methodNamed Bd.named Bd.method).1
  have X0 : Stand p l e ({ frames := 0, cells := 0, slots := 0, locals := 0 } : Room) s m #[(.int p0)] below meth c s₁ [] 0 0 := Stand.of_body Bd
  have e0 : s₁.heap = h0 := by rw [← hh, Bd.state]; rfl
  have N0 := Fr.nil n0
  obtain ⟨A0, hA0⟩ : ∃ A0, A0 = s₁.setTop (entryFrame m #[(.int p0)] 1) := ⟨_, rfl⟩
  have go0 : Go p e below A0 (s₁.setTop (mkF m 0 #[.val (.int p0)] [])) := fun t k => by rw [hA0]; exact castTop (ef_7 m p0) k
  have go1 : Go p e below A0 (s₁.setTop (mkF m 4 #[.val (.int p0)] [(.int (255 : Int32)), (.int p0)])) := by
    intro t k
    refine go0 t ?_
    refine o_iloadN X0 hx hby d7_0 1 rfl rfl ?_
    refine o_sipush X0 hx hby d7_1 4 rfl (v := (255 : Int32)) rfl ?_
    exact k
  obtain ⟨v1, hv1, go4⟩ : ∃ (v1 : Int32), v1 = (if (255 : Int32) < p0 then (0 : Int32) else (1 : Int32)) ∧ Go p e below A0 (s₁.setTop (mkF m 12 #[.val (.int p0)] [(.int v1)])) := by
    by_cases hc4_1 : (255 : Int32) < p0
    · have go2 : Go p e below A0 (s₁.setTop (mkF m 12 #[.val (.int p0)] [(.int (0 : Int32))])) := by
        intro t k
        refine go1 t ?_
        refine o_icmpY X0 hx hby d7_4 11 rfl (tlt hc4_1).2.2.1 ?_
        refine o_iconst X0 hx hby d7_11 12 rfl (v := (0 : Int32)) rfl ?_
        exact k
      exact ⟨(0 : Int32), (if_pos hc4_1).symm, go2⟩
    · have go3 : Go p e below A0 (s₁.setTop (mkF m 12 #[.val (.int p0)] [(.int (1 : Int32))])) := by
        intro t k
        refine go1 t ?_
        refine o_icmpN X0 hx hby d7_4 7 rfl (flt hc4_1).2.2.1 ?_
        refine o_iconst X0 hx hby d7_7 8 rfl (v := (1 : Int32)) rfl ?_
        refine o_goto X0 hx hby d7_8 12 rfl ?_
        exact k
      exact ⟨(1 : Int32), (if_neg hc4_1).symm, go3⟩
  have hF : v1 = Fce p0 := by subst hv1; rfl
  subst hA0
  obtain ⟨fs, hr, hrun, hended, hW, hsame⟩ := X0.leave (v := some (.int v1)) (fun h => by rw [Bd.returns] at h; cases h)
  refine ⟨_, _, go4 _ (o_retZ X0 hx Bd.returns (hb hby d7_12) (by rw [hv1]; repeat' (first | exact Or.inl rfl | exact Or.inr rfl | split)) hr), hrun, hended, _, _, rfl, ?_, ⟨_, rfl⟩, hW, hsame.mono (by decide) (by decide)⟩
  show Q7 Z p0 h0 n0 _ s₁.heap _
  rw [e0]
  exact ⟨congrArg (fun z => some (Value.int z)) hF, N0, rfl⟩
theorem d8_0 : decode jdk_43_method_46_code 0 = .ok (.iconst 1, 1) := by decide +kernel
theorem d8_1 : decode jdk_43_method_46_code 1 = .ok (.newarray .byte, 2) := by decide +kernel
theorem d8_3 : decode jdk_43_method_46_code 3 = .ok (.dup, 1) := by decide +kernel
theorem d8_4 : decode jdk_43_method_46_code 4 = .ok (.iconst 0, 1) := by decide +kernel
theorem d8_5 : decode jdk_43_method_46_code 5 = .ok (.iload_n 0, 1) := by decide +kernel
theorem d8_6 : decode jdk_43_method_46_code 6 = .ok (.i2b, 1) := by decide +kernel
theorem d8_7 : decode jdk_43_method_46_code 7 = .ok (.bastore, 1) := by decide +kernel
theorem d8_8 : decode jdk_43_method_46_code 8 = .ok (.areturn, 1) := by decide +kernel
theorem ef_8 (m : MethodId) (x0 : Int32) : entryFrame m #[(.int x0)] 1 = mkF m 0 #[.val (.int x0)] [] := by first | (simp [entryFrame, mkF, argsToLocals, Value.category]; done) | rfl
def Q8 (Z : State) (p0 : Int32) (h0 : Heap) (n0 : Nat) (v : Option Value) (h : Heap) (L : List Loc) : Prop := ∃ b : Addr, v = some (.ref b) ∧ Fr n0 L ∧ Keep h0 h [] ∧ h0.size ≤ b ∧ True
set_option maxRecDepth 65536 in
set_option maxHeartbeats 40000000 in
theorem rm8 (l : Launch) (Z : State) (aw : Array Value) (hw : ∀ d ∈ tables_1, d.before aw Z = true) (ws : List Jvm.Cond) (p0 : Int32) (h0 : Heap) (n0 : Nat) (Z0 : n0 ≤ h0.size) :
    MetFree l (⟨"java/lang/StringLatin1", "toBytes", "(C)[B"⟩ : MethodName) (head1 (Jvm.Cond.code (⟨"java/lang/StringLatin1", "toBytes", "(C)[B"⟩ : MethodName) jdk_43_method_46_code 1 (some (.array .byte)) :: ws) ({ frames := 0, cells := 1, slots := 1, locals := 0 } : Room)) (fun a U => a = #[(.int p0)] ∧ Z.Warmed39 U.vm ∧ U.heap = h0) (fun _ _ _ _ _ => True) (fun _ U o U' => ∃ v L, o = .returned v ∧ Q8 Z p0 h0 n0 v U'.heap L ∧ FrameEnd U o U' L ({ frames := 0, cells := 1, slots := 1, locals := 0 } : Room).cells ({ frames := 0, cells := 1, slots := 1, locals := 0 } : Room).slots) := by
  refine MetFree.of_bodySF (plainFor_of_name pn_7) hisR ?_
  intro p e s m args below meth c s₁ Bd hml0 hP hK
  obtain ⟨rfl, hZ, hh⟩ := hP
  have hx := Bd.exec
  have hby := Bd.bytes
  have hml : c.maxLocals = 1 := hml0
  have hown : s.vm.findClass "java/lang/StringLatin1" = some m.cls := findClass_of_methodNamed Bd.named
  have hnm := (name_of_methodNamed Bd.named Bd.method).1
  have X0 : Stand p l e ({ frames := 0, cells := 1, slots := 1, locals := 0 } : Room) s m #[(.int p0)] below meth c s₁ [] 0 0 := Stand.of_body Bd
  have e0 : s₁.heap = h0 := by rw [← hh, Bd.state]; rfl
  have N0 := Fr.nil n0
  obtain ⟨A0, hA0⟩ : ∃ A0, A0 = s₁.setTop (entryFrame m #[(.int p0)] 1) := ⟨_, rfl⟩
  have go0 : Go p e below A0 (s₁.setTop (mkF m 0 #[.val (.int p0)] [])) := fun t k => by rw [hA0]; exact castTop (ef_8 m p0) k
  obtain ⟨T1, h1, k1, X1, e1, E1, A1, st1⟩ := newP X0 hx hZ (hw _ (List.mem_of_getElem? (i := 21) rfl)) e0 (g := (mkF m 1 #[.val (.int p0)] [(.int (1 : Int32))])) rfl (hb hby d8_1) rfl (by decide) (cap := 1) (by decide) (by decide) (by decide) (by decide)
  obtain ⟨b1, g1⟩ : ∃ z, z = h0.size := ⟨_, rfl⟩
  rw [← g1] at A1 st1
  have g_b1 : n0 ≤ b1 := Nat.le_trans Z0 (Nat.le_of_eq g1.symm)
  have sz_b1 : h0.size ≤ b1 := Nat.le_trans (Keep.refl h0 []).1 (Nat.le_of_eq g1.symm)
  have Zp1 : n0 ≤ h1.size := Nat.le_trans Z0 E1.1
  have K1 : Keep h0 h1 [] := (Keep.refl h0 []).ext E1
  have f1 : Arv Z h1 b1 k1 .byte (1 : Int32) [(.int (0 : Int32))] (.int (0 : Int32)) := (Arv.new A1 (by decide)).pad (pad_rep [] (.int (0 : Int32)) 1)
  have go1 : Go p e below A0 (T1.setTop (mkF m 7 #[.val (.int p0)] [(.int (p0.toInt8.toInt32)), (.int (0 : Int32)), (.ref b1), (.ref b1)])) := by
    intro t k
    refine go0 t ?_
    refine o_iconst X0 hx hby d8_0 1 rfl (v := (1 : Int32)) rfl ?_
    refine st1 _ ?_
    show Steps p.tables e below (T1.setTop (mkF m 3 #[.val (.int p0)] [(.ref b1)])) _
    refine o_dup X1 hx hby d8_3 4 rfl rfl ?_
    refine o_iconst X1 hx hby d8_4 5 rfl (v := (0 : Int32)) rfl ?_
    refine o_iloadN X1 hx hby d8_5 6 rfl rfl ?_
    refine o_i2b X1 hx hby d8_6 7 rfl ?_
    exact k
  obtain ⟨v1, hv1, go2⟩ : ∃ v1 : Int32, v1 = (p0.toInt8.toInt32) ∧ Go p e below A0 (T1.setTop (mkF m 7 #[.val (.int p0)] [(.int v1), (.int (0 : Int32)), (.ref b1), (.ref b1)])) := ⟨_, rfl, go1⟩
  obtain ⟨cl2, Ar2, q2, S2, M2, H2, G2⟩ := id f1
  have hin2 : ¬ ((0 : Int32) < 0 ∨ cl2.slots.size ≤ ((0 : Int32)).toNatClampNeg) := inb_of S2 ⟨by decide, by decide⟩
  obtain ⟨T2, h2, X2, e2, W2, st2⟩ := stB X1 hx hZ e1 Ar2 (j := (0 : Int32)) hin2 (g := (mkF m 7 #[.val (.int p0)] [(.int v1), (.int (0 : Int32)), (.ref b1), (.ref b1)])) rfl rfl (hb hby d8_7)
  have Zp2 : n0 ≤ h2.size := Nat.le_trans Zp1 (Keep.of_wr W2).1
  have K2 : Keep h0 h2 [] := K1.wr W2 (Or.inr sz_b1)
  have N2 := Fr.snoc X2 N0 g_b1
  have f2 : Arv Z h2 b1 k1 .byte (1 : Int32) [(.int (nar .byte v1))] (.int (0 : Int32)) := Arv.set Ar2 q2 S2 M2 H2 G2 (fits_nar_byte _) W2 0 rfl (Nat.le_of_ble_eq_true rfl)
  have go3 : Go p e below A0 (T2.setTop (mkF m 8 #[.val (.int p0)] [(.ref b1)])) := by
    intro t k
    refine go2 t ?_
    refine st2 _ ?_
    show Steps p.tables e below (T2.setTop (mkF m 8 #[.val (.int p0)] [(.ref b1)])) _
    exact k
  subst hA0
  obtain ⟨fs, hr, hrun, hended, hW, hsame⟩ := X2.leave (v := some (.ref b1)) (fun h => by rw [Bd.returns] at h; cases h)
  refine ⟨_, _, go3 _ (o_retR X2 hx Bd.returns rfl (hb hby d8_8) rfl rfl hr), hrun, hended, _, _, rfl, ?_, ⟨_, rfl⟩, hW, hsame.mono (by decide) (by decide)⟩
  show Q8 Z p0 h0 n0 _ T2.heap _
  rw [e2]
  exact ⟨b1, rfl, N2, K2, sz_b1, trivial⟩
theorem d9_0 : decode jdk_42_method_151_code 0 = .ok (.aload_n 0, 1) := by decide +kernel
theorem d9_1 : decode jdk_42_method_151_code 1 = .ok (.invokespecial 1, 3) := by decide +kernel
theorem d9_4 : decode jdk_42_method_151_code 4 = .ok (.aload_n 0, 1) := by decide +kernel
theorem d9_5 : decode jdk_42_method_151_code 5 = .ok (.aload_n 1, 1) := by decide +kernel
theorem d9_6 : decode jdk_42_method_151_code 6 = .ok (.putfield 9, 3) := by decide +kernel
theorem d9_9 : decode jdk_42_method_151_code 9 = .ok (.aload_n 0, 1) := by decide +kernel
theorem d9_10 : decode jdk_42_method_151_code 10 = .ok (.iload_n 2, 1) := by decide +kernel
theorem d9_11 : decode jdk_42_method_151_code 11 = .ok (.putfield 15, 3) := by decide +kernel
theorem d9_14 : decode jdk_42_method_151_code 14 = .ok (.return_, 1) := by decide +kernel
theorem pn_9 : plainName "java/lang/String" = true := by first | (simp [plainName, overriddenIn]; done) | decide +kernel
theorem ef_9 (m : MethodId) (x0 : Addr) (x1 : Addr) : entryFrame m #[(.ref x0), (.ref x1), (.int (0 : Int32))] 3 = mkF m 0 #[.val (.ref x0), .val (.ref x1), .val (.int (0 : Int32))] [] := by first | (simp [entryFrame, mkF, argsToLocals, Value.category]; done) | rfl
def Q9 (Z : State) (a0 : Addr) (a1 : Addr) (h0 : Heap) (n0 : Nat) (v : Option Value) (h : Heap) (L : List Loc) : Prop := v = none ∧ Fr n0 L ∧ Keep h0 h [a0] ∧ True
set_option maxRecDepth 65536 in
set_option maxHeartbeats 40000000 in
theorem rm9 (l : Launch) (Z : State) (aw : Array Value) (hw : ∀ d ∈ tables_1, d.before aw Z = true) (ws : List Jvm.Cond) (a0 : Addr) (a1 : Addr) (h0 : Heap) (n0 : Nat) (Z0 : n0 ≤ h0.size) (r0 : Exa Z h0 a0 "java/lang/String") (r1 : n0 ≤ a0) (r2 : Fld Z h0 a0 "java/lang/String" "value" "[B" .null) (r3 : Fld Z h0 a0 "java/lang/String" "coder" "B" (.int (0 : Int32))) :
    MetFree l (⟨"java/lang/String", "<init>", "([BB)V"⟩ : MethodName) (head1 (Jvm.Cond.code (⟨"java/lang/String", "<init>", "([BB)V"⟩ : MethodName) jdk_42_method_151_code 3 none :: ws) ({ frames := 1, cells := 0, slots := 0, locals := 12 } : Room)) (fun a U => a = #[(.ref a0), (.ref a1), (.int (0 : Int32))] ∧ Z.Warmed39 U.vm ∧ U.heap = h0) (fun _ _ _ _ _ => True) (fun _ U o U' => ∃ v L, o = .returned v ∧ Q9 Z a0 a1 h0 n0 v U'.heap L ∧ FrameEnd U o U' L ({ frames := 1, cells := 0, slots := 0, locals := 12 } : Room).cells ({ frames := 1, cells := 0, slots := 0, locals := 12 } : Room).slots) := by
  refine MetFree.of_bodySF (plainFor_of_name pn_9) hisR ?_
  intro p e s m args below meth c s₁ Bd hml0 hP hK
  obtain ⟨rfl, hZ, hh⟩ := hP
  have hx := Bd.exec
  have hby := Bd.bytes
  have hml : c.maxLocals = 3 := hml0
  have hown : s.vm.findClass "java/lang/String" = some m.cls := findClass_of_methodNamed Bd.named
  have hnm := (name_of_methodNamed Bd.named Bd.method).1
  have X0 : Stand p l e ({ frames := 1, cells := 0, slots := 0, locals := 12 } : Room) s m #[(.ref a0), (.ref a1), (.int (0 : Int32))] below meth c s₁ [] 0 0 := Stand.of_body Bd
  have e0 : s₁.heap = h0 := by rw [← hh, Bd.state]; rfl
  have N0 := Fr.nil n0
  obtain ⟨A0, hA0⟩ : ∃ A0, A0 = s₁.setTop (entryFrame m #[(.ref a0), (.ref a1), (.int (0 : Int32))] 3) := ⟨_, rfl⟩
  have go0 : Go p e below A0 (s₁.setTop (mkF m 0 #[.val (.ref a0), .val (.ref a1), .val (.int (0 : Int32))] [])) := fun t k => by rw [hA0]; exact castTop (ef_9 m a0 a1) k
  obtain ⟨T1, X1, e1, st1⟩ := initO X0 hx hZ hown (hw _ (List.mem_of_getElem? (i := 72) rfl)) (hw _ (List.mem_of_getElem? (i := 16) rfl)) (hw _ (List.mem_of_getElem? (i := 17) rfl)) e0 (g := (mkF m 1 #[.val (.ref a0), .val (.ref a1), .val (.int (0 : Int32))] [(.ref a0)])) rfl (by rw [hml]; rfl) rfl (hb hby d9_1) (by decide) (W := 0) (by show 2 * 0 + _ ≤ _; exact Nat.le_of_eq rfl) (by decide)
  have go1 : Go p e below A0 (T1.setTop (mkF m 6 #[.val (.ref a0), .val (.ref a1), .val (.int (0 : Int32))] [(.ref a1), (.ref a0)])) := by
    intro t k
    refine go0 t ?_
    refine o_aloadN X0 hx hby d9_0 1 rfl rfl rfl ?_
    refine st1 _ ?_
    refine o_aloadN X1 hx hby d9_4 5 rfl rfl rfl ?_
    refine o_aloadN X1 hx hby d9_5 6 rfl rfl rfl ?_
    exact k
  obtain ⟨T2, h2, X2, e2, W2, st2⟩ := putF X1 hx hZ hown (host := "") (Or.inl (hw _ (List.mem_of_getElem? (i := 73) rfl))) Via.refl e1 r2 r0 (Or.inr ⟨(hw _ (List.mem_of_getElem? (i := 22) rfl)), rfl, hnm⟩) (hw _ (List.mem_of_getElem? (i := 20) rfl)) (ty := (.array .byte)) (by decide) rfl rfl (g := (mkF m 6 #[.val (.ref a0), .val (.ref a1), .val (.int (0 : Int32))] [(.ref a1), (.ref a0)])) rfl rfl (hb hby d9_6)
  have f1 : Exa Z h2 a0 "java/lang/String" := r0.wr W2
  have f2 : Fld Z h2 a0 "java/lang/String" "coder" "B" (.int (0 : Int32)) := r3.other W2 (Or.inr (slot_ne (Or.inr (hw _ (List.mem_of_getElem? (i := 23) rfl))) (Or.inr (hw _ (List.mem_of_getElem? (i := 22) rfl))) (by decide) (t := .byte) (t' := (.array .byte)) (by decide) (by decide)))
  have Zp2 : n0 ≤ h2.size := Nat.le_trans Z0 (Keep.of_wr W2).1
  have K2 : Keep h0 h2 [a0] := (Keep.refl h0 [a0]).wr W2 (Or.inl (List.mem_of_getElem? (i := 0) rfl))
  have N2 := Fr.snoc X2 N0 r1
  have f3 : Fld Z h2 a0 "java/lang/String" "value" "[B" (.ref a1) := r2.same W2
  have go2 : Go p e below A0 (T2.setTop (mkF m 11 #[.val (.ref a0), .val (.ref a1), .val (.int (0 : Int32))] [(.int (0 : Int32)), (.ref a0)])) := by
    intro t k
    refine go1 t ?_
    refine st2 _ ?_
    show Steps p.tables e below (T2.setTop (mkF m 9 #[.val (.ref a0), .val (.ref a1), .val (.int (0 : Int32))] [])) _
    refine o_aloadN X2 hx hby d9_9 10 rfl rfl rfl ?_
    refine o_iloadN X2 hx hby d9_10 11 rfl rfl ?_
    exact k
  obtain ⟨T3, h3, X3, e3, W3, st3⟩ := putF X2 hx hZ hown (host := "") (Or.inl (hw _ (List.mem_of_getElem? (i := 74) rfl))) Via.refl e2 f2 f1 (Or.inr ⟨(hw _ (List.mem_of_getElem? (i := 23) rfl)), rfl, hnm⟩) (hw _ (List.mem_of_getElem? (i := 20) rfl)) (ty := .byte) (by decide) (by decide) (by decide) (g := (mkF m 11 #[.val (.ref a0), .val (.ref a1), .val (.int (0 : Int32))] [(.int (0 : Int32)), (.ref a0)])) rfl rfl (hb hby d9_11)
  have f4 : Exa Z h3 a0 "java/lang/String" := f1.wr W3
  have f5 : Fld Z h3 a0 "java/lang/String" "value" "[B" (.ref a1) := f3.other W3 (Or.inr (slot_ne (Or.inr (hw _ (List.mem_of_getElem? (i := 22) rfl))) (Or.inr (hw _ (List.mem_of_getElem? (i := 23) rfl))) (by decide) (t := (.array .byte)) (t' := .byte) (by decide) (by decide)))
  have Zp3 : n0 ≤ h3.size := Nat.le_trans Zp2 (Keep.of_wr W3).1
  have K3 : Keep h0 h3 [a0] := K2.wr W3 (Or.inl (List.mem_of_getElem? (i := 0) rfl))
  have N3 := Fr.snoc X3 N2 r1
  have f6 : Fld Z h3 a0 "java/lang/String" "coder" "B" (.int (0 : Int32)) := f2.same W3
  have go3 : Go p e below A0 (T3.setTop (mkF m 14 #[.val (.ref a0), .val (.ref a1), .val (.int (0 : Int32))] [])) := by
    intro t k
    refine go2 t ?_
    refine st3 _ ?_
    show Steps p.tables e below (T3.setTop (mkF m 14 #[.val (.ref a0), .val (.ref a1), .val (.int (0 : Int32))] [])) _
    exact k
  subst hA0
  obtain ⟨fs, hr, hrun, hended, hW, hsame⟩ := X3.leave (v := none) (fun _ => rfl)
  refine ⟨_, _, go3 _ (X3.returnOut hx Bd.returns (hb hby d9_14) hr), hrun, hended, _, _, rfl, ?_, ⟨_, rfl⟩, hW, hsame.mono (by decide) (by decide)⟩
  show Q9 Z a0 a1 h0 n0 _ T3.heap _
  rw [e3]
  exact ⟨rfl, N3, K3, trivial⟩
theorem d6_0 : decode jdk_42_method_139_code 0 = .ok (.getstatic 38, 3) := by decide +kernel
theorem d6_3 : decode jdk_42_method_139_code 3 = .ok (.ifCond .eq 23, 3) := by decide +kernel
theorem d6_6 : decode jdk_42_method_139_code 6 = .ok (.iload_n 0, 1) := by decide +kernel
theorem d6_7 : decode jdk_42_method_139_code 7 = .ok (.invokestatic 1015, 3) := by decide +kernel
theorem d6_10 : decode jdk_42_method_139_code 10 = .ok (.ifCond .eq 16, 3) := by decide +kernel
theorem d6_13 : decode jdk_42_method_139_code 13 = .ok (.new 10, 3) := by decide +kernel
theorem d6_16 : decode jdk_42_method_139_code 16 = .ok (.dup, 1) := by decide +kernel
theorem d6_17 : decode jdk_42_method_139_code 17 = .ok (.iload_n 0, 1) := by decide +kernel
theorem d6_18 : decode jdk_42_method_139_code 18 = .ok (.invokestatic 1018, 3) := by decide +kernel
theorem d6_21 : decode jdk_42_method_139_code 21 = .ok (.iconst 0, 1) := by decide +kernel
theorem d6_22 : decode jdk_42_method_139_code 22 = .ok (.invokespecial 209, 3) := by decide +kernel
theorem d6_25 : decode jdk_42_method_139_code 25 = .ok (.areturn, 1) := by decide +kernel
theorem d6_26 : decode jdk_42_method_139_code 26 = .ok (.new 10, 3) := by decide +kernel
theorem d6_29 : decode jdk_42_method_139_code 29 = .ok (.dup, 1) := by decide +kernel
theorem d6_30 : decode jdk_42_method_139_code 30 = .ok (.iload_n 0, 1) := by decide +kernel
theorem d6_31 : decode jdk_42_method_139_code 31 = .ok (.invokestatic 1021, 3) := by decide +kernel
theorem d6_34 : decode jdk_42_method_139_code 34 = .ok (.iconst 1, 1) := by decide +kernel
theorem d6_35 : decode jdk_42_method_139_code 35 = .ok (.invokespecial 209, 3) := by decide +kernel
theorem d6_38 : decode jdk_42_method_139_code 38 = .ok (.areturn, 1) := by decide +kernel
theorem pd_2 : parseMethodDescriptor "(C)Z" = some ⟨[.char], some .boolean⟩ := by decide +kernel
theorem pd_3 : parseMethodDescriptor "(C)[B" = some ⟨[.char], some (.array .byte)⟩ := by decide +kernel
theorem pd_4 : parseMethodDescriptor "([BB)V" = some ⟨[(.array .byte), .byte], none⟩ := by decide +kernel
theorem ef_6 (m : MethodId) (x0 : Int32) : entryFrame m #[(.int x0)] 1 = mkF m 0 #[.val (.int x0)] [] := by first | (simp [entryFrame, mkF, argsToLocals, Value.category]; done) | rfl
def Q6 (Z : State) (p0 : Int32) (cs : Int32) (h0 : Heap) (n0 : Nat) (v : Option Value) (h : Heap) (L : List Loc) : Prop := ∃ b : Addr, v = some (.ref b) ∧ Fr n0 L ∧ Keep h0 h [] ∧ h0.size ≤ b ∧ True
set_option maxRecDepth 65536 in
set_option maxHeartbeats 40000000 in
theorem rm6 (l : Launch) (Z : State) (aw : Array Value) (hw : ∀ d ∈ tables_1, d.before aw Z = true) (ws : List Jvm.Cond) (p0 : Int32) (cs : Int32) (h0 : Heap) (n0 : Nat) (Z0 : n0 ≤ h0.size) (r0 : Sta Z Z.heap "java/lang/String" "COMPACT_STRINGS" "Z" (.int cs)) (r1 : Old Z n0 h0) (hcs : (¬ (cs = 0))) (hc : (¬ (255 : Int32) < p0)) :
    MetFree l (⟨"java/lang/String", "valueOf", "(C)Ljava/lang/String;"⟩ : MethodName) (head1 (Jvm.Cond.code (⟨"java/lang/String", "valueOf", "(C)Ljava/lang/String;"⟩ : MethodName) jdk_42_method_139_code 1 (some (.object "java/lang/String")) :: ws) ({ frames := 2, cells := 2, slots := 5, locals := 27 } : Room)) (fun a U => a = #[(.int p0)] ∧ Z.Warmed39 U.vm ∧ U.heap = h0) (fun _ _ _ _ _ => True) (fun _ U o U' => ∃ v L, o = .returned v ∧ Q6 Z p0 cs h0 n0 v U'.heap L ∧ FrameEnd U o U' L ({ frames := 2, cells := 2, slots := 5, locals := 27 } : Room).cells ({ frames := 2, cells := 2, slots := 5, locals := 27 } : Room).slots) := by
  refine MetFree.of_bodySF (plainFor_of_name pn_9) hisR ?_
  intro p e s m args below meth c s₁ Bd hml0 hP hK
  obtain ⟨rfl, hZ, hh⟩ := hP
  have hx := Bd.exec
  have hby := Bd.bytes
  have hml : c.maxLocals = 1 := hml0
  have hown : s.vm.findClass "java/lang/String" = some m.cls := findClass_of_methodNamed Bd.named
  have hnm := (name_of_methodNamed Bd.named Bd.method).1
  have X0 : Stand p l e ({ frames := 2, cells := 2, slots := 5, locals := 27 } : Room) s m #[(.int p0)] below meth c s₁ [] 0 0 := Stand.of_body Bd
  have e0 : s₁.heap = h0 := by rw [← hh, Bd.state]; rfl
  have N0 := Fr.nil n0
  obtain ⟨A0, hA0⟩ : ∃ A0, A0 = s₁.setTop (entryFrame m #[(.int p0)] 1) := ⟨_, rfl⟩
  have go0 : Go p e below A0 (s₁.setTop (mkF m 0 #[.val (.int p0)] [])) := fun t k => by rw [hA0]; exact castTop (ef_6 m p0) k
  obtain ⟨T1, X1, e1, st1⟩ := getS2 X0 hx hZ hown (host := "") (Or.inl (hw _ (List.mem_of_getElem? (i := 59) rfl))) Via.refl e0 (r0.ext r1.2) (g := (mkF m 0 #[.val (.int p0)] [])) rfl (hb hby d6_0)
  have go1 : Go p e below A0 (T1.setTop (mkF m 7 #[.val (.int p0)] [(.int p0)])) := by
    intro t k
    refine go0 t ?_
    refine st1 _ ?_
    show Steps p.tables e below (T1.setTop (mkF m 3 #[.val (.int p0)] [(.int cs)])) _
    refine o_ifN X1 hx hby d6_3 6 rfl (feq (hcs)).1 ?_
    refine o_iloadN X1 hx hby d6_6 7 rfl rfl ?_
    exact k
  obtain ⟨_, _, ⟨T2, L2, k2, n2⟩, -, X2, ⟨Lc2, hQ2, l2, y2, z2⟩, st2⟩ := Jvm.LawKit.callS X1 hx (y := (⟨"java/lang/StringLatin1", "canEncode", "(C)Z"⟩ : MethodName)) hown (mvT hZ (hw _ (List.mem_of_getElem? (i := 60) rfl))) (mvT hZ (hw _ (List.mem_of_getElem? (i := 61) rfl))) (mvT hZ (hw _ (List.mem_of_getElem? (i := 62) rfl))) (mvT hZ (hw _ (List.mem_of_getElem? (i := 63) rfl))) (by decide) (backOf (W := 0) (rm7 l Z aw hw [] p0 h0 n0 Z0) hZ (hw _ (List.mem_of_getElem? (i := 63) rfl)) (hw _ (List.mem_of_getElem? (i := 62) rfl)) (by decide) (by decide)) (g := (mkF m 7 #[.val (.int p0)] [(.int p0)])) rfl (by rw [hml]; rfl) (argsL := [(.int p0)]) (rest := []) (lenOf pd_2 rfl) rfl (by show 2 * 0 + _ ≤ _; exact Nat.le_of_eq rfl) (hb hby d6_7) (fun _ _ => ⟨rfl, e1, (by decide : 0 + 0 ≤ _), (by decide : 0 + 0 ≤ _)⟩)
  dsimp only [Pt.U, Pt.locs, Pt.cells, Pt.slots] at X2 l2 y2 z2 st2 hQ2
  subst l2 y2 z2
  obtain ⟨rfl, N2q, e2⟩ := hQ2
  have N2 := Fr.app N0 N2q
  have go2 : Go p e below A0 (T2.setTop (mkF m 10 #[.val (.int p0)] [(.int (Fce p0))])) := by
    intro t k
    refine go1 t ?_
    refine st2 _ ?_
    show Steps p.tables e below (T2.setTop (mkF m 10 #[.val (.int p0)] [(.int (Fce p0))])) _
    exact k
  obtain ⟨v1, hv1, go3⟩ : ∃ v1 : Int32, v1 = (Fce p0) ∧ Go p e below A0 (T2.setTop (mkF m 10 #[.val (.int p0)] [(.int v1)])) := ⟨_, rfl, go2⟩
  obtain ⟨T3, h3, X3, e3, E3, A3, D3, -, st3⟩ := newO X2 hx hZ hown (hw _ (List.mem_of_getElem? (i := 64) rfl)) (hw _ (List.mem_of_getElem? (i := 20) rfl)) (hw _ (List.mem_of_getElem? (i := 19) rfl)) e2 (g := (mkF m 13 #[.val (.int p0)] [])) rfl (hb hby d6_13) (by decide) (by decide)
  obtain ⟨b3, g3⟩ : ∃ z, z = h0.size := ⟨_, rfl⟩
  rw [← g3] at A3 D3 st3
  have g_b3 : n0 ≤ b3 := Nat.le_trans Z0 (Nat.le_of_eq g3.symm)
  have sz_b3 : h0.size ≤ b3 := Nat.le_trans (Keep.refl h0 []).1 (Nat.le_of_eq g3.symm)
  have f1 : Old Z n0 h3 := r1.ext E3
  have Zp3 : n0 ≤ h3.size := Nat.le_trans Z0 E3.1
  have K3 : Keep h0 h3 [] := (Keep.refl h0 []).ext E3
  have f2 : Exa Z h3 b3 "java/lang/String" := A3
  have f3 : Fld Z h3 b3 "java/lang/String" "value" "[B" .null := D3 (Or.inr (hw _ (List.mem_of_getElem? (i := 22) rfl))) (ty := (.array .byte)) (by decide)
  have f4 : Fld Z h3 b3 "java/lang/String" "coder" "B" (.int (0 : Int32)) := D3 (Or.inr (hw _ (List.mem_of_getElem? (i := 23) rfl))) (ty := .byte) (by decide)
  have go4 : Go p e below A0 (T3.setTop (mkF m 18 #[.val (.int p0)] [(.int p0), (.ref b3), (.ref b3)])) := by
    intro t k
    refine go3 t ?_
    refine o_ifN X2 hx hby d6_10 13 rfl (feq (by rw [hv1]; unfold Fce; rw [if_neg hc]; decide)).1 ?_
    refine st3 _ ?_
    show Steps p.tables e below (T3.setTop (mkF m 16 #[.val (.int p0)] [(.ref b3)])) _
    refine o_dup X3 hx hby d6_16 17 rfl rfl ?_
    refine o_iloadN X3 hx hby d6_17 18 rfl rfl ?_
    exact k
  obtain ⟨_, _, ⟨T4, L4, k4, n4⟩, -, X4, ⟨Lc4, hQ4, l4, y4, z4⟩, st4⟩ := Jvm.LawKit.callS X3 hx (y := (⟨"java/lang/StringLatin1", "toBytes", "(C)[B"⟩ : MethodName)) hown (mvT hZ (hw _ (List.mem_of_getElem? (i := 65) rfl))) (mvT hZ (hw _ (List.mem_of_getElem? (i := 66) rfl))) (mvT hZ (hw _ (List.mem_of_getElem? (i := 62) rfl))) (mvT hZ (hw _ (List.mem_of_getElem? (i := 67) rfl))) (by decide) (backOf (W := 2) (rm8 l Z aw hw [] p0 h3 n0 Zp3 ) hZ (hw _ (List.mem_of_getElem? (i := 67) rfl)) (hw _ (List.mem_of_getElem? (i := 62) rfl)) (by decide) (by decide)) (g := (mkF m 18 #[.val (.int p0)] [(.int p0), (.ref b3), (.ref b3)])) rfl (by rw [hml]; rfl) (argsL := [(.int p0)]) (rest := [(.ref b3), (.ref b3)]) (lenOf pd_3 rfl) rfl (by show 2 * 0 + _ ≤ _; exact Nat.le_of_eq rfl) (hb hby d6_18) (fun _ _ => ⟨rfl, e3, (by decide : 1 + 1 ≤ _), (by decide : 4 + 1 ≤ _)⟩)
  dsimp only [Pt.U, Pt.locs, Pt.cells, Pt.slots] at X4 l4 y4 z4 st4 hQ4
  subst l4 y4 z4
  obtain ⟨b4_b, rfl, N4q, K4q, sz_b4_bq, -⟩ := hQ4
  have ne_b3_b4_b : b3 ≠ b4_b := Nat.ne_of_lt (Nat.lt_of_lt_of_le f2.lt sz_b4_bq)
  have g_b4_b : n0 ≤ b4_b := Nat.le_trans Zp3 sz_b4_bq
  have sz_b4_b : h0.size ≤ b4_b := Nat.le_trans K3.1 sz_b4_bq
  have f5 : Old Z n0 T4.heap := f1.keep K4q all0
  have f6 : Exa Z T4.heap b3 "java/lang/String" := f2.keep K4q
  have f7 : Fld Z T4.heap b3 "java/lang/String" "value" "[B" .null := f3.keep K4q nin0
  have f8 : Fld Z T4.heap b3 "java/lang/String" "coder" "B" (.int (0 : Int32)) := f4.keep K4q nin0
  have Zp4 : n0 ≤ T4.heap.size := Nat.le_trans Zp3 K4q.1
  have K4 : Keep h0 T4.heap [] := Keep.trans K3 K4q all0
  have N4 := Fr.app N2 N4q
  have go5 : Go p e below A0 (T4.setTop (mkF m 21 #[.val (.int p0)] [(.ref b4_b), (.ref b3), (.ref b3)])) := by
    intro t k
    refine go4 t ?_
    refine st4 _ ?_
    show Steps p.tables e below (T4.setTop (mkF m 21 #[.val (.int p0)] [(.ref b4_b), (.ref b3), (.ref b3)])) _
    exact k
  have go6 : Go p e below A0 (T4.setTop (mkF m 22 #[.val (.int p0)] [(.int (0 : Int32)), (.ref b4_b), (.ref b3), (.ref b3)])) := by
    intro t k
    refine go5 t ?_
    refine o_iconst X4 hx hby d6_21 22 rfl (v := (0 : Int32)) rfl ?_
    exact k
  obtain ⟨_, _, ⟨T5, L5, k5, n5⟩, -, X5, ⟨Lc5, hQ5, l5, y5, z5⟩, st5⟩ := X4.specialBack hx (y := (⟨"java/lang/String", "<init>", "([BB)V"⟩ : MethodName)) rfl hown (mvT hZ (hw _ (List.mem_of_getElem? (i := 68) rfl))) (mvT hZ (hw _ (List.mem_of_getElem? (i := 69) rfl))) (mvT hZ (hw _ (List.mem_of_getElem? (i := 71) rfl))) (by decide) (backOf (W := 1) (rm9 l Z aw hw [] b3 b4_b T4.heap n0 Zp4 (f6) (g_b3) (f7) (f8)) hZ (hw _ (List.mem_of_getElem? (i := 71) rfl)) (hw _ (List.mem_of_getElem? (i := 19) rfl)) (by decide) (by decide)) (g := (mkF m 22 #[.val (.int p0)] [(.int (0 : Int32)), (.ref b4_b), (.ref b3), (.ref b3)])) rfl (by rw [hml]; rfl) (Steps.refl _) (a := b3) (argsL := [(.ref b4_b), (.int (0 : Int32))]) (rest := [(.ref b3)]) (lenOf pd_4 rfl) rfl (by show 2 * 0 + _ ≤ _; exact Nat.le_of_eq rfl) (hb hby d6_22) (fun _ _ => ⟨rfl, rfl, (by decide : 2 + 0 ≤ _), (by decide : 5 + 0 ≤ _)⟩)
  dsimp only [Pt.U, Pt.locs, Pt.cells, Pt.slots] at X5 l5 y5 z5 st5 hQ5
  subst l5 y5 z5
  obtain ⟨rfl, N5q, K5q, -⟩ := hQ5
  have f9 : Old Z n0 T5.heap := f5.keep K5q (allS g_b3 all0)
  have f10 : Exa Z T5.heap b3 "java/lang/String" := f6.keep K5q
  have Zp5 : n0 ≤ T5.heap.size := Nat.le_trans Zp4 K5q.1
  have K5 : Keep h0 T5.heap [] := Keep.trans K4 K5q (allS (P := fun x => x ∈ ([] : List Addr) ∨ h0.size ≤ x) (Or.inr sz_b3) all0)
  have N5 := Fr.app N4 N5q
  have go7 : Go p e below A0 (T5.setTop (mkF m 25 #[.val (.int p0)] [(.ref b3)])) := by
    intro t k
    refine go6 t ?_
    refine st5.trans ?_
    show Steps p.tables e below (T5.setTop (mkF m 25 #[.val (.int p0)] [(.ref b3)])) _
    exact k
  subst hA0
  obtain ⟨fs, hr, hrun, hended, hW, hsame⟩ := X5.leave (v := some (.ref b3)) (fun h => by rw [Bd.returns] at h; cases h)
  refine ⟨_, _, go7 _ (o_retR X5 hx Bd.returns rfl (hb hby d6_25) rfl rfl hr), hrun, hended, _, _, rfl, ?_, ⟨_, rfl⟩, hW, hsame.mono (by decide) (by decide)⟩
  show Q6 Z p0 cs h0 n0 _ T5.heap _
  exact ⟨b3, rfl, N5, K5, sz_b3, trivial⟩
theorem d2_0 : decode jdk_30_method_1_code 0 = .ok (.aload_n 0, 1) := by decide +kernel
theorem d2_1 : decode jdk_30_method_1_code 1 = .ok (.invokespecial 1, 3) := by decide +kernel
theorem d2_4 : decode jdk_30_method_1_code 4 = .ok (.return_, 1) := by decide +kernel
theorem pn_2 : plainName "java/lang/Record" = true := by first | (simp [plainName, overriddenIn]; done) | decide +kernel
theorem ef_2 (m : MethodId) (x0 : Addr) : entryFrame m #[(.ref x0)] 1 = mkF m 0 #[.val (.ref x0)] [] := by first | (simp [entryFrame, mkF, argsToLocals, Value.category]; done) | rfl
def Q2 (Z : State) (a0 : Addr) (h0 : Heap) (n0 : Nat) (v : Option Value) (h : Heap) (L : List Loc) : Prop := v = none ∧ Fr n0 L ∧ h = h0
set_option maxRecDepth 65536 in
set_option maxHeartbeats 40000000 in
theorem rm2 (l : Launch) (Z : State) (aw : Array Value) (hw : ∀ d ∈ tables_1, d.before aw Z = true) (ws : List Jvm.Cond) (a0 : Addr) (h0 : Heap) (n0 : Nat) (Z0 : n0 ≤ h0.size) :
    MetFree l (⟨"java/lang/Record", "<init>", "()V"⟩ : MethodName) (head1 (Jvm.Cond.code (⟨"java/lang/Record", "<init>", "()V"⟩ : MethodName) jdk_30_method_1_code 1 none :: ws) ({ frames := 1, cells := 0, slots := 0, locals := 12 } : Room)) (fun a U => a = #[(.ref a0)] ∧ Z.Warmed39 U.vm ∧ U.heap = h0) (fun _ _ _ _ _ => True) (fun _ U o U' => ∃ v L, o = .returned v ∧ Q2 Z a0 h0 n0 v U'.heap L ∧ FrameEnd U o U' L ({ frames := 1, cells := 0, slots := 0, locals := 12 } : Room).cells ({ frames := 1, cells := 0, slots := 0, locals := 12 } : Room).slots) := by
  refine MetFree.of_bodySF (plainFor_of_name pn_2) hisR ?_
  intro p e s m args below meth c s₁ Bd hml0 hP hK
  obtain ⟨rfl, hZ, hh⟩ := hP
  have hx := Bd.exec
  have hby := Bd.bytes
  have hml : c.maxLocals = 1 := hml0
  have hown : s.vm.findClass "java/lang/Record" = some m.cls := findClass_of_methodNamed Bd.named
  have hnm := (name_of_methodNamed Bd.named Bd.method).1
  have X0 : Stand p l e ({ frames := 1, cells := 0, slots := 0, locals := 12 } : Room) s m #[(.ref a0)] below meth c s₁ [] 0 0 := Stand.of_body Bd
  have e0 : s₁.heap = h0 := by rw [← hh, Bd.state]; rfl
  have N0 := Fr.nil n0
  obtain ⟨A0, hA0⟩ : ∃ A0, A0 = s₁.setTop (entryFrame m #[(.ref a0)] 1) := ⟨_, rfl⟩
  have go0 : Go p e below A0 (s₁.setTop (mkF m 0 #[.val (.ref a0)] [])) := fun t k => by rw [hA0]; exact castTop (ef_2 m a0) k
  obtain ⟨T1, X1, e1, st1⟩ := initO X0 hx hZ hown (hw _ (List.mem_of_getElem? (i := 15) rfl)) (hw _ (List.mem_of_getElem? (i := 16) rfl)) (hw _ (List.mem_of_getElem? (i := 17) rfl)) e0 (g := (mkF m 1 #[.val (.ref a0)] [(.ref a0)])) rfl (by rw [hml]; rfl) rfl (hb hby d2_1) (by decide) (W := 0) (by show 2 * 0 + _ ≤ _; exact Nat.le_of_eq rfl) (by decide)
  have go1 : Go p e below A0 (T1.setTop (mkF m 4 #[.val (.ref a0)] [])) := by
    intro t k
    refine go0 t ?_
    refine o_aloadN X0 hx hby d2_0 1 rfl rfl rfl ?_
    refine st1 _ ?_
    exact k
  subst hA0
  obtain ⟨fs, hr, hrun, hended, hW, hsame⟩ := X1.leave (v := none) (fun _ => rfl)
  refine ⟨_, _, go1 _ (X1.returnOut hx Bd.returns (hb hby d2_4) hr), hrun, hended, _, _, rfl, ?_, ⟨_, rfl⟩, hW, hsame.mono (by decide) (by decide)⟩
  show Q2 Z a0 h0 n0 _ T1.heap _
  rw [e1]
  exact ⟨rfl, N0, rfl⟩
theorem d4_0 : decode jdk_31_method_11_code 0 = .ok (.aload_n 0, 1) := by decide +kernel
theorem d4_1 : decode jdk_31_method_11_code 1 = .ok (.ifnonnull 12, 3) := by decide +kernel
theorem d4_4 : decode jdk_31_method_11_code 4 = .ok (.new 84, 3) := by decide +kernel
theorem d4_7 : decode jdk_31_method_11_code 7 = .ok (.dup, 1) := by decide +kernel
theorem d4_8 : decode jdk_31_method_11_code 8 = .ok (.aload_n 1, 1) := by decide +kernel
theorem d4_9 : decode jdk_31_method_11_code 9 = .ok (.invokespecial 87, 3) := by decide +kernel
theorem d4_12 : decode jdk_31_method_11_code 12 = .ok (.athrow, 1) := by decide +kernel
theorem d4_13 : decode jdk_31_method_11_code 13 = .ok (.aload_n 0, 1) := by decide +kernel
theorem d4_14 : decode jdk_31_method_11_code 14 = .ok (.areturn, 1) := by decide +kernel
theorem pn_4 : plainName "java/util/Objects" = true := by first | (simp [plainName, overriddenIn]; done) | decide +kernel
theorem ef_4 (m : MethodId) (x0 : Addr) (x1 : Addr) : entryFrame m #[(.ref x0), (.ref x1)] 2 = mkF m 0 #[.val (.ref x0), .val (.ref x1)] [] := by first | (simp [entryFrame, mkF, argsToLocals, Value.category]; done) | rfl
def Q4 (Z : State) (a0 : Addr) (a1 : Addr) (h0 : Heap) (n0 : Nat) (v : Option Value) (h : Heap) (L : List Loc) : Prop := v = some (.ref a0) ∧ Fr n0 L ∧ h = h0
set_option maxRecDepth 65536 in
set_option maxHeartbeats 40000000 in
theorem rm4 (l : Launch) (Z : State) (aw : Array Value) (hw : ∀ d ∈ tables_1, d.before aw Z = true) (ws : List Jvm.Cond) (a0 : Addr) (a1 : Addr) (h0 : Heap) (n0 : Nat) (Z0 : n0 ≤ h0.size) :
    MetFree l (⟨"java/util/Objects", "requireNonNull", "(Ljava/lang/Object;Ljava/lang/String;)Ljava/lang/Object;"⟩ : MethodName) (head1 (Jvm.Cond.code (⟨"java/util/Objects", "requireNonNull", "(Ljava/lang/Object;Ljava/lang/String;)Ljava/lang/Object;"⟩ : MethodName) jdk_31_method_11_code 2 (some (.object "java/lang/Object")) :: ws) ({ frames := 0, cells := 0, slots := 0, locals := 0 } : Room)) (fun a U => a = #[(.ref a0), (.ref a1)] ∧ Z.Warmed39 U.vm ∧ U.heap = h0) (fun _ _ _ _ _ => True) (fun _ U o U' => ∃ v L, o = .returned v ∧ Q4 Z a0 a1 h0 n0 v U'.heap L ∧ FrameEnd U o U' L ({ frames := 0, cells := 0, slots := 0, locals := 0 } : Room).cells ({ frames := 0, cells := 0, slots := 0, locals := 0 } : Room).slots) := by
  refine MetFree.of_bodySF (plainFor_of_name pn_4) hisR ?_
  intro p e s m args below meth c s₁ Bd hml0 hP hK
  obtain ⟨rfl, hZ, hh⟩ := hP
  have hx := Bd.exec
  have hby := Bd.bytes
  have hml : c.maxLocals = 2 := hml0
  have hown : s.vm.findClass "java/util/Objects" = some m.cls := findClass_of_methodNamed Bd.named
  have hnm := (name_of_methodNamed Bd.named Bd.method).1
  have X0 : Stand p l e ({ frames := 0, cells := 0, slots := 0, locals := 0 } : Room) s m #[(.ref a0), (.ref a1)] below meth c s₁ [] 0 0 := Stand.of_body Bd
  have e0 : s₁.heap = h0 := by rw [← hh, Bd.state]; rfl
  have N0 := Fr.nil n0
  obtain ⟨A0, hA0⟩ : ∃ A0, A0 = s₁.setTop (entryFrame m #[(.ref a0), (.ref a1)] 2) := ⟨_, rfl⟩
  have go0 : Go p e below A0 (s₁.setTop (mkF m 0 #[.val (.ref a0), .val (.ref a1)] [])) := fun t k => by rw [hA0]; exact castTop (ef_4 m a0 a1) k
  have go1 : Go p e below A0 (s₁.setTop (mkF m 14 #[.val (.ref a0), .val (.ref a1)] [(.ref a0)])) := by
    intro t k
    refine go0 t ?_
    refine o_aloadN X0 hx hby d4_0 1 rfl rfl rfl ?_
    refine o_ifnonnullY X0 hx hby d4_1 13 rfl ?_
    refine o_aloadN X0 hx hby d4_13 14 rfl rfl rfl ?_
    exact k
  subst hA0
  obtain ⟨fs, hr, hrun, hended, hW, hsame⟩ := X0.leave (v := some (.ref a0)) (fun h => by rw [Bd.returns] at h; cases h)
  refine ⟨_, _, go1 _ (o_retR X0 hx Bd.returns rfl (hb hby d4_14) rfl rfl hr), hrun, hended, _, _, rfl, ?_, ⟨_, rfl⟩, hW, hsame.mono (by decide) (by decide)⟩
  show Q4 Z a0 a1 h0 n0 _ s₁.heap _
  rw [e0]
  exact ⟨rfl, N0, rfl⟩
theorem d1_0 : decode prog_33_method_1_code 0 = .ok (.aload_n 0, 1) := by decide +kernel
theorem d1_1 : decode prog_33_method_1_code 1 = .ok (.invokespecial 1, 3) := by decide +kernel
theorem d1_4 : decode prog_33_method_1_code 4 = .ok (.aload_n 3, 1) := by decide +kernel
theorem d1_5 : decode prog_33_method_1_code 5 = .ok (.ldc 7, 2) := by decide +kernel
theorem d1_7 : decode prog_33_method_1_code 7 = .ok (.invokestatic 9, 3) := by decide +kernel
theorem d1_10 : decode prog_33_method_1_code 10 = .ok (.pop, 1) := by decide +kernel
theorem d1_11 : decode prog_33_method_1_code 11 = .ok (.iload_n 1, 1) := by decide +kernel
theorem d1_12 : decode prog_33_method_1_code 12 = .ok (.ifCond .ge 17, 3) := by decide +kernel
theorem d1_15 : decode prog_33_method_1_code 15 = .ok (.new 15, 3) := by decide +kernel
theorem d1_18 : decode prog_33_method_1_code 18 = .ok (.dup, 1) := by decide +kernel
theorem d1_19 : decode prog_33_method_1_code 19 = .ok (.iload_n 1, 1) := by decide +kernel
theorem d1_25 : decode prog_33_method_1_code 25 = .ok (.invokespecial 21, 3) := by decide +kernel
theorem d1_28 : decode prog_33_method_1_code 28 = .ok (.athrow, 1) := by decide +kernel
theorem d1_29 : decode prog_33_method_1_code 29 = .ok (.aload_n 3, 1) := by decide +kernel
theorem d1_30 : decode prog_33_method_1_code 30 = .ok (.getstatic 24, 3) := by decide +kernel
theorem d1_33 : decode prog_33_method_1_code 33 = .ok (.if_acmp .ne 7, 3) := by decide +kernel
theorem d1_36 : decode prog_33_method_1_code 36 = .ok (.iconst 1, 1) := by decide +kernel
theorem d1_37 : decode prog_33_method_1_code 37 = .ok (.goto 4, 3) := by decide +kernel
theorem d1_40 : decode prog_33_method_1_code 40 = .ok (.iconst 0, 1) := by decide +kernel
theorem d1_41 : decode prog_33_method_1_code 41 = .ok (.aload 4, 2) := by decide +kernel
theorem d1_43 : decode prog_33_method_1_code 43 = .ok (.ifnonnull 7, 3) := by decide +kernel
theorem d1_46 : decode prog_33_method_1_code 46 = .ok (.iconst 1, 1) := by decide +kernel
theorem d1_47 : decode prog_33_method_1_code 47 = .ok (.goto 4, 3) := by decide +kernel
theorem d1_50 : decode prog_33_method_1_code 50 = .ok (.iconst 0, 1) := by decide +kernel
theorem d1_51 : decode prog_33_method_1_code 51 = .ok (.if_icmp .ne 26, 3) := by decide +kernel
theorem d1_54 : decode prog_33_method_1_code 54 = .ok (.aload 4, 2) := by decide +kernel
theorem d1_56 : decode prog_33_method_1_code 56 = .ok (.ifnonnull 7, 3) := by decide +kernel
theorem d1_59 : decode prog_33_method_1_code 59 = .ok (.iconst 1, 1) := by decide +kernel
theorem d1_60 : decode prog_33_method_1_code 60 = .ok (.goto 4, 3) := by decide +kernel
theorem d1_63 : decode prog_33_method_1_code 63 = .ok (.iconst 0, 1) := by decide +kernel
theorem d1_64 : decode prog_33_method_1_code 64 = .ok (.aload 5, 2) := by decide +kernel
theorem d1_66 : decode prog_33_method_1_code 66 = .ok (.ifnonnull 7, 3) := by decide +kernel
theorem d1_69 : decode prog_33_method_1_code 69 = .ok (.iconst 1, 1) := by decide +kernel
theorem d1_70 : decode prog_33_method_1_code 70 = .ok (.goto 4, 3) := by decide +kernel
theorem d1_73 : decode prog_33_method_1_code 73 = .ok (.iconst 0, 1) := by decide +kernel
theorem d1_74 : decode prog_33_method_1_code 74 = .ok (.if_icmp .eq 24, 3) := by decide +kernel
theorem d1_77 : decode prog_33_method_1_code 77 = .ok (.new 15, 3) := by decide +kernel
theorem d1_80 : decode prog_33_method_1_code 80 = .ok (.dup, 1) := by decide +kernel
theorem d1_81 : decode prog_33_method_1_code 81 = .ok (.aload_n 3, 1) := by decide +kernel
theorem d1_82 : decode prog_33_method_1_code 82 = .ok (.invokestatic 30, 3) := by decide +kernel
theorem d1_85 : decode prog_33_method_1_code 85 = .ok (.aload 4, 2) := by decide +kernel
theorem d1_87 : decode prog_33_method_1_code 87 = .ok (.aload 5, 2) := by decide +kernel
theorem d1_94 : decode prog_33_method_1_code 94 = .ok (.invokespecial 21, 3) := by decide +kernel
theorem d1_97 : decode prog_33_method_1_code 97 = .ok (.athrow, 1) := by decide +kernel
theorem d1_98 : decode prog_33_method_1_code 98 = .ok (.aload 6, 2) := by decide +kernel
theorem d1_100 : decode prog_33_method_1_code 100 = .ok (.ifnull 14, 3) := by decide +kernel
theorem d1_103 : decode prog_33_method_1_code 103 = .ok (.iload_n 2, 1) := by decide +kernel
theorem d1_104 : decode prog_33_method_1_code 104 = .ok (.ifCond .ne 29, 3) := by decide +kernel
theorem d1_107 : decode prog_33_method_1_code 107 = .ok (.aload_n 3, 1) := by decide +kernel
theorem d1_108 : decode prog_33_method_1_code 108 = .ok (.getstatic 24, 3) := by decide +kernel
theorem d1_111 : decode prog_33_method_1_code 111 = .ok (.if_acmp .ne 22, 3) := by decide +kernel
theorem d1_114 : decode prog_33_method_1_code 114 = .ok (.lload 7, 2) := by decide +kernel
theorem d1_116 : decode prog_33_method_1_code 116 = .ok (.lconst 0, 1) := by decide +kernel
theorem d1_117 : decode prog_33_method_1_code 117 = .ok (.lcmp, 1) := by decide +kernel
theorem d1_118 : decode prog_33_method_1_code 118 = .ok (.ifCond .eq 8, 3) := by decide +kernel
theorem d1_121 : decode prog_33_method_1_code 121 = .ok (.aload 6, 2) := by decide +kernel
theorem d1_123 : decode prog_33_method_1_code 123 = .ok (.ifnull 10, 3) := by decide +kernel
theorem d1_126 : decode prog_33_method_1_code 126 = .ok (.lload 7, 2) := by decide +kernel
theorem d1_128 : decode prog_33_method_1_code 128 = .ok (.lconst 0, 1) := by decide +kernel
theorem d1_129 : decode prog_33_method_1_code 129 = .ok (.lcmp, 1) := by decide +kernel
theorem d1_130 : decode prog_33_method_1_code 130 = .ok (.ifCond .ge 35, 3) := by decide +kernel
theorem d1_133 : decode prog_33_method_1_code 133 = .ok (.new 15, 3) := by decide +kernel
theorem d1_136 : decode prog_33_method_1_code 136 = .ok (.dup, 1) := by decide +kernel
theorem d1_137 : decode prog_33_method_1_code 137 = .ok (.aload_n 3, 1) := by decide +kernel
theorem d1_138 : decode prog_33_method_1_code 138 = .ok (.invokestatic 30, 3) := by decide +kernel
theorem d1_141 : decode prog_33_method_1_code 141 = .ok (.iload_n 2, 1) := by decide +kernel
theorem d1_142 : decode prog_33_method_1_code 142 = .ok (.ifCond .eq 8, 3) := by decide +kernel
theorem d1_145 : decode prog_33_method_1_code 145 = .ok (.ldc 39, 2) := by decide +kernel
theorem d1_147 : decode prog_33_method_1_code 147 = .ok (.goto 5, 3) := by decide +kernel
theorem d1_150 : decode prog_33_method_1_code 150 = .ok (.ldc 41, 2) := by decide +kernel
theorem d1_152 : decode prog_33_method_1_code 152 = .ok (.aload 6, 2) := by decide +kernel
theorem d1_154 : decode prog_33_method_1_code 154 = .ok (.lload 7, 2) := by decide +kernel
theorem d1_161 : decode prog_33_method_1_code 161 = .ok (.invokespecial 21, 3) := by decide +kernel
theorem d1_164 : decode prog_33_method_1_code 164 = .ok (.athrow, 1) := by decide +kernel
theorem d1_165 : decode prog_33_method_1_code 165 = .ok (.aload 9, 2) := by decide +kernel
theorem d1_167 : decode prog_33_method_1_code 167 = .ok (.ifnull 14, 3) := by decide +kernel
theorem d1_170 : decode prog_33_method_1_code 170 = .ok (.iload_n 2, 1) := by decide +kernel
theorem d1_171 : decode prog_33_method_1_code 171 = .ok (.ifCond .ne 26, 3) := by decide +kernel
theorem d1_174 : decode prog_33_method_1_code 174 = .ok (.aload_n 3, 1) := by decide +kernel
theorem d1_175 : decode prog_33_method_1_code 175 = .ok (.getstatic 24, 3) := by decide +kernel
theorem d1_178 : decode prog_33_method_1_code 178 = .ok (.if_acmp .eq 19, 3) := by decide +kernel
theorem d1_181 : decode prog_33_method_1_code 181 = .ok (.aload 10, 2) := by decide +kernel
theorem d1_183 : decode prog_33_method_1_code 183 = .ok (.ifnull 46, 3) := by decide +kernel
theorem d1_186 : decode prog_33_method_1_code 186 = .ok (.iload_n 2, 1) := by decide +kernel
theorem d1_187 : decode prog_33_method_1_code 187 = .ok (.ifCond .eq 10, 3) := by decide +kernel
theorem d1_190 : decode prog_33_method_1_code 190 = .ok (.aload_n 3, 1) := by decide +kernel
theorem d1_191 : decode prog_33_method_1_code 191 = .ok (.getstatic 46, 3) := by decide +kernel
theorem d1_194 : decode prog_33_method_1_code 194 = .ok (.if_acmp .eq 35, 3) := by decide +kernel
theorem d1_197 : decode prog_33_method_1_code 197 = .ok (.new 15, 3) := by decide +kernel
theorem d1_200 : decode prog_33_method_1_code 200 = .ok (.dup, 1) := by decide +kernel
theorem d1_201 : decode prog_33_method_1_code 201 = .ok (.aload_n 3, 1) := by decide +kernel
theorem d1_202 : decode prog_33_method_1_code 202 = .ok (.invokestatic 30, 3) := by decide +kernel
theorem d1_205 : decode prog_33_method_1_code 205 = .ok (.iload_n 2, 1) := by decide +kernel
theorem d1_206 : decode prog_33_method_1_code 206 = .ok (.ifCond .eq 8, 3) := by decide +kernel
theorem d1_209 : decode prog_33_method_1_code 209 = .ok (.ldc 39, 2) := by decide +kernel
theorem d1_211 : decode prog_33_method_1_code 211 = .ok (.goto 5, 3) := by decide +kernel
theorem d1_214 : decode prog_33_method_1_code 214 = .ok (.ldc 41, 2) := by decide +kernel
theorem d1_216 : decode prog_33_method_1_code 216 = .ok (.aload 9, 2) := by decide +kernel
theorem d1_218 : decode prog_33_method_1_code 218 = .ok (.aload 10, 2) := by decide +kernel
theorem d1_225 : decode prog_33_method_1_code 225 = .ok (.invokespecial 21, 3) := by decide +kernel
theorem d1_228 : decode prog_33_method_1_code 228 = .ok (.athrow, 1) := by decide +kernel
theorem d1_229 : decode prog_33_method_1_code 229 = .ok (.aload_n 0, 1) := by decide +kernel
theorem d1_230 : decode prog_33_method_1_code 230 = .ok (.iload_n 1, 1) := by decide +kernel
theorem d1_231 : decode prog_33_method_1_code 231 = .ok (.putfield 52, 3) := by decide +kernel
theorem d1_234 : decode prog_33_method_1_code 234 = .ok (.aload_n 0, 1) := by decide +kernel
theorem d1_235 : decode prog_33_method_1_code 235 = .ok (.iload_n 2, 1) := by decide +kernel
theorem d1_236 : decode prog_33_method_1_code 236 = .ok (.putfield 58, 3) := by decide +kernel
theorem d1_239 : decode prog_33_method_1_code 239 = .ok (.aload_n 0, 1) := by decide +kernel
theorem d1_240 : decode prog_33_method_1_code 240 = .ok (.aload_n 3, 1) := by decide +kernel
theorem d1_241 : decode prog_33_method_1_code 241 = .ok (.putfield 62, 3) := by decide +kernel
theorem d1_244 : decode prog_33_method_1_code 244 = .ok (.aload_n 0, 1) := by decide +kernel
theorem d1_245 : decode prog_33_method_1_code 245 = .ok (.aload 4, 2) := by decide +kernel
theorem d1_247 : decode prog_33_method_1_code 247 = .ok (.putfield 64, 3) := by decide +kernel
theorem d1_250 : decode prog_33_method_1_code 250 = .ok (.aload_n 0, 1) := by decide +kernel
theorem d1_251 : decode prog_33_method_1_code 251 = .ok (.aload 5, 2) := by decide +kernel
theorem d1_253 : decode prog_33_method_1_code 253 = .ok (.putfield 68, 3) := by decide +kernel
theorem d1_256 : decode prog_33_method_1_code 256 = .ok (.aload_n 0, 1) := by decide +kernel
theorem d1_257 : decode prog_33_method_1_code 257 = .ok (.aload 6, 2) := by decide +kernel
theorem d1_259 : decode prog_33_method_1_code 259 = .ok (.putfield 71, 3) := by decide +kernel
theorem d1_262 : decode prog_33_method_1_code 262 = .ok (.aload_n 0, 1) := by decide +kernel
theorem d1_263 : decode prog_33_method_1_code 263 = .ok (.lload 7, 2) := by decide +kernel
theorem d1_265 : decode prog_33_method_1_code 265 = .ok (.putfield 74, 3) := by decide +kernel
theorem d1_268 : decode prog_33_method_1_code 268 = .ok (.aload_n 0, 1) := by decide +kernel
theorem d1_269 : decode prog_33_method_1_code 269 = .ok (.aload 9, 2) := by decide +kernel
theorem d1_271 : decode prog_33_method_1_code 271 = .ok (.putfield 78, 3) := by decide +kernel
theorem d1_274 : decode prog_33_method_1_code 274 = .ok (.aload_n 0, 1) := by decide +kernel
theorem d1_275 : decode prog_33_method_1_code 275 = .ok (.aload 10, 2) := by decide +kernel
theorem d1_277 : decode prog_33_method_1_code 277 = .ok (.putfield 81, 3) := by decide +kernel
theorem d1_280 : decode prog_33_method_1_code 280 = .ok (.return_, 1) := by decide +kernel
theorem pn_1 : plainName "org/shardwright/model/ShardCopy" = true := by first | (simp [plainName, overriddenIn]; done) | decide +kernel
theorem pd_8 : parseMethodDescriptor "()V" = some ⟨[], none⟩ := by decide +kernel
theorem pd_9 : parseMethodDescriptor "(Ljava/lang/Object;Ljava/lang/String;)Ljava/lang/Object;" = some ⟨[(.object "java/lang/Object"), (.object "java/lang/String")], some (.object "java/lang/Object")⟩ := by decide +kernel
theorem ef_1A (m : MethodId) (x0 : Addr) (x1 : Int32) (x2 : Int32) (x3 : Addr) : entryFrame m #[(.ref x0), (.int x1), (.int x2), (.ref x3), .null, .null, .null, (.long (0 : Int64)), .null, .null] 11 = mkF m 0 #[.val (.ref x0), .val (.int x1), .val (.int x2), .val (.ref x3), .val .null, .val .null, .val .null, .val (.long (0 : Int64)), .second, .val .null, .val .null] [] := by first | (simp [entryFrame, mkF, argsToLocals, Value.category]; done) | rfl
def Q1A (Z : State) (a0 : Addr) (p1 : Int32) (p2 : Int32) (uA : Addr) (h0 : Heap) (n0 : Nat) (v : Option Value) (h : Heap) (L : List Loc) : Prop := v = none ∧ Fr n0 L ∧ Keep h0 h [a0] ∧ Fld Z h a0 "org/shardwright/model/ShardCopy" "replaces" "Ljava/lang/String;" .null ∧ True
set_option maxRecDepth 65536 in
set_option maxHeartbeats 40000000 in
theorem rm1A (l : Launch) (Z : State) (aw : Array Value) (hw : ∀ d ∈ tables_1, d.before aw Z = true) (ws : List Jvm.Cond) (a0 : Addr) (p1 : Int32) (p2 : Int32) (uA : Addr) (h0 : Heap) (n0 : Nat) (Z0 : n0 ≤ h0.size) (r0 : Exa Z h0 a0 "org/shardwright/model/ShardCopy") (r1 : n0 ≤ a0) (r2 : Fld Z h0 a0 "org/shardwright/model/ShardCopy" "shard" "I" (.int (0 : Int32))) (r3 : Fld Z h0 a0 "org/shardwright/model/ShardCopy" "primary" "Z" (.int (0 : Int32))) (r4 : Fld Z h0 a0 "org/shardwright/model/ShardCopy" "state" "Lorg/shardwright/model/ShardCopy$State;" .null) (r5 : Fld Z h0 a0 "org/shardwright/model/ShardCopy" "nodeId" "Ljava/lang/String;" .null) (r6 : Fld Z h0 a0 "org/shardwright/model/ShardCopy" "allocationId" "Ljava/lang/String;" .null) (r7 : Fld Z h0 a0 "org/shardwright/model/ShardCopy" "lastNodeId" "Ljava/lang/String;" .null) (r8 : Fld Z h0 a0 "org/shardwright/model/ShardCopy" "unassignedAtMillis" "J" (.long (0 : Int64))) (r9 : Fld Z h0 a0 "org/shardwright/model/ShardCopy" "replaces" "Ljava/lang/String;" .null) (r10 : Fld Z h0 a0 "org/shardwright/model/ShardCopy" "handsOverTo" "Ljava/lang/String;" .null) (r11 : Sta Z Z.heap "org/shardwright/model/ShardCopy$State" "UNASSIGNED" "Lorg/shardwright/model/ShardCopy$State;" (.ref uA)) (r12 : Old Z n0 h0) (hz2 : (p2 = 0 ∨ p2 = 1)) (hp1 : (¬ p1 < 0)) :
    MetFree l (⟨"org/shardwright/model/ShardCopy", "<init>", "(IZLorg/shardwright/model/ShardCopy$State;Ljava/lang/String;Ljava/lang/String;Ljava/lang/String;JLjava/lang/String;Ljava/lang/String;)V"⟩ : MethodName) (head1 (Jvm.Cond.code (⟨"org/shardwright/model/ShardCopy", "<init>", "(IZLorg/shardwright/model/ShardCopy$State;Ljava/lang/String;Ljava/lang/String;Ljava/lang/String;JLjava/lang/String;Ljava/lang/String;)V"⟩ : MethodName) prog_33_method_1_code 11 none :: ws) ({ frames := 2, cells := 2, slots := 24, locals := 24 } : Room)) (fun a U => a = #[(.ref a0), (.int p1), (.int p2), (.ref uA), .null, .null, .null, (.long (0 : Int64)), .null, .null] ∧ Z.Warmed39 U.vm ∧ U.heap = h0) (fun _ _ _ _ _ => True) (fun _ U o U' => ∃ v L, o = .returned v ∧ Q1A Z a0 p1 p2 uA h0 n0 v U'.heap L ∧ ReturnedEndW U o U' L ({ frames := 2, cells := 2, slots := 24, locals := 24 } : Room).cells ({ frames := 2, cells := 2, slots := 24, locals := 24 } : Room).slots) := by
  refine MetFree.of_bodySF (plainFor_of_name pn_1) hisR ?_
  intro p e s m args below meth c s₁ Bd hml0 hP hK
  obtain ⟨rfl, hZ, hh⟩ := hP
  have hx := Bd.exec
  have hby := Bd.bytes
  have hml : c.maxLocals = 11 := hml0
  have hown : s.vm.findClass "org/shardwright/model/ShardCopy" = some m.cls := findClass_of_methodNamed Bd.named
  have hnm := (name_of_methodNamed Bd.named Bd.method).1
  have X0 : Stand p l e ({ frames := 2, cells := 2, slots := 24, locals := 24 } : Room) s m #[(.ref a0), (.int p1), (.int p2), (.ref uA), .null, .null, .null, (.long (0 : Int64)), .null, .null] below meth c s₁ [] 0 0 := Stand.of_body Bd
  have e0 : s₁.heap = h0 := by rw [← hh, Bd.state]; rfl
  have N0 := Fr.nil n0
  obtain ⟨A0, hA0⟩ : ∃ A0, A0 = s₁.setTop (entryFrame m #[(.ref a0), (.int p1), (.int p2), (.ref uA), .null, .null, .null, (.long (0 : Int64)), .null, .null] 11) := ⟨_, rfl⟩
  have go0 : Go p e below A0 (s₁.setTop (mkF m 0 #[.val (.ref a0), .val (.int p1), .val (.int p2), .val (.ref uA), .val .null, .val .null, .val .null, .val (.long (0 : Int64)), .second, .val .null, .val .null] [])) := fun t k => by rw [hA0]; exact castTop (ef_1A m a0 p1 p2 uA) k
  obtain ⟨_, _, ⟨T1, L1, k1, n1⟩, -, X1, ⟨Lc1, hQ1, l1, y1, z1⟩, st1⟩ := X0.specialBack hx (y := (⟨"java/lang/Record", "<init>", "()V"⟩ : MethodName)) rfl hown (mvT hZ (hw _ (List.mem_of_getElem? (i := 10) rfl))) (mvT hZ (hw _ (List.mem_of_getElem? (i := 11) rfl))) (mvT hZ (hw _ (List.mem_of_getElem? (i := 14) rfl))) (by decide) (backOf (W := 0) (rm2 l Z aw hw [] a0 h0 n0 Z0 ) hZ (hw _ (List.mem_of_getElem? (i := 14) rfl)) (hw _ (List.mem_of_getElem? (i := 13) rfl)) (by decide) (by decide)) (g := (mkF m 1 #[.val (.ref a0), .val (.int p1), .val (.int p2), .val (.ref uA), .val .null, .val .null, .val .null, .val (.long (0 : Int64)), .second, .val .null, .val .null] [(.ref a0)])) rfl (by rw [hml]; rfl) (Steps.refl _) (a := a0) (argsL := []) (rest := []) (lenOf pd_8 rfl) rfl (by show 2 * 0 + _ ≤ _; exact Nat.le_of_eq rfl) (hb hby d1_1) (fun _ _ => ⟨rfl, e0, (by decide : 0 + 0 ≤ _), (by decide : 0 + 0 ≤ _)⟩)
  dsimp only [Pt.U, Pt.locs, Pt.cells, Pt.slots] at X1 l1 y1 z1 st1 hQ1
  subst l1 y1 z1
  obtain ⟨rfl, N1q, e1⟩ := hQ1
  have N1 := Fr.app N0 N1q
  have hwS2 : ∀ d ∈ Bundle.stringAtoms, d.before aw Z = true := fun d hd => hw d ((by decide +kernel : ∀ d ∈ Bundle.stringAtoms, d ∈ tables_1) d hd)
  obtain ⟨a2, T2, h2, k2, X2, e2, E2, S2, sk2, hZ, hown, st2⟩ := ldcS (s := s) (vm0 := s.vm) X1 hx hZ hown (hw _ (List.mem_of_getElem? (i := 18) rfl)) hwS2 e1 ((State.WarmedH.refl s).since 0) (Nat.zero_le _) (g := (mkF m 5 #[.val (.ref a0), .val (.int p1), .val (.int p2), .val (.ref uA), .val .null, .val .null, .val .null, .val (.long (0 : Int64)), .second, .val .null, .val .null] [(.ref uA)])) rfl (hb hby d1_5) (n := 20) (by decide) (by decide) (by decide) (by decide)
  have f1 : Exa Z h2 a0 "org/shardwright/model/ShardCopy" := r0.ext E2
  have f2 : Fld Z h2 a0 "org/shardwright/model/ShardCopy" "shard" "I" (.int (0 : Int32)) := r2.ext E2
  have f3 : Fld Z h2 a0 "org/shardwright/model/ShardCopy" "primary" "Z" (.int (0 : Int32)) := r3.ext E2
  have f4 : Fld Z h2 a0 "org/shardwright/model/ShardCopy" "state" "Lorg/shardwright/model/ShardCopy$State;" .null := r4.ext E2
  have f5 : Fld Z h2 a0 "org/shardwright/model/ShardCopy" "nodeId" "Ljava/lang/String;" .null := r5.ext E2
  have f6 : Fld Z h2 a0 "org/shardwright/model/ShardCopy" "allocationId" "Ljava/lang/String;" .null := r6.ext E2
  have f7 : Fld Z h2 a0 "org/shardwright/model/ShardCopy" "lastNodeId" "Ljava/lang/String;" .null := r7.ext E2
  have f8 : Fld Z h2 a0 "org/shardwright/model/ShardCopy" "unassignedAtMillis" "J" (.long (0 : Int64)) := r8.ext E2
  have f9 : Fld Z h2 a0 "org/shardwright/model/ShardCopy" "replaces" "Ljava/lang/String;" .null := r9.ext E2
  have f10 : Fld Z h2 a0 "org/shardwright/model/ShardCopy" "handsOverTo" "Ljava/lang/String;" .null := r10.ext E2
  have f11 : Old Z n0 h2 := r12.ext E2
  have Zp2 : n0 ≤ h2.size := Nat.le_trans Z0 E2.1
  have K2 : Keep h0 h2 [a0] := (Keep.refl h0 [a0]).ext E2
  have go1 : Go p e below A0 (T2.setTop (mkF m 7 #[.val (.ref a0), .val (.int p1), .val (.int p2), .val (.ref uA), .val .null, .val .null, .val .null, .val (.long (0 : Int64)), .second, .val .null, .val .null] [(.ref a2), (.ref uA)])) := by
    intro t k
    refine go0 t ?_
    refine o_aloadN X0 hx hby d1_0 1 rfl rfl rfl ?_
    refine st1.trans ?_
    show Steps p.tables e below (T1.setTop (mkF m 4 #[.val (.ref a0), .val (.int p1), .val (.int p2), .val (.ref uA), .val .null, .val .null, .val .null, .val (.long (0 : Int64)), .second, .val .null, .val .null] [])) _
    refine o_aloadN X1 hx hby d1_4 5 rfl rfl rfl ?_
    refine st2 _ ?_
    show Steps p.tables e below (T2.setTop (mkF m 7 #[.val (.ref a0), .val (.int p1), .val (.int p2), .val (.ref uA), .val .null, .val .null, .val .null, .val (.long (0 : Int64)), .second, .val .null, .val .null] [(.ref a2), (.ref uA)])) _
    exact k
  obtain ⟨_, _, ⟨T3, L3, k3, n3⟩, -, X3, ⟨Lc3, hQ3, l3, y3, z3⟩, st3⟩ := Jvm.LawKit.callS X2 hx (y := (⟨"java/util/Objects", "requireNonNull", "(Ljava/lang/Object;Ljava/lang/String;)Ljava/lang/Object;"⟩ : MethodName)) hown (mvT hZ (hw _ (List.mem_of_getElem? (i := 26) rfl))) (mvT hZ (hw _ (List.mem_of_getElem? (i := 27) rfl))) (mvT hZ (hw _ (List.mem_of_getElem? (i := 28) rfl))) (mvT hZ (hw _ (List.mem_of_getElem? (i := 29) rfl))) (by decide) (backOf (W := 0) (rm4 l Z aw hw [] uA a2 h2 n0 Zp2 ) hZ (hw _ (List.mem_of_getElem? (i := 29) rfl)) (hw _ (List.mem_of_getElem? (i := 28) rfl)) (by decide) (by decide)) (g := (mkF m 7 #[.val (.ref a0), .val (.int p1), .val (.int p2), .val (.ref uA), .val .null, .val .null, .val .null, .val (.long (0 : Int64)), .second, .val .null, .val .null] [(.ref a2), (.ref uA)])) rfl (by rw [hml]; rfl) (argsL := [(.ref uA), (.ref a2)]) (rest := []) (lenOf pd_9 rfl) rfl (by show 2 * 0 + _ ≤ _; exact Nat.le_of_eq rfl) (hb hby d1_7) (fun _ _ => ⟨rfl, e2, (by decide : 2 + 0 ≤ _), (by decide : 24 + 0 ≤ _)⟩)
  dsimp only [Pt.U, Pt.locs, Pt.cells, Pt.slots] at X3 l3 y3 z3 st3 hQ3
  subst l3 y3 z3
  obtain ⟨rfl, N3q, e3⟩ := hQ3
  have N3 := Fr.app N1 N3q
  have go2 : Go p e below A0 (T3.setTop (mkF m 10 #[.val (.ref a0), .val (.int p1), .val (.int p2), .val (.ref uA), .val .null, .val .null, .val .null, .val (.long (0 : Int64)), .second, .val .null, .val .null] [(.ref uA)])) := by
    intro t k
    refine go1 t ?_
    refine st3 _ ?_
    show Steps p.tables e below (T3.setTop (mkF m 10 #[.val (.ref a0), .val (.int p1), .val (.int p2), .val (.ref uA), .val .null, .val .null, .val .null, .val (.long (0 : Int64)), .second, .val .null, .val .null] [(.ref uA)])) _
    exact k
  obtain ⟨T4, X4, e4, st4⟩ := getS2 X3 hx hZ hown (host := "") (Or.inl (hw _ (List.mem_of_getElem? (i := 30) rfl))) Via.refl e3 (r11.ext f11.2) (g := (mkF m 30 #[.val (.ref a0), .val (.int p1), .val (.int p2), .val (.ref uA), .val .null, .val .null, .val .null, .val (.long (0 : Int64)), .second, .val .null, .val .null] [(.ref uA)])) rfl (hb hby d1_30)
  have go3 : Go p e below A0 (T4.setTop (mkF m 231 #[.val (.ref a0), .val (.int p1), .val (.int p2), .val (.ref uA), .val .null, .val .null, .val .null, .val (.long (0 : Int64)), .second, .val .null, .val .null] [(.int p1), (.ref a0)])) := by
    intro t k
    refine go2 t ?_
    refine o_pop X3 hx hby d1_10 11 rfl rfl ?_
    refine o_iloadN X3 hx hby d1_11 12 rfl rfl ?_
    refine o_ifY X3 hx hby d1_12 29 rfl (flt (hp1)).2.1 ?_
    refine o_aloadN X3 hx hby d1_29 30 rfl rfl rfl ?_
    refine st4 _ ?_
    show Steps p.tables e below (T4.setTop (mkF m 33 #[.val (.ref a0), .val (.int p1), .val (.int p2), .val (.ref uA), .val .null, .val .null, .val .null, .val (.long (0 : Int64)), .second, .val .null, .val .null] [(.ref uA), (.ref uA)])) _
    refine o_acmp X4 hx hby d1_33 36 (same := true) rfl rfl (by simp) (by decide) (by decide) ?_
    refine o_iconst X4 hx hby d1_36 37 rfl (v := (1 : Int32)) rfl ?_
    refine o_goto X4 hx hby d1_37 41 rfl ?_
    refine o_aload X4 hx hby d1_41 43 rfl rfl rfl ?_
    refine o_ifnonnullN X4 hx hby d1_43 46 rfl ?_
    refine o_iconst X4 hx hby d1_46 47 rfl (v := (1 : Int32)) rfl ?_
    refine o_goto X4 hx hby d1_47 51 rfl ?_
    refine o_icmpN X4 hx hby d1_51 54 rfl (teq (show (1 : Int32) = (1 : Int32) by decide)).2 ?_
    refine o_aload X4 hx hby d1_54 56 rfl rfl rfl ?_
    refine o_ifnonnullN X4 hx hby d1_56 59 rfl ?_
    refine o_iconst X4 hx hby d1_59 60 rfl (v := (1 : Int32)) rfl ?_
    refine o_goto X4 hx hby d1_60 64 rfl ?_
    refine o_aload X4 hx hby d1_64 66 rfl rfl rfl ?_
    refine o_ifnonnullN X4 hx hby d1_66 69 rfl ?_
    refine o_iconst X4 hx hby d1_69 70 rfl (v := (1 : Int32)) rfl ?_
    refine o_goto X4 hx hby d1_70 74 rfl ?_
    refine o_icmpY X4 hx hby d1_74 98 rfl (teq (show (1 : Int32) = (1 : Int32) by decide)).1 ?_
    refine o_aload X4 hx hby d1_98 100 rfl rfl rfl ?_
    refine o_ifnullY X4 hx hby d1_100 114 rfl ?_
    refine o_lload X4 hx hby d1_114 116 rfl rfl ?_
    refine o_lconst X4 hx hby d1_116 117 rfl (v := (0 : Int64)) rfl ?_
    refine o_lcmp X4 hx hby d1_117 118 rfl ?_
    refine o_ifY X4 hx hby d1_118 126 rfl (teq ((lw_eq (0 : Int64) (0 : Int64)).mpr (show (0 : Int64) = (0 : Int64) by decide))).1 ?_
    refine o_lload X4 hx hby d1_126 128 rfl rfl ?_
    refine o_lconst X4 hx hby d1_128 129 rfl (v := (0 : Int64)) rfl ?_
    refine o_lcmp X4 hx hby d1_129 130 rfl ?_
    refine o_ifY X4 hx hby d1_130 165 rfl (flt (fun q => (show ¬ ((0 : Int64) < (0 : Int64)) by decide) ((lw_lt (0 : Int64) (0 : Int64)).mp q))).2.1 ?_
    refine o_aload X4 hx hby d1_165 167 rfl rfl rfl ?_
    refine o_ifnullY X4 hx hby d1_167 181 rfl ?_
    refine o_aload X4 hx hby d1_181 183 rfl rfl rfl ?_
    refine o_ifnullY X4 hx hby d1_183 229 rfl ?_
    refine o_aloadN X4 hx hby d1_229 230 rfl rfl rfl ?_
    refine o_iloadN X4 hx hby d1_230 231 rfl rfl ?_
    exact k
  obtain ⟨T5, h5, X5, e5, W5, st5⟩ := putF X4 hx hZ hown (host := "") (Or.inl (hw _ (List.mem_of_getElem? (i := 31) rfl))) Via.refl e4 f2 f1 (Or.inr ⟨(hw _ (List.mem_of_getElem? (i := 32) rfl)), rfl, hnm⟩) (hw _ (List.mem_of_getElem? (i := 5) rfl)) (ty := .int) (by decide) rfl rfl (g := (mkF m 231 #[.val (.ref a0), .val (.int p1), .val (.int p2), .val (.ref uA), .val .null, .val .null, .val .null, .val (.long (0 : Int64)), .second, .val .null, .val .null] [(.int p1), (.ref a0)])) rfl rfl (hb hby d1_231)
  have f12 : Exa Z h5 a0 "org/shardwright/model/ShardCopy" := f1.wr W5
  have f13 : Fld Z h5 a0 "org/shardwright/model/ShardCopy" "primary" "Z" (.int (0 : Int32)) := f3.other W5 (Or.inr (slot_ne (Or.inr (hw _ (List.mem_of_getElem? (i := 34) rfl))) (Or.inr (hw _ (List.mem_of_getElem? (i := 32) rfl))) (by decide) (t := .boolean) (t' := .int) (by decide) (by decide)))
  have f14 : Fld Z h5 a0 "org/shardwright/model/ShardCopy" "state" "Lorg/shardwright/model/ShardCopy$State;" .null := f4.other W5 (Or.inr (slot_ne (Or.inr (hw _ (List.mem_of_getElem? (i := 36) rfl))) (Or.inr (hw _ (List.mem_of_getElem? (i := 32) rfl))) (by decide) (t := (.object "org/shardwright/model/ShardCopy$State")) (t' := .int) (by decide) (by decide)))
  have f15 : Fld Z h5 a0 "org/shardwright/model/ShardCopy" "nodeId" "Ljava/lang/String;" .null := f5.other W5 (Or.inr (slot_ne (Or.inr (hw _ (List.mem_of_getElem? (i := 38) rfl))) (Or.inr (hw _ (List.mem_of_getElem? (i := 32) rfl))) (by decide) (t := (.object "java/lang/String")) (t' := .int) (by decide) (by decide)))
  have f16 : Fld Z h5 a0 "org/shardwright/model/ShardCopy" "allocationId" "Ljava/lang/String;" .null := f6.other W5 (Or.inr (slot_ne (Or.inr (hw _ (List.mem_of_getElem? (i := 40) rfl))) (Or.inr (hw _ (List.mem_of_getElem? (i := 32) rfl))) (by decide) (t := (.object "java/lang/String")) (t' := .int) (by decide) (by decide)))
  have f17 : Fld Z h5 a0 "org/shardwright/model/ShardCopy" "lastNodeId" "Ljava/lang/String;" .null := f7.other W5 (Or.inr (slot_ne (Or.inr (hw _ (List.mem_of_getElem? (i := 42) rfl))) (Or.inr (hw _ (List.mem_of_getElem? (i := 32) rfl))) (by decide) (t := (.object "java/lang/String")) (t' := .int) (by decide) (by decide)))
  have f18 : Fld Z h5 a0 "org/shardwright/model/ShardCopy" "unassignedAtMillis" "J" (.long (0 : Int64)) := f8.other W5 (Or.inr (slot_ne (Or.inr (hw _ (List.mem_of_getElem? (i := 44) rfl))) (Or.inr (hw _ (List.mem_of_getElem? (i := 32) rfl))) (by decide) (t := .long) (t' := .int) (by decide) (by decide)))
  have f19 : Fld Z h5 a0 "org/shardwright/model/ShardCopy" "replaces" "Ljava/lang/String;" .null := f9.other W5 (Or.inr (slot_ne (Or.inr (hw _ (List.mem_of_getElem? (i := 46) rfl))) (Or.inr (hw _ (List.mem_of_getElem? (i := 32) rfl))) (by decide) (t := (.object "java/lang/String")) (t' := .int) (by decide) (by decide)))
  have f20 : Fld Z h5 a0 "org/shardwright/model/ShardCopy" "handsOverTo" "Ljava/lang/String;" .null := f10.other W5 (Or.inr (slot_ne (Or.inr (hw _ (List.mem_of_getElem? (i := 48) rfl))) (Or.inr (hw _ (List.mem_of_getElem? (i := 32) rfl))) (by decide) (t := (.object "java/lang/String")) (t' := .int) (by decide) (by decide)))
  have f21 : Old Z n0 h5 := f11.wr W5 r1
  have Zp5 : n0 ≤ h5.size := Nat.le_trans Zp2 (Keep.of_wr W5).1
  have sk5 := Nat.le_trans sk2 (Keep.of_wr W5).1
  have K5 : Keep h0 h5 [a0] := K2.wr W5 (Or.inl (List.mem_of_getElem? (i := 0) rfl))
  have N5 := Fr.snoc X5 N3 r1
  have f22 : Fld Z h5 a0 "org/shardwright/model/ShardCopy" "shard" "I" (.int p1) := f2.same W5
  have go4 : Go p e below A0 (T5.setTop (mkF m 236 #[.val (.ref a0), .val (.int p1), .val (.int p2), .val (.ref uA), .val .null, .val .null, .val .null, .val (.long (0 : Int64)), .second, .val .null, .val .null] [(.int p2), (.ref a0)])) := by
    intro t k
    refine go3 t ?_
    refine st5 _ ?_
    show Steps p.tables e below (T5.setTop (mkF m 234 #[.val (.ref a0), .val (.int p1), .val (.int p2), .val (.ref uA), .val .null, .val .null, .val .null, .val (.long (0 : Int64)), .second, .val .null, .val .null] [])) _
    refine o_aloadN X5 hx hby d1_234 235 rfl rfl rfl ?_
    refine o_iloadN X5 hx hby d1_235 236 rfl rfl ?_
    exact k
  obtain ⟨T6, h6, X6, e6, W6, st6⟩ := putFN X5 hx hZ hown (hw _ (List.mem_of_getElem? (i := 33) rfl)) Via.refl e5 f13 f12 (Or.inr ⟨(hw _ (List.mem_of_getElem? (i := 34) rfl)), rfl, hnm⟩) (hw _ (List.mem_of_getElem? (i := 5) rfl)) (ty := .boolean) (v' := (.int p2)) (by decide) (o_nf hz2).1 (o_nf hz2).2 (g := (mkF m 236 #[.val (.ref a0), .val (.int p1), .val (.int p2), .val (.ref uA), .val .null, .val .null, .val .null, .val (.long (0 : Int64)), .second, .val .null, .val .null] [(.int p2), (.ref a0)])) rfl rfl (hb hby d1_236)
  have f23 : Exa Z h6 a0 "org/shardwright/model/ShardCopy" := f12.wr W6
  have f24 : Fld Z h6 a0 "org/shardwright/model/ShardCopy" "state" "Lorg/shardwright/model/ShardCopy$State;" .null := f14.other W6 (Or.inr (slot_ne (Or.inr (hw _ (List.mem_of_getElem? (i := 36) rfl))) (Or.inr (hw _ (List.mem_of_getElem? (i := 34) rfl))) (by decide) (t := (.object "org/shardwright/model/ShardCopy$State")) (t' := .boolean) (by decide) (by decide)))
  have f25 : Fld Z h6 a0 "org/shardwright/model/ShardCopy" "nodeId" "Ljava/lang/String;" .null := f15.other W6 (Or.inr (slot_ne (Or.inr (hw _ (List.mem_of_getElem? (i := 38) rfl))) (Or.inr (hw _ (List.mem_of_getElem? (i := 34) rfl))) (by decide) (t := (.object "java/lang/String")) (t' := .boolean) (by decide) (by decide)))
  have f26 : Fld Z h6 a0 "org/shardwright/model/ShardCopy" "allocationId" "Ljava/lang/String;" .null := f16.other W6 (Or.inr (slot_ne (Or.inr (hw _ (List.mem_of_getElem? (i := 40) rfl))) (Or.inr (hw _ (List.mem_of_getElem? (i := 34) rfl))) (by decide) (t := (.object "java/lang/String")) (t' := .boolean) (by decide) (by decide)))
  have f27 : Fld Z h6 a0 "org/shardwright/model/ShardCopy" "lastNodeId" "Ljava/lang/String;" .null := f17.other W6 (Or.inr (slot_ne (Or.inr (hw _ (List.mem_of_getElem? (i := 42) rfl))) (Or.inr (hw _ (List.mem_of_getElem? (i := 34) rfl))) (by decide) (t := (.object "java/lang/String")) (t' := .boolean) (by decide) (by decide)))
  have f28 : Fld Z h6 a0 "org/shardwright/model/ShardCopy" "unassignedAtMillis" "J" (.long (0 : Int64)) := f18.other W6 (Or.inr (slot_ne (Or.inr (hw _ (List.mem_of_getElem? (i := 44) rfl))) (Or.inr (hw _ (List.mem_of_getElem? (i := 34) rfl))) (by decide) (t := .long) (t' := .boolean) (by decide) (by decide)))
  have f29 : Fld Z h6 a0 "org/shardwright/model/ShardCopy" "replaces" "Ljava/lang/String;" .null := f19.other W6 (Or.inr (slot_ne (Or.inr (hw _ (List.mem_of_getElem? (i := 46) rfl))) (Or.inr (hw _ (List.mem_of_getElem? (i := 34) rfl))) (by decide) (t := (.object "java/lang/String")) (t' := .boolean) (by decide) (by decide)))
  have f30 : Fld Z h6 a0 "org/shardwright/model/ShardCopy" "handsOverTo" "Ljava/lang/String;" .null := f20.other W6 (Or.inr (slot_ne (Or.inr (hw _ (List.mem_of_getElem? (i := 48) rfl))) (Or.inr (hw _ (List.mem_of_getElem? (i := 34) rfl))) (by decide) (t := (.object "java/lang/String")) (t' := .boolean) (by decide) (by decide)))
  have f31 : Old Z n0 h6 := f21.wr W6 r1
  have f32 : Fld Z h6 a0 "org/shardwright/model/ShardCopy" "shard" "I" (.int p1) := f22.other W6 (Or.inr (slot_ne (Or.inr (hw _ (List.mem_of_getElem? (i := 32) rfl))) (Or.inr (hw _ (List.mem_of_getElem? (i := 34) rfl))) (by decide) (t := .int) (t' := .boolean) (by decide) (by decide)))
  have Zp6 : n0 ≤ h6.size := Nat.le_trans Zp5 (Keep.of_wr W6).1
  have sk6 := Nat.le_trans sk5 (Keep.of_wr W6).1
  have K6 : Keep h0 h6 [a0] := K5.wr W6 (Or.inl (List.mem_of_getElem? (i := 0) rfl))
  have N6 := Fr.snoc X6 N5 r1
  have f33 : Fld Z h6 a0 "org/shardwright/model/ShardCopy" "primary" "Z" (.int p2) := f13.same W6
  have go5 : Go p e below A0 (T6.setTop (mkF m 241 #[.val (.ref a0), .val (.int p1), .val (.int p2), .val (.ref uA), .val .null, .val .null, .val .null, .val (.long (0 : Int64)), .second, .val .null, .val .null] [(.ref uA), (.ref a0)])) := by
    intro t k
    refine go4 t ?_
    refine st6 _ ?_
    show Steps p.tables e below (T6.setTop (mkF m 239 #[.val (.ref a0), .val (.int p1), .val (.int p2), .val (.ref uA), .val .null, .val .null, .val .null, .val (.long (0 : Int64)), .second, .val .null, .val .null] [])) _
    refine o_aloadN X6 hx hby d1_239 240 rfl rfl rfl ?_
    refine o_aloadN X6 hx hby d1_240 241 rfl rfl rfl ?_
    exact k
  obtain ⟨T7, h7, X7, e7, W7, st7⟩ := putF X6 hx hZ hown (host := "") (Or.inl (hw _ (List.mem_of_getElem? (i := 35) rfl))) Via.refl e6 f24 f23 (Or.inr ⟨(hw _ (List.mem_of_getElem? (i := 36) rfl)), rfl, hnm⟩) (hw _ (List.mem_of_getElem? (i := 5) rfl)) (ty := (.object "org/shardwright/model/ShardCopy$State")) (by decide) rfl rfl (g := (mkF m 241 #[.val (.ref a0), .val (.int p1), .val (.int p2), .val (.ref uA), .val .null, .val .null, .val .null, .val (.long (0 : Int64)), .second, .val .null, .val .null] [(.ref uA), (.ref a0)])) rfl rfl (hb hby d1_241)
  have f34 : Exa Z h7 a0 "org/shardwright/model/ShardCopy" := f23.wr W7
  have f35 : Fld Z h7 a0 "org/shardwright/model/ShardCopy" "nodeId" "Ljava/lang/String;" .null := f25.other W7 (Or.inr (slot_ne (Or.inr (hw _ (List.mem_of_getElem? (i := 38) rfl))) (Or.inr (hw _ (List.mem_of_getElem? (i := 36) rfl))) (by decide) (t := (.object "java/lang/String")) (t' := (.object "org/shardwright/model/ShardCopy$State")) (by decide) (by decide)))
  have f36 : Fld Z h7 a0 "org/shardwright/model/ShardCopy" "allocationId" "Ljava/lang/String;" .null := f26.other W7 (Or.inr (slot_ne (Or.inr (hw _ (List.mem_of_getElem? (i := 40) rfl))) (Or.inr (hw _ (List.mem_of_getElem? (i := 36) rfl))) (by decide) (t := (.object "java/lang/String")) (t' := (.object "org/shardwright/model/ShardCopy$State")) (by decide) (by decide)))
  have f37 : Fld Z h7 a0 "org/shardwright/model/ShardCopy" "lastNodeId" "Ljava/lang/String;" .null := f27.other W7 (Or.inr (slot_ne (Or.inr (hw _ (List.mem_of_getElem? (i := 42) rfl))) (Or.inr (hw _ (List.mem_of_getElem? (i := 36) rfl))) (by decide) (t := (.object "java/lang/String")) (t' := (.object "org/shardwright/model/ShardCopy$State")) (by decide) (by decide)))
  have f38 : Fld Z h7 a0 "org/shardwright/model/ShardCopy" "unassignedAtMillis" "J" (.long (0 : Int64)) := f28.other W7 (Or.inr (slot_ne (Or.inr (hw _ (List.mem_of_getElem? (i := 44) rfl))) (Or.inr (hw _ (List.mem_of_getElem? (i := 36) rfl))) (by decide) (t := .long) (t' := (.object "org/shardwright/model/ShardCopy$State")) (by decide) (by decide)))
  have f39 : Fld Z h7 a0 "org/shardwright/model/ShardCopy" "replaces" "Ljava/lang/String;" .null := f29.other W7 (Or.inr (slot_ne (Or.inr (hw _ (List.mem_of_getElem? (i := 46) rfl))) (Or.inr (hw _ (List.mem_of_getElem? (i := 36) rfl))) (by decide) (t := (.object "java/lang/String")) (t' := (.object "org/shardwright/model/ShardCopy$State")) (by decide) (by decide)))
  have f40 : Fld Z h7 a0 "org/shardwright/model/ShardCopy" "handsOverTo" "Ljava/lang/String;" .null := f30.other W7 (Or.inr (slot_ne (Or.inr (hw _ (List.mem_of_getElem? (i := 48) rfl))) (Or.inr (hw _ (List.mem_of_getElem? (i := 36) rfl))) (by decide) (t := (.object "java/lang/String")) (t' := (.object "org/shardwright/model/ShardCopy$State")) (by decide) (by decide)))
  have f41 : Old Z n0 h7 := f31.wr W7 r1
  have f42 : Fld Z h7 a0 "org/shardwright/model/ShardCopy" "shard" "I" (.int p1) := f32.other W7 (Or.inr (slot_ne (Or.inr (hw _ (List.mem_of_getElem? (i := 32) rfl))) (Or.inr (hw _ (List.mem_of_getElem? (i := 36) rfl))) (by decide) (t := .int) (t' := (.object "org/shardwright/model/ShardCopy$State")) (by decide) (by decide)))
  have f43 : Fld Z h7 a0 "org/shardwright/model/ShardCopy" "primary" "Z" (.int p2) := f33.other W7 (Or.inr (slot_ne (Or.inr (hw _ (List.mem_of_getElem? (i := 34) rfl))) (Or.inr (hw _ (List.mem_of_getElem? (i := 36) rfl))) (by decide) (t := .boolean) (t' := (.object "org/shardwright/model/ShardCopy$State")) (by decide) (by decide)))
  have Zp7 : n0 ≤ h7.size := Nat.le_trans Zp6 (Keep.of_wr W7).1
  have sk7 := Nat.le_trans sk6 (Keep.of_wr W7).1
  have K7 : Keep h0 h7 [a0] := K6.wr W7 (Or.inl (List.mem_of_getElem? (i := 0) rfl))
  have N7 := Fr.snoc X7 N6 r1
  have f44 : Fld Z h7 a0 "org/shardwright/model/ShardCopy" "state" "Lorg/shardwright/model/ShardCopy$State;" (.ref uA) := f24.same W7
  have go6 : Go p e below A0 (T7.setTop (mkF m 247 #[.val (.ref a0), .val (.int p1), .val (.int p2), .val (.ref uA), .val .null, .val .null, .val .null, .val (.long (0 : Int64)), .second, .val .null, .val .null] [.null, (.ref a0)])) := by
    intro t k
    refine go5 t ?_
    refine st7 _ ?_
    show Steps p.tables e below (T7.setTop (mkF m 244 #[.val (.ref a0), .val (.int p1), .val (.int p2), .val (.ref uA), .val .null, .val .null, .val .null, .val (.long (0 : Int64)), .second, .val .null, .val .null] [])) _
    refine o_aloadN X7 hx hby d1_244 245 rfl rfl rfl ?_
    refine o_aload X7 hx hby d1_245 247 rfl rfl rfl ?_
    exact k
  obtain ⟨T8, h8, X8, e8, W8, st8⟩ := putF X7 hx hZ hown (host := "") (Or.inl (hw _ (List.mem_of_getElem? (i := 37) rfl))) Via.refl e7 f35 f34 (Or.inr ⟨(hw _ (List.mem_of_getElem? (i := 38) rfl)), rfl, hnm⟩) (hw _ (List.mem_of_getElem? (i := 5) rfl)) (ty := (.object "java/lang/String")) (by decide) rfl rfl (g := (mkF m 247 #[.val (.ref a0), .val (.int p1), .val (.int p2), .val (.ref uA), .val .null, .val .null, .val .null, .val (.long (0 : Int64)), .second, .val .null, .val .null] [.null, (.ref a0)])) rfl rfl (hb hby d1_247)
  have f45 : Exa Z h8 a0 "org/shardwright/model/ShardCopy" := f34.wr W8
  have f46 : Fld Z h8 a0 "org/shardwright/model/ShardCopy" "allocationId" "Ljava/lang/String;" .null := f36.other W8 (Or.inr (slot_ne (Or.inr (hw _ (List.mem_of_getElem? (i := 40) rfl))) (Or.inr (hw _ (List.mem_of_getElem? (i := 38) rfl))) (by decide) (t := (.object "java/lang/String")) (t' := (.object "java/lang/String")) (by decide) (by decide)))
  have f47 : Fld Z h8 a0 "org/shardwright/model/ShardCopy" "lastNodeId" "Ljava/lang/String;" .null := f37.other W8 (Or.inr (slot_ne (Or.inr (hw _ (List.mem_of_getElem? (i := 42) rfl))) (Or.inr (hw _ (List.mem_of_getElem? (i := 38) rfl))) (by decide) (t := (.object "java/lang/String")) (t' := (.object "java/lang/String")) (by decide) (by decide)))
  have f48 : Fld Z h8 a0 "org/shardwright/model/ShardCopy" "unassignedAtMillis" "J" (.long (0 : Int64)) := f38.other W8 (Or.inr (slot_ne (Or.inr (hw _ (List.mem_of_getElem? (i := 44) rfl))) (Or.inr (hw _ (List.mem_of_getElem? (i := 38) rfl))) (by decide) (t := .long) (t' := (.object "java/lang/String")) (by decide) (by decide)))
  have f49 : Fld Z h8 a0 "org/shardwright/model/ShardCopy" "replaces" "Ljava/lang/String;" .null := f39.other W8 (Or.inr (slot_ne (Or.inr (hw _ (List.mem_of_getElem? (i := 46) rfl))) (Or.inr (hw _ (List.mem_of_getElem? (i := 38) rfl))) (by decide) (t := (.object "java/lang/String")) (t' := (.object "java/lang/String")) (by decide) (by decide)))
  have f50 : Fld Z h8 a0 "org/shardwright/model/ShardCopy" "handsOverTo" "Ljava/lang/String;" .null := f40.other W8 (Or.inr (slot_ne (Or.inr (hw _ (List.mem_of_getElem? (i := 48) rfl))) (Or.inr (hw _ (List.mem_of_getElem? (i := 38) rfl))) (by decide) (t := (.object "java/lang/String")) (t' := (.object "java/lang/String")) (by decide) (by decide)))
  have f51 : Old Z n0 h8 := f41.wr W8 r1
  have f52 : Fld Z h8 a0 "org/shardwright/model/ShardCopy" "shard" "I" (.int p1) := f42.other W8 (Or.inr (slot_ne (Or.inr (hw _ (List.mem_of_getElem? (i := 32) rfl))) (Or.inr (hw _ (List.mem_of_getElem? (i := 38) rfl))) (by decide) (t := .int) (t' := (.object "java/lang/String")) (by decide) (by decide)))
  have f53 : Fld Z h8 a0 "org/shardwright/model/ShardCopy" "primary" "Z" (.int p2) := f43.other W8 (Or.inr (slot_ne (Or.inr (hw _ (List.mem_of_getElem? (i := 34) rfl))) (Or.inr (hw _ (List.mem_of_getElem? (i := 38) rfl))) (by decide) (t := .boolean) (t' := (.object "java/lang/String")) (by decide) (by decide)))
  have f54 : Fld Z h8 a0 "org/shardwright/model/ShardCopy" "state" "Lorg/shardwright/model/ShardCopy$State;" (.ref uA) := f44.other W8 (Or.inr (slot_ne (Or.inr (hw _ (List.mem_of_getElem? (i := 36) rfl))) (Or.inr (hw _ (List.mem_of_getElem? (i := 38) rfl))) (by decide) (t := (.object "org/shardwright/model/ShardCopy$State")) (t' := (.object "java/lang/String")) (by decide) (by decide)))
  have Zp8 : n0 ≤ h8.size := Nat.le_trans Zp7 (Keep.of_wr W8).1
  have sk8 := Nat.le_trans sk7 (Keep.of_wr W8).1
  have K8 : Keep h0 h8 [a0] := K7.wr W8 (Or.inl (List.mem_of_getElem? (i := 0) rfl))
  have N8 := Fr.snoc X8 N7 r1
  have f55 : Fld Z h8 a0 "org/shardwright/model/ShardCopy" "nodeId" "Ljava/lang/String;" .null := f35.same W8
  have go7 : Go p e below A0 (T8.setTop (mkF m 253 #[.val (.ref a0), .val (.int p1), .val (.int p2), .val (.ref uA), .val .null, .val .null, .val .null, .val (.long (0 : Int64)), .second, .val .null, .val .null] [.null, (.ref a0)])) := by
    intro t k
    refine go6 t ?_
    refine st8 _ ?_
    show Steps p.tables e below (T8.setTop (mkF m 250 #[.val (.ref a0), .val (.int p1), .val (.int p2), .val (.ref uA), .val .null, .val .null, .val .null, .val (.long (0 : Int64)), .second, .val .null, .val .null] [])) _
    refine o_aloadN X8 hx hby d1_250 251 rfl rfl rfl ?_
    refine o_aload X8 hx hby d1_251 253 rfl rfl rfl ?_
    exact k
  obtain ⟨T9, h9, X9, e9, W9, st9⟩ := putF X8 hx hZ hown (host := "") (Or.inl (hw _ (List.mem_of_getElem? (i := 39) rfl))) Via.refl e8 f46 f45 (Or.inr ⟨(hw _ (List.mem_of_getElem? (i := 40) rfl)), rfl, hnm⟩) (hw _ (List.mem_of_getElem? (i := 5) rfl)) (ty := (.object "java/lang/String")) (by decide) rfl rfl (g := (mkF m 253 #[.val (.ref a0), .val (.int p1), .val (.int p2), .val (.ref uA), .val .null, .val .null, .val .null, .val (.long (0 : Int64)), .second, .val .null, .val .null] [.null, (.ref a0)])) rfl rfl (hb hby d1_253)
  have f56 : Exa Z h9 a0 "org/shardwright/model/ShardCopy" := f45.wr W9
  have f57 : Fld Z h9 a0 "org/shardwright/model/ShardCopy" "lastNodeId" "Ljava/lang/String;" .null := f47.other W9 (Or.inr (slot_ne (Or.inr (hw _ (List.mem_of_getElem? (i := 42) rfl))) (Or.inr (hw _ (List.mem_of_getElem? (i := 40) rfl))) (by decide) (t := (.object "java/lang/String")) (t' := (.object "java/lang/String")) (by decide) (by decide)))
  have f58 : Fld Z h9 a0 "org/shardwright/model/ShardCopy" "unassignedAtMillis" "J" (.long (0 : Int64)) := f48.other W9 (Or.inr (slot_ne (Or.inr (hw _ (List.mem_of_getElem? (i := 44) rfl))) (Or.inr (hw _ (List.mem_of_getElem? (i := 40) rfl))) (by decide) (t := .long) (t' := (.object "java/lang/String")) (by decide) (by decide)))
  have f59 : Fld Z h9 a0 "org/shardwright/model/ShardCopy" "replaces" "Ljava/lang/String;" .null := f49.other W9 (Or.inr (slot_ne (Or.inr (hw _ (List.mem_of_getElem? (i := 46) rfl))) (Or.inr (hw _ (List.mem_of_getElem? (i := 40) rfl))) (by decide) (t := (.object "java/lang/String")) (t' := (.object "java/lang/String")) (by decide) (by decide)))
  have f60 : Fld Z h9 a0 "org/shardwright/model/ShardCopy" "handsOverTo" "Ljava/lang/String;" .null := f50.other W9 (Or.inr (slot_ne (Or.inr (hw _ (List.mem_of_getElem? (i := 48) rfl))) (Or.inr (hw _ (List.mem_of_getElem? (i := 40) rfl))) (by decide) (t := (.object "java/lang/String")) (t' := (.object "java/lang/String")) (by decide) (by decide)))
  have f61 : Old Z n0 h9 := f51.wr W9 r1
  have f62 : Fld Z h9 a0 "org/shardwright/model/ShardCopy" "shard" "I" (.int p1) := f52.other W9 (Or.inr (slot_ne (Or.inr (hw _ (List.mem_of_getElem? (i := 32) rfl))) (Or.inr (hw _ (List.mem_of_getElem? (i := 40) rfl))) (by decide) (t := .int) (t' := (.object "java/lang/String")) (by decide) (by decide)))
  have f63 : Fld Z h9 a0 "org/shardwright/model/ShardCopy" "primary" "Z" (.int p2) := f53.other W9 (Or.inr (slot_ne (Or.inr (hw _ (List.mem_of_getElem? (i := 34) rfl))) (Or.inr (hw _ (List.mem_of_getElem? (i := 40) rfl))) (by decide) (t := .boolean) (t' := (.object "java/lang/String")) (by decide) (by decide)))
  have f64 : Fld Z h9 a0 "org/shardwright/model/ShardCopy" "state" "Lorg/shardwright/model/ShardCopy$State;" (.ref uA) := f54.other W9 (Or.inr (slot_ne (Or.inr (hw _ (List.mem_of_getElem? (i := 36) rfl))) (Or.inr (hw _ (List.mem_of_getElem? (i := 40) rfl))) (by decide) (t := (.object "org/shardwright/model/ShardCopy$State")) (t' := (.object "java/lang/String")) (by decide) (by decide)))
  have f65 : Fld Z h9 a0 "org/shardwright/model/ShardCopy" "nodeId" "Ljava/lang/String;" .null := f55.other W9 (Or.inr (slot_ne (Or.inr (hw _ (List.mem_of_getElem? (i := 38) rfl))) (Or.inr (hw _ (List.mem_of_getElem? (i := 40) rfl))) (by decide) (t := (.object "java/lang/String")) (t' := (.object "java/lang/String")) (by decide) (by decide)))
  have Zp9 : n0 ≤ h9.size := Nat.le_trans Zp8 (Keep.of_wr W9).1
  have sk9 := Nat.le_trans sk8 (Keep.of_wr W9).1
  have K9 : Keep h0 h9 [a0] := K8.wr W9 (Or.inl (List.mem_of_getElem? (i := 0) rfl))
  have N9 := Fr.snoc X9 N8 r1
  have f66 : Fld Z h9 a0 "org/shardwright/model/ShardCopy" "allocationId" "Ljava/lang/String;" .null := f46.same W9
  have go8 : Go p e below A0 (T9.setTop (mkF m 259 #[.val (.ref a0), .val (.int p1), .val (.int p2), .val (.ref uA), .val .null, .val .null, .val .null, .val (.long (0 : Int64)), .second, .val .null, .val .null] [.null, (.ref a0)])) := by
    intro t k
    refine go7 t ?_
    refine st9 _ ?_
    show Steps p.tables e below (T9.setTop (mkF m 256 #[.val (.ref a0), .val (.int p1), .val (.int p2), .val (.ref uA), .val .null, .val .null, .val .null, .val (.long (0 : Int64)), .second, .val .null, .val .null] [])) _
    refine o_aloadN X9 hx hby d1_256 257 rfl rfl rfl ?_
    refine o_aload X9 hx hby d1_257 259 rfl rfl rfl ?_
    exact k
  obtain ⟨T10, h10, X10, e10, W10, st10⟩ := putF X9 hx hZ hown (host := "") (Or.inl (hw _ (List.mem_of_getElem? (i := 41) rfl))) Via.refl e9 f57 f56 (Or.inr ⟨(hw _ (List.mem_of_getElem? (i := 42) rfl)), rfl, hnm⟩) (hw _ (List.mem_of_getElem? (i := 5) rfl)) (ty := (.object "java/lang/String")) (by decide) rfl rfl (g := (mkF m 259 #[.val (.ref a0), .val (.int p1), .val (.int p2), .val (.ref uA), .val .null, .val .null, .val .null, .val (.long (0 : Int64)), .second, .val .null, .val .null] [.null, (.ref a0)])) rfl rfl (hb hby d1_259)
  have f67 : Exa Z h10 a0 "org/shardwright/model/ShardCopy" := f56.wr W10
  have f68 : Fld Z h10 a0 "org/shardwright/model/ShardCopy" "unassignedAtMillis" "J" (.long (0 : Int64)) := f58.other W10 (Or.inr (slot_ne (Or.inr (hw _ (List.mem_of_getElem? (i := 44) rfl))) (Or.inr (hw _ (List.mem_of_getElem? (i := 42) rfl))) (by decide) (t := .long) (t' := (.object "java/lang/String")) (by decide) (by decide)))
  have f69 : Fld Z h10 a0 "org/shardwright/model/ShardCopy" "replaces" "Ljava/lang/String;" .null := f59.other W10 (Or.inr (slot_ne (Or.inr (hw _ (List.mem_of_getElem? (i := 46) rfl))) (Or.inr (hw _ (List.mem_of_getElem? (i := 42) rfl))) (by decide) (t := (.object "java/lang/String")) (t' := (.object "java/lang/String")) (by decide) (by decide)))
  have f70 : Fld Z h10 a0 "org/shardwright/model/ShardCopy" "handsOverTo" "Ljava/lang/String;" .null := f60.other W10 (Or.inr (slot_ne (Or.inr (hw _ (List.mem_of_getElem? (i := 48) rfl))) (Or.inr (hw _ (List.mem_of_getElem? (i := 42) rfl))) (by decide) (t := (.object "java/lang/String")) (t' := (.object "java/lang/String")) (by decide) (by decide)))
  have f71 : Old Z n0 h10 := f61.wr W10 r1
  have f72 : Fld Z h10 a0 "org/shardwright/model/ShardCopy" "shard" "I" (.int p1) := f62.other W10 (Or.inr (slot_ne (Or.inr (hw _ (List.mem_of_getElem? (i := 32) rfl))) (Or.inr (hw _ (List.mem_of_getElem? (i := 42) rfl))) (by decide) (t := .int) (t' := (.object "java/lang/String")) (by decide) (by decide)))
  have f73 : Fld Z h10 a0 "org/shardwright/model/ShardCopy" "primary" "Z" (.int p2) := f63.other W10 (Or.inr (slot_ne (Or.inr (hw _ (List.mem_of_getElem? (i := 34) rfl))) (Or.inr (hw _ (List.mem_of_getElem? (i := 42) rfl))) (by decide) (t := .boolean) (t' := (.object "java/lang/String")) (by decide) (by decide)))
  have f74 : Fld Z h10 a0 "org/shardwright/model/ShardCopy" "state" "Lorg/shardwright/model/ShardCopy$State;" (.ref uA) := f64.other W10 (Or.inr (slot_ne (Or.inr (hw _ (List.mem_of_getElem? (i := 36) rfl))) (Or.inr (hw _ (List.mem_of_getElem? (i := 42) rfl))) (by decide) (t := (.object "org/shardwright/model/ShardCopy$State")) (t' := (.object "java/lang/String")) (by decide) (by decide)))
  have f75 : Fld Z h10 a0 "org/shardwright/model/ShardCopy" "nodeId" "Ljava/lang/String;" .null := f65.other W10 (Or.inr (slot_ne (Or.inr (hw _ (List.mem_of_getElem? (i := 38) rfl))) (Or.inr (hw _ (List.mem_of_getElem? (i := 42) rfl))) (by decide) (t := (.object "java/lang/String")) (t' := (.object "java/lang/String")) (by decide) (by decide)))
  have f76 : Fld Z h10 a0 "org/shardwright/model/ShardCopy" "allocationId" "Ljava/lang/String;" .null := f66.other W10 (Or.inr (slot_ne (Or.inr (hw _ (List.mem_of_getElem? (i := 40) rfl))) (Or.inr (hw _ (List.mem_of_getElem? (i := 42) rfl))) (by decide) (t := (.object "java/lang/String")) (t' := (.object "java/lang/String")) (by decide) (by decide)))
  have Zp10 : n0 ≤ h10.size := Nat.le_trans Zp9 (Keep.of_wr W10).1
  have sk10 := Nat.le_trans sk9 (Keep.of_wr W10).1
  have K10 : Keep h0 h10 [a0] := K9.wr W10 (Or.inl (List.mem_of_getElem? (i := 0) rfl))
  have N10 := Fr.snoc X10 N9 r1
  have f77 : Fld Z h10 a0 "org/shardwright/model/ShardCopy" "lastNodeId" "Ljava/lang/String;" .null := f57.same W10
  have go9 : Go p e below A0 (T10.setTop (mkF m 265 #[.val (.ref a0), .val (.int p1), .val (.int p2), .val (.ref uA), .val .null, .val .null, .val .null, .val (.long (0 : Int64)), .second, .val .null, .val .null] [(.long (0 : Int64)), (.ref a0)])) := by
    intro t k
    refine go8 t ?_
    refine st10 _ ?_
    show Steps p.tables e below (T10.setTop (mkF m 262 #[.val (.ref a0), .val (.int p1), .val (.int p2), .val (.ref uA), .val .null, .val .null, .val .null, .val (.long (0 : Int64)), .second, .val .null, .val .null] [])) _
    refine o_aloadN X10 hx hby d1_262 263 rfl rfl rfl ?_
    refine o_lload X10 hx hby d1_263 265 rfl rfl ?_
    exact k
  obtain ⟨T11, h11, X11, e11, W11, st11⟩ := putF X10 hx hZ hown (host := "") (Or.inl (hw _ (List.mem_of_getElem? (i := 43) rfl))) Via.refl e10 f68 f67 (Or.inr ⟨(hw _ (List.mem_of_getElem? (i := 44) rfl)), rfl, hnm⟩) (hw _ (List.mem_of_getElem? (i := 5) rfl)) (ty := .long) (by decide) rfl rfl (g := (mkF m 265 #[.val (.ref a0), .val (.int p1), .val (.int p2), .val (.ref uA), .val .null, .val .null, .val .null, .val (.long (0 : Int64)), .second, .val .null, .val .null] [(.long (0 : Int64)), (.ref a0)])) rfl rfl (hb hby d1_265)
  have f78 : Exa Z h11 a0 "org/shardwright/model/ShardCopy" := f67.wr W11
  have f79 : Fld Z h11 a0 "org/shardwright/model/ShardCopy" "replaces" "Ljava/lang/String;" .null := f69.other W11 (Or.inr (slot_ne (Or.inr (hw _ (List.mem_of_getElem? (i := 46) rfl))) (Or.inr (hw _ (List.mem_of_getElem? (i := 44) rfl))) (by decide) (t := (.object "java/lang/String")) (t' := .long) (by decide) (by decide)))
  have f80 : Fld Z h11 a0 "org/shardwright/model/ShardCopy" "handsOverTo" "Ljava/lang/String;" .null := f70.other W11 (Or.inr (slot_ne (Or.inr (hw _ (List.mem_of_getElem? (i := 48) rfl))) (Or.inr (hw _ (List.mem_of_getElem? (i := 44) rfl))) (by decide) (t := (.object "java/lang/String")) (t' := .long) (by decide) (by decide)))
  have f81 : Old Z n0 h11 := f71.wr W11 r1
  have f82 : Fld Z h11 a0 "org/shardwright/model/ShardCopy" "shard" "I" (.int p1) := f72.other W11 (Or.inr (slot_ne (Or.inr (hw _ (List.mem_of_getElem? (i := 32) rfl))) (Or.inr (hw _ (List.mem_of_getElem? (i := 44) rfl))) (by decide) (t := .int) (t' := .long) (by decide) (by decide)))
  have f83 : Fld Z h11 a0 "org/shardwright/model/ShardCopy" "primary" "Z" (.int p2) := f73.other W11 (Or.inr (slot_ne (Or.inr (hw _ (List.mem_of_getElem? (i := 34) rfl))) (Or.inr (hw _ (List.mem_of_getElem? (i := 44) rfl))) (by decide) (t := .boolean) (t' := .long) (by decide) (by decide)))
  have f84 : Fld Z h11 a0 "org/shardwright/model/ShardCopy" "state" "Lorg/shardwright/model/ShardCopy$State;" (.ref uA) := f74.other W11 (Or.inr (slot_ne (Or.inr (hw _ (List.mem_of_getElem? (i := 36) rfl))) (Or.inr (hw _ (List.mem_of_getElem? (i := 44) rfl))) (by decide) (t := (.object "org/shardwright/model/ShardCopy$State")) (t' := .long) (by decide) (by decide)))
  have f85 : Fld Z h11 a0 "org/shardwright/model/ShardCopy" "nodeId" "Ljava/lang/String;" .null := f75.other W11 (Or.inr (slot_ne (Or.inr (hw _ (List.mem_of_getElem? (i := 38) rfl))) (Or.inr (hw _ (List.mem_of_getElem? (i := 44) rfl))) (by decide) (t := (.object "java/lang/String")) (t' := .long) (by decide) (by decide)))
  have f86 : Fld Z h11 a0 "org/shardwright/model/ShardCopy" "allocationId" "Ljava/lang/String;" .null := f76.other W11 (Or.inr (slot_ne (Or.inr (hw _ (List.mem_of_getElem? (i := 40) rfl))) (Or.inr (hw _ (List.mem_of_getElem? (i := 44) rfl))) (by decide) (t := (.object "java/lang/String")) (t' := .long) (by decide) (by decide)))
  have f87 : Fld Z h11 a0 "org/shardwright/model/ShardCopy" "lastNodeId" "Ljava/lang/String;" .null := f77.other W11 (Or.inr (slot_ne (Or.inr (hw _ (List.mem_of_getElem? (i := 42) rfl))) (Or.inr (hw _ (List.mem_of_getElem? (i := 44) rfl))) (by decide) (t := (.object "java/lang/String")) (t' := .long) (by decide) (by decide)))
  have Zp11 : n0 ≤ h11.size := Nat.le_trans Zp10 (Keep.of_wr W11).1
  have sk11 := Nat.le_trans sk10 (Keep.of_wr W11).1
  have K11 : Keep h0 h11 [a0] := K10.wr W11 (Or.inl (List.mem_of_getElem? (i := 0) rfl))
  have N11 := Fr.snoc X11 N10 r1
  have f88 : Fld Z h11 a0 "org/shardwright/model/ShardCopy" "unassignedAtMillis" "J" (.long (0 : Int64)) := f68.same W11
  have go10 : Go p e below A0 (T11.setTop (mkF m 271 #[.val (.ref a0), .val (.int p1), .val (.int p2), .val (.ref uA), .val .null, .val .null, .val .null, .val (.long (0 : Int64)), .second, .val .null, .val .null] [.null, (.ref a0)])) := by
    intro t k
    refine go9 t ?_
    refine st11 _ ?_
    show Steps p.tables e below (T11.setTop (mkF m 268 #[.val (.ref a0), .val (.int p1), .val (.int p2), .val (.ref uA), .val .null, .val .null, .val .null, .val (.long (0 : Int64)), .second, .val .null, .val .null] [])) _
    refine o_aloadN X11 hx hby d1_268 269 rfl rfl rfl ?_
    refine o_aload X11 hx hby d1_269 271 rfl rfl rfl ?_
    exact k
  obtain ⟨T12, h12, X12, e12, W12, st12⟩ := putF X11 hx hZ hown (host := "") (Or.inl (hw _ (List.mem_of_getElem? (i := 45) rfl))) Via.refl e11 f79 f78 (Or.inr ⟨(hw _ (List.mem_of_getElem? (i := 46) rfl)), rfl, hnm⟩) (hw _ (List.mem_of_getElem? (i := 5) rfl)) (ty := (.object "java/lang/String")) (by decide) rfl rfl (g := (mkF m 271 #[.val (.ref a0), .val (.int p1), .val (.int p2), .val (.ref uA), .val .null, .val .null, .val .null, .val (.long (0 : Int64)), .second, .val .null, .val .null] [.null, (.ref a0)])) rfl rfl (hb hby d1_271)
  have f89 : Exa Z h12 a0 "org/shardwright/model/ShardCopy" := f78.wr W12
  have f90 : Fld Z h12 a0 "org/shardwright/model/ShardCopy" "handsOverTo" "Ljava/lang/String;" .null := f80.other W12 (Or.inr (slot_ne (Or.inr (hw _ (List.mem_of_getElem? (i := 48) rfl))) (Or.inr (hw _ (List.mem_of_getElem? (i := 46) rfl))) (by decide) (t := (.object "java/lang/String")) (t' := (.object "java/lang/String")) (by decide) (by decide)))
  have f91 : Old Z n0 h12 := f81.wr W12 r1
  have f92 : Fld Z h12 a0 "org/shardwright/model/ShardCopy" "shard" "I" (.int p1) := f82.other W12 (Or.inr (slot_ne (Or.inr (hw _ (List.mem_of_getElem? (i := 32) rfl))) (Or.inr (hw _ (List.mem_of_getElem? (i := 46) rfl))) (by decide) (t := .int) (t' := (.object "java/lang/String")) (by decide) (by decide)))
  have f93 : Fld Z h12 a0 "org/shardwright/model/ShardCopy" "primary" "Z" (.int p2) := f83.other W12 (Or.inr (slot_ne (Or.inr (hw _ (List.mem_of_getElem? (i := 34) rfl))) (Or.inr (hw _ (List.mem_of_getElem? (i := 46) rfl))) (by decide) (t := .boolean) (t' := (.object "java/lang/String")) (by decide) (by decide)))
  have f94 : Fld Z h12 a0 "org/shardwright/model/ShardCopy" "state" "Lorg/shardwright/model/ShardCopy$State;" (.ref uA) := f84.other W12 (Or.inr (slot_ne (Or.inr (hw _ (List.mem_of_getElem? (i := 36) rfl))) (Or.inr (hw _ (List.mem_of_getElem? (i := 46) rfl))) (by decide) (t := (.object "org/shardwright/model/ShardCopy$State")) (t' := (.object "java/lang/String")) (by decide) (by decide)))
  have f95 : Fld Z h12 a0 "org/shardwright/model/ShardCopy" "nodeId" "Ljava/lang/String;" .null := f85.other W12 (Or.inr (slot_ne (Or.inr (hw _ (List.mem_of_getElem? (i := 38) rfl))) (Or.inr (hw _ (List.mem_of_getElem? (i := 46) rfl))) (by decide) (t := (.object "java/lang/String")) (t' := (.object "java/lang/String")) (by decide) (by decide)))
  have f96 : Fld Z h12 a0 "org/shardwright/model/ShardCopy" "allocationId" "Ljava/lang/String;" .null := f86.other W12 (Or.inr (slot_ne (Or.inr (hw _ (List.mem_of_getElem? (i := 40) rfl))) (Or.inr (hw _ (List.mem_of_getElem? (i := 46) rfl))) (by decide) (t := (.object "java/lang/String")) (t' := (.object "java/lang/String")) (by decide) (by decide)))
  have f97 : Fld Z h12 a0 "org/shardwright/model/ShardCopy" "lastNodeId" "Ljava/lang/String;" .null := f87.other W12 (Or.inr (slot_ne (Or.inr (hw _ (List.mem_of_getElem? (i := 42) rfl))) (Or.inr (hw _ (List.mem_of_getElem? (i := 46) rfl))) (by decide) (t := (.object "java/lang/String")) (t' := (.object "java/lang/String")) (by decide) (by decide)))
  have f98 : Fld Z h12 a0 "org/shardwright/model/ShardCopy" "unassignedAtMillis" "J" (.long (0 : Int64)) := f88.other W12 (Or.inr (slot_ne (Or.inr (hw _ (List.mem_of_getElem? (i := 44) rfl))) (Or.inr (hw _ (List.mem_of_getElem? (i := 46) rfl))) (by decide) (t := .long) (t' := (.object "java/lang/String")) (by decide) (by decide)))
  have Zp12 : n0 ≤ h12.size := Nat.le_trans Zp11 (Keep.of_wr W12).1
  have sk12 := Nat.le_trans sk11 (Keep.of_wr W12).1
  have K12 : Keep h0 h12 [a0] := K11.wr W12 (Or.inl (List.mem_of_getElem? (i := 0) rfl))
  have N12 := Fr.snoc X12 N11 r1
  have f99 : Fld Z h12 a0 "org/shardwright/model/ShardCopy" "replaces" "Ljava/lang/String;" .null := f79.same W12
  have go11 : Go p e below A0 (T12.setTop (mkF m 277 #[.val (.ref a0), .val (.int p1), .val (.int p2), .val (.ref uA), .val .null, .val .null, .val .null, .val (.long (0 : Int64)), .second, .val .null, .val .null] [.null, (.ref a0)])) := by
    intro t k
    refine go10 t ?_
    refine st12 _ ?_
    show Steps p.tables e below (T12.setTop (mkF m 274 #[.val (.ref a0), .val (.int p1), .val (.int p2), .val (.ref uA), .val .null, .val .null, .val .null, .val (.long (0 : Int64)), .second, .val .null, .val .null] [])) _
    refine o_aloadN X12 hx hby d1_274 275 rfl rfl rfl ?_
    refine o_aload X12 hx hby d1_275 277 rfl rfl rfl ?_
    exact k
  obtain ⟨T13, h13, X13, e13, W13, st13⟩ := putF X12 hx hZ hown (host := "") (Or.inl (hw _ (List.mem_of_getElem? (i := 47) rfl))) Via.refl e12 f90 f89 (Or.inr ⟨(hw _ (List.mem_of_getElem? (i := 48) rfl)), rfl, hnm⟩) (hw _ (List.mem_of_getElem? (i := 5) rfl)) (ty := (.object "java/lang/String")) (by decide) rfl rfl (g := (mkF m 277 #[.val (.ref a0), .val (.int p1), .val (.int p2), .val (.ref uA), .val .null, .val .null, .val .null, .val (.long (0 : Int64)), .second, .val .null, .val .null] [.null, (.ref a0)])) rfl rfl (hb hby d1_277)
  have f100 : Exa Z h13 a0 "org/shardwright/model/ShardCopy" := f89.wr W13
  have f101 : Old Z n0 h13 := f91.wr W13 r1
  have f102 : Fld Z h13 a0 "org/shardwright/model/ShardCopy" "shard" "I" (.int p1) := f92.other W13 (Or.inr (slot_ne (Or.inr (hw _ (List.mem_of_getElem? (i := 32) rfl))) (Or.inr (hw _ (List.mem_of_getElem? (i := 48) rfl))) (by decide) (t := .int) (t' := (.object "java/lang/String")) (by decide) (by decide)))
  have f103 : Fld Z h13 a0 "org/shardwright/model/ShardCopy" "primary" "Z" (.int p2) := f93.other W13 (Or.inr (slot_ne (Or.inr (hw _ (List.mem_of_getElem? (i := 34) rfl))) (Or.inr (hw _ (List.mem_of_getElem? (i := 48) rfl))) (by decide) (t := .boolean) (t' := (.object "java/lang/String")) (by decide) (by decide)))
  have f104 : Fld Z h13 a0 "org/shardwright/model/ShardCopy" "state" "Lorg/shardwright/model/ShardCopy$State;" (.ref uA) := f94.other W13 (Or.inr (slot_ne (Or.inr (hw _ (List.mem_of_getElem? (i := 36) rfl))) (Or.inr (hw _ (List.mem_of_getElem? (i := 48) rfl))) (by decide) (t := (.object "org/shardwright/model/ShardCopy$State")) (t' := (.object "java/lang/String")) (by decide) (by decide)))
  have f105 : Fld Z h13 a0 "org/shardwright/model/ShardCopy" "nodeId" "Ljava/lang/String;" .null := f95.other W13 (Or.inr (slot_ne (Or.inr (hw _ (List.mem_of_getElem? (i := 38) rfl))) (Or.inr (hw _ (List.mem_of_getElem? (i := 48) rfl))) (by decide) (t := (.object "java/lang/String")) (t' := (.object "java/lang/String")) (by decide) (by decide)))
  have f106 : Fld Z h13 a0 "org/shardwright/model/ShardCopy" "allocationId" "Ljava/lang/String;" .null := f96.other W13 (Or.inr (slot_ne (Or.inr (hw _ (List.mem_of_getElem? (i := 40) rfl))) (Or.inr (hw _ (List.mem_of_getElem? (i := 48) rfl))) (by decide) (t := (.object "java/lang/String")) (t' := (.object "java/lang/String")) (by decide) (by decide)))
  have f107 : Fld Z h13 a0 "org/shardwright/model/ShardCopy" "lastNodeId" "Ljava/lang/String;" .null := f97.other W13 (Or.inr (slot_ne (Or.inr (hw _ (List.mem_of_getElem? (i := 42) rfl))) (Or.inr (hw _ (List.mem_of_getElem? (i := 48) rfl))) (by decide) (t := (.object "java/lang/String")) (t' := (.object "java/lang/String")) (by decide) (by decide)))
  have f108 : Fld Z h13 a0 "org/shardwright/model/ShardCopy" "unassignedAtMillis" "J" (.long (0 : Int64)) := f98.other W13 (Or.inr (slot_ne (Or.inr (hw _ (List.mem_of_getElem? (i := 44) rfl))) (Or.inr (hw _ (List.mem_of_getElem? (i := 48) rfl))) (by decide) (t := .long) (t' := (.object "java/lang/String")) (by decide) (by decide)))
  have f109 : Fld Z h13 a0 "org/shardwright/model/ShardCopy" "replaces" "Ljava/lang/String;" .null := f99.other W13 (Or.inr (slot_ne (Or.inr (hw _ (List.mem_of_getElem? (i := 46) rfl))) (Or.inr (hw _ (List.mem_of_getElem? (i := 48) rfl))) (by decide) (t := (.object "java/lang/String")) (t' := (.object "java/lang/String")) (by decide) (by decide)))
  have Zp13 : n0 ≤ h13.size := Nat.le_trans Zp12 (Keep.of_wr W13).1
  have sk13 := Nat.le_trans sk12 (Keep.of_wr W13).1
  have K13 : Keep h0 h13 [a0] := K12.wr W13 (Or.inl (List.mem_of_getElem? (i := 0) rfl))
  have N13 := Fr.snoc X13 N12 r1
  have f110 : Fld Z h13 a0 "org/shardwright/model/ShardCopy" "handsOverTo" "Ljava/lang/String;" .null := f90.same W13
  have go12 : Go p e below A0 (T13.setTop (mkF m 280 #[.val (.ref a0), .val (.int p1), .val (.int p2), .val (.ref uA), .val .null, .val .null, .val .null, .val (.long (0 : Int64)), .second, .val .null, .val .null] [])) := by
    intro t k
    refine go11 t ?_
    refine st13 _ ?_
    show Steps p.tables e below (T13.setTop (mkF m 280 #[.val (.ref a0), .val (.int p1), .val (.int p2), .val (.ref uA), .val .null, .val .null, .val .null, .val (.long (0 : Int64)), .second, .val .null, .val .null] [])) _
    exact k
  subst hA0
  obtain ⟨fs, hr, hrun, hended, hRW⟩ := X13.leaveW (s := s) S2 (by rw [e13]; exact sk13) (v := none) (fun _ => rfl)
  refine ⟨_, _, go12 _ (X13.returnOut hx Bd.returns (hb hby d1_280) hr), hrun, hended, _, _, rfl, ?_, hRW.1, hRW.2.1, hRW.2.2.1, hRW.2.2.2.mono (by decide) (by decide)⟩
  show Q1A Z a0 p1 p2 uA h0 n0 _ T13.heap _
  rw [e13]
  exact ⟨rfl, N13, K13, f109, trivial⟩
theorem ef_1B (m : MethodId) (x0 : Addr) (x1 : Int32) (x2 : Int32) (x3 : Addr) (x6 : Addr) (x7 : Int64) : entryFrame m #[(.ref x0), (.int x1), (.int x2), (.ref x3), .null, .null, (.ref x6), (.long x7), .null, .null] 11 = mkF m 0 #[.val (.ref x0), .val (.int x1), .val (.int x2), .val (.ref x3), .val .null, .val .null, .val (.ref x6), .val (.long x7), .second, .val .null, .val .null] [] := by first | (simp [entryFrame, mkF, argsToLocals, Value.category]; done) | rfl
def Q1B (Z : State) (a0 : Addr) (p1 : Int32) (p2 : Int32) (uA : Addr) (a6 : Addr) (q7 : Int64) (h0 : Heap) (n0 : Nat) (v : Option Value) (h : Heap) (L : List Loc) : Prop := v = none ∧ Fr n0 L ∧ Keep h0 h [a0] ∧ Fld Z h a0 "org/shardwright/model/ShardCopy" "replaces" "Ljava/lang/String;" .null ∧ True
set_option maxRecDepth 65536 in
set_option maxHeartbeats 40000000 in
theorem rm1B (l : Launch) (Z : State) (aw : Array Value) (hw : ∀ d ∈ tables_1, d.before aw Z = true) (ws : List Jvm.Cond) (a0 : Addr) (p1 : Int32) (p2 : Int32) (uA : Addr) (a6 : Addr) (q7 : Int64) (h0 : Heap) (n0 : Nat) (Z0 : n0 ≤ h0.size) (r0 : Exa Z h0 a0 "org/shardwright/model/ShardCopy") (r1 : n0 ≤ a0) (r2 : Fld Z h0 a0 "org/shardwright/model/ShardCopy" "shard" "I" (.int (0 : Int32))) (r3 : Fld Z h0 a0 "org/shardwright/model/ShardCopy" "primary" "Z" (.int (0 : Int32))) (r4 : Fld Z h0 a0 "org/shardwright/model/ShardCopy" "state" "Lorg/shardwright/model/ShardCopy$State;" .null) (r5 : Fld Z h0 a0 "org/shardwright/model/ShardCopy" "nodeId" "Ljava/lang/String;" .null) (r6 : Fld Z h0 a0 "org/shardwright/model/ShardCopy" "allocationId" "Ljava/lang/String;" .null) (r7 : Fld Z h0 a0 "org/shardwright/model/ShardCopy" "lastNodeId" "Ljava/lang/String;" .null) (r8 : Fld Z h0 a0 "org/shardwright/model/ShardCopy" "unassignedAtMillis" "J" (.long (0 : Int64))) (r9 : Fld Z h0 a0 "org/shardwright/model/ShardCopy" "replaces" "Ljava/lang/String;" .null) (r10 : Fld Z h0 a0 "org/shardwright/model/ShardCopy" "handsOverTo" "Ljava/lang/String;" .null) (r11 : Sta Z Z.heap "org/shardwright/model/ShardCopy$State" "UNASSIGNED" "Lorg/shardwright/model/ShardCopy$State;" (.ref uA)) (r12 : Old Z n0 h0) (hz2 : (p2 = 0 ∨ p2 = 1)) (hp1 : (¬ p1 < 0)) (hp2 : (p2 = 0)) (hq : (¬ q7 < 0)) :
    MetFree l (⟨"org/shardwright/model/ShardCopy", "<init>", "(IZLorg/shardwright/model/ShardCopy$State;Ljava/lang/String;Ljava/lang/String;Ljava/lang/String;JLjava/lang/String;Ljava/lang/String;)V"⟩ : MethodName) (head1 (Jvm.Cond.code (⟨"org/shardwright/model/ShardCopy", "<init>", "(IZLorg/shardwright/model/ShardCopy$State;Ljava/lang/String;Ljava/lang/String;Ljava/lang/String;JLjava/lang/String;Ljava/lang/String;)V"⟩ : MethodName) prog_33_method_1_code 11 none :: ws) ({ frames := 2, cells := 2, slots := 24, locals := 24 } : Room)) (fun a U => a = #[(.ref a0), (.int p1), (.int p2), (.ref uA), .null, .null, (.ref a6), (.long q7), .null, .null] ∧ Z.Warmed39 U.vm ∧ U.heap = h0) (fun _ _ _ _ _ => True) (fun _ U o U' => ∃ v L, o = .returned v ∧ Q1B Z a0 p1 p2 uA a6 q7 h0 n0 v U'.heap L ∧ ReturnedEndW U o U' L ({ frames := 2, cells := 2, slots := 24, locals := 24 } : Room).cells ({ frames := 2, cells := 2, slots := 24, locals := 24 } : Room).slots) := by
  refine MetFree.of_bodySF (plainFor_of_name pn_1) hisR ?_
  intro p e s m args below meth c s₁ Bd hml0 hP hK
  obtain ⟨rfl, hZ, hh⟩ := hP
  have hx := Bd.exec
  have hby := Bd.bytes
  have hml : c.maxLocals = 11 := hml0
  have hown : s.vm.findClass "org/shardwright/model/ShardCopy" = some m.cls := findClass_of_methodNamed Bd.named
  have hnm := (name_of_methodNamed Bd.named Bd.method).1
  have X0 : Stand p l e ({ frames := 2, cells := 2, slots := 24, locals := 24 } : Room) s m #[(.ref a0), (.int p1), (.int p2), (.ref uA), .null, .null, (.ref a6), (.long q7), .null, .null] below meth c s₁ [] 0 0 := Stand.of_body Bd
  have e0 : s₁.heap = h0 := by rw [← hh, Bd.state]; rfl
  have N0 := Fr.nil n0
  obtain ⟨A0, hA0⟩ : ∃ A0, A0 = s₁.setTop (entryFrame m #[(.ref a0), (.int p1), (.int p2), (.ref uA), .null, .null, (.ref a6), (.long q7), .null, .null] 11) := ⟨_, rfl⟩
  have go0 : Go p e below A0 (s₁.setTop (mkF m 0 #[.val (.ref a0), .val (.int p1), .val (.int p2), .val (.ref uA), .val .null, .val .null, .val (.ref a6), .val (.long q7), .second, .val .null, .val .null] [])) := fun t k => by rw [hA0]; exact castTop (ef_1B m a0 p1 p2 uA a6 q7) k
  obtain ⟨_, _, ⟨T1, L1, k1, n1⟩, -, X1, ⟨Lc1, hQ1, l1, y1, z1⟩, st1⟩ := X0.specialBack hx (y := (⟨"java/lang/Record", "<init>", "()V"⟩ : MethodName)) rfl hown (mvT hZ (hw _ (List.mem_of_getElem? (i := 10) rfl))) (mvT hZ (hw _ (List.mem_of_getElem? (i := 11) rfl))) (mvT hZ (hw _ (List.mem_of_getElem? (i := 14) rfl))) (by decide) (backOf (W := 0) (rm2 l Z aw hw [] a0 h0 n0 Z0 ) hZ (hw _ (List.mem_of_getElem? (i := 14) rfl)) (hw _ (List.mem_of_getElem? (i := 13) rfl)) (by decide) (by decide)) (g := (mkF m 1 #[.val (.ref a0), .val (.int p1), .val (.int p2), .val (.ref uA), .val .null, .val .null, .val (.ref a6), .val (.long q7), .second, .val .null, .val .null] [(.ref a0)])) rfl (by rw [hml]; rfl) (Steps.refl _) (a := a0) (argsL := []) (rest := []) (lenOf pd_8 rfl) rfl (by show 2 * 0 + _ ≤ _; exact Nat.le_of_eq rfl) (hb hby d1_1) (fun _ _ => ⟨rfl, e0, (by decide : 0 + 0 ≤ _), (by decide : 0 + 0 ≤ _)⟩)
  dsimp only [Pt.U, Pt.locs, Pt.cells, Pt.slots] at X1 l1 y1 z1 st1 hQ1
  subst l1 y1 z1
  obtain ⟨rfl, N1q, e1⟩ := hQ1
  have N1 := Fr.app N0 N1q
  have hwS2 : ∀ d ∈ Bundle.stringAtoms, d.before aw Z = true := fun d hd => hw d ((by decide +kernel : ∀ d ∈ Bundle.stringAtoms, d ∈ tables_1) d hd)
  obtain ⟨a2, T2, h2, k2, X2, e2, E2, S2, sk2, hZ, hown, st2⟩ := ldcS (s := s) (vm0 := s.vm) X1 hx hZ hown (hw _ (List.mem_of_getElem? (i := 18) rfl)) hwS2 e1 ((State.WarmedH.refl s).since 0) (Nat.zero_le _) (g := (mkF m 5 #[.val (.ref a0), .val (.int p1), .val (.int p2), .val (.ref uA), .val .null, .val .null, .val (.ref a6), .val (.long q7), .second, .val .null, .val .null] [(.ref uA)])) rfl (hb hby d1_5) (n := 20) (by decide) (by decide) (by decide) (by decide)
  have f1 : Exa Z h2 a0 "org/shardwright/model/ShardCopy" := r0.ext E2
  have f2 : Fld Z h2 a0 "org/shardwright/model/ShardCopy" "shard" "I" (.int (0 : Int32)) := r2.ext E2
  have f3 : Fld Z h2 a0 "org/shardwright/model/ShardCopy" "primary" "Z" (.int (0 : Int32)) := r3.ext E2
  have f4 : Fld Z h2 a0 "org/shardwright/model/ShardCopy" "state" "Lorg/shardwright/model/ShardCopy$State;" .null := r4.ext E2
  have f5 : Fld Z h2 a0 "org/shardwright/model/ShardCopy" "nodeId" "Ljava/lang/String;" .null := r5.ext E2
  have f6 : Fld Z h2 a0 "org/shardwright/model/ShardCopy" "allocationId" "Ljava/lang/String;" .null := r6.ext E2
  have f7 : Fld Z h2 a0 "org/shardwright/model/ShardCopy" "lastNodeId" "Ljava/lang/String;" .null := r7.ext E2
  have f8 : Fld Z h2 a0 "org/shardwright/model/ShardCopy" "unassignedAtMillis" "J" (.long (0 : Int64)) := r8.ext E2
  have f9 : Fld Z h2 a0 "org/shardwright/model/ShardCopy" "replaces" "Ljava/lang/String;" .null := r9.ext E2
  have f10 : Fld Z h2 a0 "org/shardwright/model/ShardCopy" "handsOverTo" "Ljava/lang/String;" .null := r10.ext E2
  have f11 : Old Z n0 h2 := r12.ext E2
  have Zp2 : n0 ≤ h2.size := Nat.le_trans Z0 E2.1
  have K2 : Keep h0 h2 [a0] := (Keep.refl h0 [a0]).ext E2
  have go1 : Go p e below A0 (T2.setTop (mkF m 7 #[.val (.ref a0), .val (.int p1), .val (.int p2), .val (.ref uA), .val .null, .val .null, .val (.ref a6), .val (.long q7), .second, .val .null, .val .null] [(.ref a2), (.ref uA)])) := by
    intro t k
    refine go0 t ?_
    refine o_aloadN X0 hx hby d1_0 1 rfl rfl rfl ?_
    refine st1.trans ?_
    show Steps p.tables e below (T1.setTop (mkF m 4 #[.val (.ref a0), .val (.int p1), .val (.int p2), .val (.ref uA), .val .null, .val .null, .val (.ref a6), .val (.long q7), .second, .val .null, .val .null] [])) _
    refine o_aloadN X1 hx hby d1_4 5 rfl rfl rfl ?_
    refine st2 _ ?_
    show Steps p.tables e below (T2.setTop (mkF m 7 #[.val (.ref a0), .val (.int p1), .val (.int p2), .val (.ref uA), .val .null, .val .null, .val (.ref a6), .val (.long q7), .second, .val .null, .val .null] [(.ref a2), (.ref uA)])) _
    exact k
  obtain ⟨_, _, ⟨T3, L3, k3, n3⟩, -, X3, ⟨Lc3, hQ3, l3, y3, z3⟩, st3⟩ := Jvm.LawKit.callS X2 hx (y := (⟨"java/util/Objects", "requireNonNull", "(Ljava/lang/Object;Ljava/lang/String;)Ljava/lang/Object;"⟩ : MethodName)) hown (mvT hZ (hw _ (List.mem_of_getElem? (i := 26) rfl))) (mvT hZ (hw _ (List.mem_of_getElem? (i := 27) rfl))) (mvT hZ (hw _ (List.mem_of_getElem? (i := 28) rfl))) (mvT hZ (hw _ (List.mem_of_getElem? (i := 29) rfl))) (by decide) (backOf (W := 0) (rm4 l Z aw hw [] uA a2 h2 n0 Zp2 ) hZ (hw _ (List.mem_of_getElem? (i := 29) rfl)) (hw _ (List.mem_of_getElem? (i := 28) rfl)) (by decide) (by decide)) (g := (mkF m 7 #[.val (.ref a0), .val (.int p1), .val (.int p2), .val (.ref uA), .val .null, .val .null, .val (.ref a6), .val (.long q7), .second, .val .null, .val .null] [(.ref a2), (.ref uA)])) rfl (by rw [hml]; rfl) (argsL := [(.ref uA), (.ref a2)]) (rest := []) (lenOf pd_9 rfl) rfl (by show 2 * 0 + _ ≤ _; exact Nat.le_of_eq rfl) (hb hby d1_7) (fun _ _ => ⟨rfl, e2, (by decide : 2 + 0 ≤ _), (by decide : 24 + 0 ≤ _)⟩)
  dsimp only [Pt.U, Pt.locs, Pt.cells, Pt.slots] at X3 l3 y3 z3 st3 hQ3
  subst l3 y3 z3
  obtain ⟨rfl, N3q, e3⟩ := hQ3
  have N3 := Fr.app N1 N3q
  have go2 : Go p e below A0 (T3.setTop (mkF m 10 #[.val (.ref a0), .val (.int p1), .val (.int p2), .val (.ref uA), .val .null, .val .null, .val (.ref a6), .val (.long q7), .second, .val .null, .val .null] [(.ref uA)])) := by
    intro t k
    refine go1 t ?_
    refine st3 _ ?_
    show Steps p.tables e below (T3.setTop (mkF m 10 #[.val (.ref a0), .val (.int p1), .val (.int p2), .val (.ref uA), .val .null, .val .null, .val (.ref a6), .val (.long q7), .second, .val .null, .val .null] [(.ref uA)])) _
    exact k
  obtain ⟨T4, X4, e4, st4⟩ := getS2 X3 hx hZ hown (host := "") (Or.inl (hw _ (List.mem_of_getElem? (i := 30) rfl))) Via.refl e3 (r11.ext f11.2) (g := (mkF m 30 #[.val (.ref a0), .val (.int p1), .val (.int p2), .val (.ref uA), .val .null, .val .null, .val (.ref a6), .val (.long q7), .second, .val .null, .val .null] [(.ref uA)])) rfl (hb hby d1_30)
  obtain ⟨T5, X5, e5, st5⟩ := getS2 X4 hx hZ hown (host := "") (Or.inl (hw _ (List.mem_of_getElem? (i := 30) rfl))) Via.refl e4 (r11.ext f11.2) (g := (mkF m 108 #[.val (.ref a0), .val (.int p1), .val (.int p2), .val (.ref uA), .val .null, .val .null, .val (.ref a6), .val (.long q7), .second, .val .null, .val .null] [(.ref uA)])) rfl (hb hby d1_108)
  have go3 : Go p e below A0 (T5.setTop (mkF m 118 #[.val (.ref a0), .val (.int p1), .val (.int p2), .val (.ref uA), .val .null, .val .null, .val (.ref a6), .val (.long q7), .second, .val .null, .val .null] [(.int (lcmpW q7 (0 : Int64)))])) := by
    intro t k
    refine go2 t ?_
    refine o_pop X3 hx hby d1_10 11 rfl rfl ?_
    refine o_iloadN X3 hx hby d1_11 12 rfl rfl ?_
    refine o_ifY X3 hx hby d1_12 29 rfl (flt (hp1)).2.1 ?_
    refine o_aloadN X3 hx hby d1_29 30 rfl rfl rfl ?_
    refine st4 _ ?_
    show Steps p.tables e below (T4.setTop (mkF m 33 #[.val (.ref a0), .val (.int p1), .val (.int p2), .val (.ref uA), .val .null, .val .null, .val (.ref a6), .val (.long q7), .second, .val .null, .val .null] [(.ref uA), (.ref uA)])) _
    refine o_acmp X4 hx hby d1_33 36 (same := true) rfl rfl (by simp) (by decide) (by decide) ?_
    refine o_iconst X4 hx hby d1_36 37 rfl (v := (1 : Int32)) rfl ?_
    refine o_goto X4 hx hby d1_37 41 rfl ?_
    refine o_aload X4 hx hby d1_41 43 rfl rfl rfl ?_
    refine o_ifnonnullN X4 hx hby d1_43 46 rfl ?_
    refine o_iconst X4 hx hby d1_46 47 rfl (v := (1 : Int32)) rfl ?_
    refine o_goto X4 hx hby d1_47 51 rfl ?_
    refine o_icmpN X4 hx hby d1_51 54 rfl (teq (show (1 : Int32) = (1 : Int32) by decide)).2 ?_
    refine o_aload X4 hx hby d1_54 56 rfl rfl rfl ?_
    refine o_ifnonnullN X4 hx hby d1_56 59 rfl ?_
    refine o_iconst X4 hx hby d1_59 60 rfl (v := (1 : Int32)) rfl ?_
    refine o_goto X4 hx hby d1_60 64 rfl ?_
    refine o_aload X4 hx hby d1_64 66 rfl rfl rfl ?_
    refine o_ifnonnullN X4 hx hby d1_66 69 rfl ?_
    refine o_iconst X4 hx hby d1_69 70 rfl (v := (1 : Int32)) rfl ?_
    refine o_goto X4 hx hby d1_70 74 rfl ?_
    refine o_icmpY X4 hx hby d1_74 98 rfl (teq (show (1 : Int32) = (1 : Int32) by decide)).1 ?_
    refine o_aload X4 hx hby d1_98 100 rfl rfl rfl ?_
    refine o_ifnullN X4 hx hby d1_100 103 rfl ?_
    refine o_iloadN X4 hx hby d1_103 104 rfl rfl ?_
    refine o_ifN X4 hx hby d1_104 107 rfl (teq (hp2)).2 ?_
    refine o_aloadN X4 hx hby d1_107 108 rfl rfl rfl ?_
    refine st5 _ ?_
    show Steps p.tables e below (T5.setTop (mkF m 111 #[.val (.ref a0), .val (.int p1), .val (.int p2), .val (.ref uA), .val .null, .val .null, .val (.ref a6), .val (.long q7), .second, .val .null, .val .null] [(.ref uA), (.ref uA)])) _
    refine o_acmp X5 hx hby d1_111 114 (same := true) rfl rfl (by simp) (by decide) (by decide) ?_
    refine o_lload X5 hx hby d1_114 116 rfl rfl ?_
    refine o_lconst X5 hx hby d1_116 117 rfl (v := (0 : Int64)) rfl ?_
    refine o_lcmp X5 hx hby d1_117 118 rfl ?_
    exact k
  have go6 : Go p e below A0 (T5.setTop (mkF m 126 #[.val (.ref a0), .val (.int p1), .val (.int p2), .val (.ref uA), .val .null, .val .null, .val (.ref a6), .val (.long q7), .second, .val .null, .val .null] [])) := by
    by_cases hc118_6 : q7 = (0 : Int64)
    · have go4 : Go p e below A0 (T5.setTop (mkF m 126 #[.val (.ref a0), .val (.int p1), .val (.int p2), .val (.ref uA), .val .null, .val .null, .val (.ref a6), .val (.long q7), .second, .val .null, .val .null] [])) := by
        intro t k
        refine go3 t ?_
        refine o_ifY X5 hx hby d1_118 126 rfl (teq ((lw_eq q7 (0 : Int64)).mpr hc118_6)).1 ?_
        exact k
      exact go4
    · have go5 : Go p e below A0 (T5.setTop (mkF m 126 #[.val (.ref a0), .val (.int p1), .val (.int p2), .val (.ref uA), .val .null, .val .null, .val (.ref a6), .val (.long q7), .second, .val .null, .val .null] [])) := by
        intro t k
        refine go3 t ?_
        refine o_ifN X5 hx hby d1_118 121 rfl (feq (fun q => hc118_6 ((lw_eq q7 (0 : Int64)).mp q))).1 ?_
        refine o_aload X5 hx hby d1_121 123 rfl rfl rfl ?_
        refine o_ifnullN X5 hx hby d1_123 126 rfl ?_
        exact k
      exact go5
  have go7 : Go p e below A0 (T5.setTop (mkF m 231 #[.val (.ref a0), .val (.int p1), .val (.int p2), .val (.ref uA), .val .null, .val .null, .val (.ref a6), .val (.long q7), .second, .val .null, .val .null] [(.int p1), (.ref a0)])) := by
    intro t k
    refine go6 t ?_
    refine o_lload X5 hx hby d1_126 128 rfl rfl ?_
    refine o_lconst X5 hx hby d1_128 129 rfl (v := (0 : Int64)) rfl ?_
    refine o_lcmp X5 hx hby d1_129 130 rfl ?_
    refine o_ifY X5 hx hby d1_130 165 rfl (flt (fun q => (hq) ((lw_lt q7 (0 : Int64)).mp q))).2.1 ?_
    refine o_aload X5 hx hby d1_165 167 rfl rfl rfl ?_
    refine o_ifnullY X5 hx hby d1_167 181 rfl ?_
    refine o_aload X5 hx hby d1_181 183 rfl rfl rfl ?_
    refine o_ifnullY X5 hx hby d1_183 229 rfl ?_
    refine o_aloadN X5 hx hby d1_229 230 rfl rfl rfl ?_
    refine o_iloadN X5 hx hby d1_230 231 rfl rfl ?_
    exact k
  obtain ⟨T7, h7, X7, e7, W7, st7⟩ := putF X5 hx hZ hown (host := "") (Or.inl (hw _ (List.mem_of_getElem? (i := 31) rfl))) Via.refl e5 f2 f1 (Or.inr ⟨(hw _ (List.mem_of_getElem? (i := 32) rfl)), rfl, hnm⟩) (hw _ (List.mem_of_getElem? (i := 5) rfl)) (ty := .int) (by decide) rfl rfl (g := (mkF m 231 #[.val (.ref a0), .val (.int p1), .val (.int p2), .val (.ref uA), .val .null, .val .null, .val (.ref a6), .val (.long q7), .second, .val .null, .val .null] [(.int p1), (.ref a0)])) rfl rfl (hb hby d1_231)
  have f12 : Exa Z h7 a0 "org/shardwright/model/ShardCopy" := f1.wr W7
  have f13 : Fld Z h7 a0 "org/shardwright/model/ShardCopy" "primary" "Z" (.int (0 : Int32)) := f3.other W7 (Or.inr (slot_ne (Or.inr (hw _ (List.mem_of_getElem? (i := 34) rfl))) (Or.inr (hw _ (List.mem_of_getElem? (i := 32) rfl))) (by decide) (t := .boolean) (t' := .int) (by decide) (by decide)))
  have f14 : Fld Z h7 a0 "org/shardwright/model/ShardCopy" "state" "Lorg/shardwright/model/ShardCopy$State;" .null := f4.other W7 (Or.inr (slot_ne (Or.inr (hw _ (List.mem_of_getElem? (i := 36) rfl))) (Or.inr (hw _ (List.mem_of_getElem? (i := 32) rfl))) (by decide) (t := (.object "org/shardwright/model/ShardCopy$State")) (t' := .int) (by decide) (by decide)))
  have f15 : Fld Z h7 a0 "org/shardwright/model/ShardCopy" "nodeId" "Ljava/lang/String;" .null := f5.other W7 (Or.inr (slot_ne (Or.inr (hw _ (List.mem_of_getElem? (i := 38) rfl))) (Or.inr (hw _ (List.mem_of_getElem? (i := 32) rfl))) (by decide) (t := (.object "java/lang/String")) (t' := .int) (by decide) (by decide)))
  have f16 : Fld Z h7 a0 "org/shardwright/model/ShardCopy" "allocationId" "Ljava/lang/String;" .null := f6.other W7 (Or.inr (slot_ne (Or.inr (hw _ (List.mem_of_getElem? (i := 40) rfl))) (Or.inr (hw _ (List.mem_of_getElem? (i := 32) rfl))) (by decide) (t := (.object "java/lang/String")) (t' := .int) (by decide) (by decide)))
  have f17 : Fld Z h7 a0 "org/shardwright/model/ShardCopy" "lastNodeId" "Ljava/lang/String;" .null := f7.other W7 (Or.inr (slot_ne (Or.inr (hw _ (List.mem_of_getElem? (i := 42) rfl))) (Or.inr (hw _ (List.mem_of_getElem? (i := 32) rfl))) (by decide) (t := (.object "java/lang/String")) (t' := .int) (by decide) (by decide)))
  have f18 : Fld Z h7 a0 "org/shardwright/model/ShardCopy" "unassignedAtMillis" "J" (.long (0 : Int64)) := f8.other W7 (Or.inr (slot_ne (Or.inr (hw _ (List.mem_of_getElem? (i := 44) rfl))) (Or.inr (hw _ (List.mem_of_getElem? (i := 32) rfl))) (by decide) (t := .long) (t' := .int) (by decide) (by decide)))
  have f19 : Fld Z h7 a0 "org/shardwright/model/ShardCopy" "replaces" "Ljava/lang/String;" .null := f9.other W7 (Or.inr (slot_ne (Or.inr (hw _ (List.mem_of_getElem? (i := 46) rfl))) (Or.inr (hw _ (List.mem_of_getElem? (i := 32) rfl))) (by decide) (t := (.object "java/lang/String")) (t' := .int) (by decide) (by decide)))
  have f20 : Fld Z h7 a0 "org/shardwright/model/ShardCopy" "handsOverTo" "Ljava/lang/String;" .null := f10.other W7 (Or.inr (slot_ne (Or.inr (hw _ (List.mem_of_getElem? (i := 48) rfl))) (Or.inr (hw _ (List.mem_of_getElem? (i := 32) rfl))) (by decide) (t := (.object "java/lang/String")) (t' := .int) (by decide) (by decide)))
  have f21 : Old Z n0 h7 := f11.wr W7 r1
  have Zp7 : n0 ≤ h7.size := Nat.le_trans Zp2 (Keep.of_wr W7).1
  have sk7 := Nat.le_trans sk2 (Keep.of_wr W7).1
  have K7 : Keep h0 h7 [a0] := K2.wr W7 (Or.inl (List.mem_of_getElem? (i := 0) rfl))
  have N7 := Fr.snoc X7 N3 r1
  have f22 : Fld Z h7 a0 "org/shardwright/model/ShardCopy" "shard" "I" (.int p1) := f2.same W7
  have go8 : Go p e below A0 (T7.setTop (mkF m 236 #[.val (.ref a0), .val (.int p1), .val (.int p2), .val (.ref uA), .val .null, .val .null, .val (.ref a6), .val (.long q7), .second, .val .null, .val .null] [(.int p2), (.ref a0)])) := by
    intro t k
    refine go7 t ?_
    refine st7 _ ?_
    show Steps p.tables e below (T7.setTop (mkF m 234 #[.val (.ref a0), .val (.int p1), .val (.int p2), .val (.ref uA), .val .null, .val .null, .val (.ref a6), .val (.long q7), .second, .val .null, .val .null] [])) _
    refine o_aloadN X7 hx hby d1_234 235 rfl rfl rfl ?_
    refine o_iloadN X7 hx hby d1_235 236 rfl rfl ?_
    exact k
  obtain ⟨T8, h8, X8, e8, W8, st8⟩ := putFN X7 hx hZ hown (hw _ (List.mem_of_getElem? (i := 33) rfl)) Via.refl e7 f13 f12 (Or.inr ⟨(hw _ (List.mem_of_getElem? (i := 34) rfl)), rfl, hnm⟩) (hw _ (List.mem_of_getElem? (i := 5) rfl)) (ty := .boolean) (v' := (.int p2)) (by decide) (o_nf hz2).1 (o_nf hz2).2 (g := (mkF m 236 #[.val (.ref a0), .val (.int p1), .val (.int p2), .val (.ref uA), .val .null, .val .null, .val (.ref a6), .val (.long q7), .second, .val .null, .val .null] [(.int p2), (.ref a0)])) rfl rfl (hb hby d1_236)
  have f23 : Exa Z h8 a0 "org/shardwright/model/ShardCopy" := f12.wr W8
  have f24 : Fld Z h8 a0 "org/shardwright/model/ShardCopy" "state" "Lorg/shardwright/model/ShardCopy$State;" .null := f14.other W8 (Or.inr (slot_ne (Or.inr (hw _ (List.mem_of_getElem? (i := 36) rfl))) (Or.inr (hw _ (List.mem_of_getElem? (i := 34) rfl))) (by decide) (t := (.object "org/shardwright/model/ShardCopy$State")) (t' := .boolean) (by decide) (by decide)))
  have f25 : Fld Z h8 a0 "org/shardwright/model/ShardCopy" "nodeId" "Ljava/lang/String;" .null := f15.other W8 (Or.inr (slot_ne (Or.inr (hw _ (List.mem_of_getElem? (i := 38) rfl))) (Or.inr (hw _ (List.mem_of_getElem? (i := 34) rfl))) (by decide) (t := (.object "java/lang/String")) (t' := .boolean) (by decide) (by decide)))
  have f26 : Fld Z h8 a0 "org/shardwright/model/ShardCopy" "allocationId" "Ljava/lang/String;" .null := f16.other W8 (Or.inr (slot_ne (Or.inr (hw _ (List.mem_of_getElem? (i := 40) rfl))) (Or.inr (hw _ (List.mem_of_getElem? (i := 34) rfl))) (by decide) (t := (.object "java/lang/String")) (t' := .boolean) (by decide) (by decide)))
  have f27 : Fld Z h8 a0 "org/shardwright/model/ShardCopy" "lastNodeId" "Ljava/lang/String;" .null := f17.other W8 (Or.inr (slot_ne (Or.inr (hw _ (List.mem_of_getElem? (i := 42) rfl))) (Or.inr (hw _ (List.mem_of_getElem? (i := 34) rfl))) (by decide) (t := (.object "java/lang/String")) (t' := .boolean) (by decide) (by decide)))
  have f28 : Fld Z h8 a0 "org/shardwright/model/ShardCopy" "unassignedAtMillis" "J" (.long (0 : Int64)) := f18.other W8 (Or.inr (slot_ne (Or.inr (hw _ (List.mem_of_getElem? (i := 44) rfl))) (Or.inr (hw _ (List.mem_of_getElem? (i := 34) rfl))) (by decide) (t := .long) (t' := .boolean) (by decide) (by decide)))
  have f29 : Fld Z h8 a0 "org/shardwright/model/ShardCopy" "replaces" "Ljava/lang/String;" .null := f19.other W8 (Or.inr (slot_ne (Or.inr (hw _ (List.mem_of_getElem? (i := 46) rfl))) (Or.inr (hw _ (List.mem_of_getElem? (i := 34) rfl))) (by decide) (t := (.object "java/lang/String")) (t' := .boolean) (by decide) (by decide)))
  have f30 : Fld Z h8 a0 "org/shardwright/model/ShardCopy" "handsOverTo" "Ljava/lang/String;" .null := f20.other W8 (Or.inr (slot_ne (Or.inr (hw _ (List.mem_of_getElem? (i := 48) rfl))) (Or.inr (hw _ (List.mem_of_getElem? (i := 34) rfl))) (by decide) (t := (.object "java/lang/String")) (t' := .boolean) (by decide) (by decide)))
  have f31 : Old Z n0 h8 := f21.wr W8 r1
  have f32 : Fld Z h8 a0 "org/shardwright/model/ShardCopy" "shard" "I" (.int p1) := f22.other W8 (Or.inr (slot_ne (Or.inr (hw _ (List.mem_of_getElem? (i := 32) rfl))) (Or.inr (hw _ (List.mem_of_getElem? (i := 34) rfl))) (by decide) (t := .int) (t' := .boolean) (by decide) (by decide)))
  have Zp8 : n0 ≤ h8.size := Nat.le_trans Zp7 (Keep.of_wr W8).1
  have sk8 := Nat.le_trans sk7 (Keep.of_wr W8).1
  have K8 : Keep h0 h8 [a0] := K7.wr W8 (Or.inl (List.mem_of_getElem? (i := 0) rfl))
  have N8 := Fr.snoc X8 N7 r1
  have f33 : Fld Z h8 a0 "org/shardwright/model/ShardCopy" "primary" "Z" (.int p2) := f13.same W8
  have go9 : Go p e below A0 (T8.setTop (mkF m 241 #[.val (.ref a0), .val (.int p1), .val (.int p2), .val (.ref uA), .val .null, .val .null, .val (.ref a6), .val (.long q7), .second, .val .null, .val .null] [(.ref uA), (.ref a0)])) := by
    intro t k
    refine go8 t ?_
    refine st8 _ ?_
    show Steps p.tables e below (T8.setTop (mkF m 239 #[.val (.ref a0), .val (.int p1), .val (.int p2), .val (.ref uA), .val .null, .val .null, .val (.ref a6), .val (.long q7), .second, .val .null, .val .null] [])) _
    refine o_aloadN X8 hx hby d1_239 240 rfl rfl rfl ?_
    refine o_aloadN X8 hx hby d1_240 241 rfl rfl rfl ?_
    exact k
  obtain ⟨T9, h9, X9, e9, W9, st9⟩ := putF X8 hx hZ hown (host := "") (Or.inl (hw _ (List.mem_of_getElem? (i := 35) rfl))) Via.refl e8 f24 f23 (Or.inr ⟨(hw _ (List.mem_of_getElem? (i := 36) rfl)), rfl, hnm⟩) (hw _ (List.mem_of_getElem? (i := 5) rfl)) (ty := (.object "org/shardwright/model/ShardCopy$State")) (by decide) rfl rfl (g := (mkF m 241 #[.val (.ref a0), .val (.int p1), .val (.int p2), .val (.ref uA), .val .null, .val .null, .val (.ref a6), .val (.long q7), .second, .val .null, .val .null] [(.ref uA), (.ref a0)])) rfl rfl (hb hby d1_241)
  have f34 : Exa Z h9 a0 "org/shardwright/model/ShardCopy" := f23.wr W9
  have f35 : Fld Z h9 a0 "org/shardwright/model/ShardCopy" "nodeId" "Ljava/lang/String;" .null := f25.other W9 (Or.inr (slot_ne (Or.inr (hw _ (List.mem_of_getElem? (i := 38) rfl))) (Or.inr (hw _ (List.mem_of_getElem? (i := 36) rfl))) (by decide) (t := (.object "java/lang/String")) (t' := (.object "org/shardwright/model/ShardCopy$State")) (by decide) (by decide)))
  have f36 : Fld Z h9 a0 "org/shardwright/model/ShardCopy" "allocationId" "Ljava/lang/String;" .null := f26.other W9 (Or.inr (slot_ne (Or.inr (hw _ (List.mem_of_getElem? (i := 40) rfl))) (Or.inr (hw _ (List.mem_of_getElem? (i := 36) rfl))) (by decide) (t := (.object "java/lang/String")) (t' := (.object "org/shardwright/model/ShardCopy$State")) (by decide) (by decide)))
  have f37 : Fld Z h9 a0 "org/shardwright/model/ShardCopy" "lastNodeId" "Ljava/lang/String;" .null := f27.other W9 (Or.inr (slot_ne (Or.inr (hw _ (List.mem_of_getElem? (i := 42) rfl))) (Or.inr (hw _ (List.mem_of_getElem? (i := 36) rfl))) (by decide) (t := (.object "java/lang/String")) (t' := (.object "org/shardwright/model/ShardCopy$State")) (by decide) (by decide)))
  have f38 : Fld Z h9 a0 "org/shardwright/model/ShardCopy" "unassignedAtMillis" "J" (.long (0 : Int64)) := f28.other W9 (Or.inr (slot_ne (Or.inr (hw _ (List.mem_of_getElem? (i := 44) rfl))) (Or.inr (hw _ (List.mem_of_getElem? (i := 36) rfl))) (by decide) (t := .long) (t' := (.object "org/shardwright/model/ShardCopy$State")) (by decide) (by decide)))
  have f39 : Fld Z h9 a0 "org/shardwright/model/ShardCopy" "replaces" "Ljava/lang/String;" .null := f29.other W9 (Or.inr (slot_ne (Or.inr (hw _ (List.mem_of_getElem? (i := 46) rfl))) (Or.inr (hw _ (List.mem_of_getElem? (i := 36) rfl))) (by decide) (t := (.object "java/lang/String")) (t' := (.object "org/shardwright/model/ShardCopy$State")) (by decide) (by decide)))
  have f40 : Fld Z h9 a0 "org/shardwright/model/ShardCopy" "handsOverTo" "Ljava/lang/String;" .null := f30.other W9 (Or.inr (slot_ne (Or.inr (hw _ (List.mem_of_getElem? (i := 48) rfl))) (Or.inr (hw _ (List.mem_of_getElem? (i := 36) rfl))) (by decide) (t := (.object "java/lang/String")) (t' := (.object "org/shardwright/model/ShardCopy$State")) (by decide) (by decide)))
  have f41 : Old Z n0 h9 := f31.wr W9 r1
  have f42 : Fld Z h9 a0 "org/shardwright/model/ShardCopy" "shard" "I" (.int p1) := f32.other W9 (Or.inr (slot_ne (Or.inr (hw _ (List.mem_of_getElem? (i := 32) rfl))) (Or.inr (hw _ (List.mem_of_getElem? (i := 36) rfl))) (by decide) (t := .int) (t' := (.object "org/shardwright/model/ShardCopy$State")) (by decide) (by decide)))
  have f43 : Fld Z h9 a0 "org/shardwright/model/ShardCopy" "primary" "Z" (.int p2) := f33.other W9 (Or.inr (slot_ne (Or.inr (hw _ (List.mem_of_getElem? (i := 34) rfl))) (Or.inr (hw _ (List.mem_of_getElem? (i := 36) rfl))) (by decide) (t := .boolean) (t' := (.object "org/shardwright/model/ShardCopy$State")) (by decide) (by decide)))
  have Zp9 : n0 ≤ h9.size := Nat.le_trans Zp8 (Keep.of_wr W9).1
  have sk9 := Nat.le_trans sk8 (Keep.of_wr W9).1
  have K9 : Keep h0 h9 [a0] := K8.wr W9 (Or.inl (List.mem_of_getElem? (i := 0) rfl))
  have N9 := Fr.snoc X9 N8 r1
  have f44 : Fld Z h9 a0 "org/shardwright/model/ShardCopy" "state" "Lorg/shardwright/model/ShardCopy$State;" (.ref uA) := f24.same W9
  have go10 : Go p e below A0 (T9.setTop (mkF m 247 #[.val (.ref a0), .val (.int p1), .val (.int p2), .val (.ref uA), .val .null, .val .null, .val (.ref a6), .val (.long q7), .second, .val .null, .val .null] [.null, (.ref a0)])) := by
    intro t k
    refine go9 t ?_
    refine st9 _ ?_
    show Steps p.tables e below (T9.setTop (mkF m 244 #[.val (.ref a0), .val (.int p1), .val (.int p2), .val (.ref uA), .val .null, .val .null, .val (.ref a6), .val (.long q7), .second, .val .null, .val .null] [])) _
    refine o_aloadN X9 hx hby d1_244 245 rfl rfl rfl ?_
    refine o_aload X9 hx hby d1_245 247 rfl rfl rfl ?_
    exact k
  obtain ⟨T10, h10, X10, e10, W10, st10⟩ := putF X9 hx hZ hown (host := "") (Or.inl (hw _ (List.mem_of_getElem? (i := 37) rfl))) Via.refl e9 f35 f34 (Or.inr ⟨(hw _ (List.mem_of_getElem? (i := 38) rfl)), rfl, hnm⟩) (hw _ (List.mem_of_getElem? (i := 5) rfl)) (ty := (.object "java/lang/String")) (by decide) rfl rfl (g := (mkF m 247 #[.val (.ref a0), .val (.int p1), .val (.int p2), .val (.ref uA), .val .null, .val .null, .val (.ref a6), .val (.long q7), .second, .val .null, .val .null] [.null, (.ref a0)])) rfl rfl (hb hby d1_247)
  have f45 : Exa Z h10 a0 "org/shardwright/model/ShardCopy" := f34.wr W10
  have f46 : Fld Z h10 a0 "org/shardwright/model/ShardCopy" "allocationId" "Ljava/lang/String;" .null := f36.other W10 (Or.inr (slot_ne (Or.inr (hw _ (List.mem_of_getElem? (i := 40) rfl))) (Or.inr (hw _ (List.mem_of_getElem? (i := 38) rfl))) (by decide) (t := (.object "java/lang/String")) (t' := (.object "java/lang/String")) (by decide) (by decide)))
  have f47 : Fld Z h10 a0 "org/shardwright/model/ShardCopy" "lastNodeId" "Ljava/lang/String;" .null := f37.other W10 (Or.inr (slot_ne (Or.inr (hw _ (List.mem_of_getElem? (i := 42) rfl))) (Or.inr (hw _ (List.mem_of_getElem? (i := 38) rfl))) (by decide) (t := (.object "java/lang/String")) (t' := (.object "java/lang/String")) (by decide) (by decide)))
  have f48 : Fld Z h10 a0 "org/shardwright/model/ShardCopy" "unassignedAtMillis" "J" (.long (0 : Int64)) := f38.other W10 (Or.inr (slot_ne (Or.inr (hw _ (List.mem_of_getElem? (i := 44) rfl))) (Or.inr (hw _ (List.mem_of_getElem? (i := 38) rfl))) (by decide) (t := .long) (t' := (.object "java/lang/String")) (by decide) (by decide)))
  have f49 : Fld Z h10 a0 "org/shardwright/model/ShardCopy" "replaces" "Ljava/lang/String;" .null := f39.other W10 (Or.inr (slot_ne (Or.inr (hw _ (List.mem_of_getElem? (i := 46) rfl))) (Or.inr (hw _ (List.mem_of_getElem? (i := 38) rfl))) (by decide) (t := (.object "java/lang/String")) (t' := (.object "java/lang/String")) (by decide) (by decide)))
  have f50 : Fld Z h10 a0 "org/shardwright/model/ShardCopy" "handsOverTo" "Ljava/lang/String;" .null := f40.other W10 (Or.inr (slot_ne (Or.inr (hw _ (List.mem_of_getElem? (i := 48) rfl))) (Or.inr (hw _ (List.mem_of_getElem? (i := 38) rfl))) (by decide) (t := (.object "java/lang/String")) (t' := (.object "java/lang/String")) (by decide) (by decide)))
  have f51 : Old Z n0 h10 := f41.wr W10 r1
  have f52 : Fld Z h10 a0 "org/shardwright/model/ShardCopy" "shard" "I" (.int p1) := f42.other W10 (Or.inr (slot_ne (Or.inr (hw _ (List.mem_of_getElem? (i := 32) rfl))) (Or.inr (hw _ (List.mem_of_getElem? (i := 38) rfl))) (by decide) (t := .int) (t' := (.object "java/lang/String")) (by decide) (by decide)))
  have f53 : Fld Z h10 a0 "org/shardwright/model/ShardCopy" "primary" "Z" (.int p2) := f43.other W10 (Or.inr (slot_ne (Or.inr (hw _ (List.mem_of_getElem? (i := 34) rfl))) (Or.inr (hw _ (List.mem_of_getElem? (i := 38) rfl))) (by decide) (t := .boolean) (t' := (.object "java/lang/String")) (by decide) (by decide)))
  have f54 : Fld Z h10 a0 "org/shardwright/model/ShardCopy" "state" "Lorg/shardwright/model/ShardCopy$State;" (.ref uA) := f44.other W10 (Or.inr (slot_ne (Or.inr (hw _ (List.mem_of_getElem? (i := 36) rfl))) (Or.inr (hw _ (List.mem_of_getElem? (i := 38) rfl))) (by decide) (t := (.object "org/shardwright/model/ShardCopy$State")) (t' := (.object "java/lang/String")) (by decide) (by decide)))
  have Zp10 : n0 ≤ h10.size := Nat.le_trans Zp9 (Keep.of_wr W10).1
  have sk10 := Nat.le_trans sk9 (Keep.of_wr W10).1
  have K10 : Keep h0 h10 [a0] := K9.wr W10 (Or.inl (List.mem_of_getElem? (i := 0) rfl))
  have N10 := Fr.snoc X10 N9 r1
  have f55 : Fld Z h10 a0 "org/shardwright/model/ShardCopy" "nodeId" "Ljava/lang/String;" .null := f35.same W10
  have go11 : Go p e below A0 (T10.setTop (mkF m 253 #[.val (.ref a0), .val (.int p1), .val (.int p2), .val (.ref uA), .val .null, .val .null, .val (.ref a6), .val (.long q7), .second, .val .null, .val .null] [.null, (.ref a0)])) := by
    intro t k
    refine go10 t ?_
    refine st10 _ ?_
    show Steps p.tables e below (T10.setTop (mkF m 250 #[.val (.ref a0), .val (.int p1), .val (.int p2), .val (.ref uA), .val .null, .val .null, .val (.ref a6), .val (.long q7), .second, .val .null, .val .null] [])) _
    refine o_aloadN X10 hx hby d1_250 251 rfl rfl rfl ?_
    refine o_aload X10 hx hby d1_251 253 rfl rfl rfl ?_
    exact k
  obtain ⟨T11, h11, X11, e11, W11, st11⟩ := putF X10 hx hZ hown (host := "") (Or.inl (hw _ (List.mem_of_getElem? (i := 39) rfl))) Via.refl e10 f46 f45 (Or.inr ⟨(hw _ (List.mem_of_getElem? (i := 40) rfl)), rfl, hnm⟩) (hw _ (List.mem_of_getElem? (i := 5) rfl)) (ty := (.object "java/lang/String")) (by decide) rfl rfl (g := (mkF m 253 #[.val (.ref a0), .val (.int p1), .val (.int p2), .val (.ref uA), .val .null, .val .null, .val (.ref a6), .val (.long q7), .second, .val .null, .val .null] [.null, (.ref a0)])) rfl rfl (hb hby d1_253)
  have f56 : Exa Z h11 a0 "org/shardwright/model/ShardCopy" := f45.wr W11
  have f57 : Fld Z h11 a0 "org/shardwright/model/ShardCopy" "lastNodeId" "Ljava/lang/String;" .null := f47.other W11 (Or.inr (slot_ne (Or.inr (hw _ (List.mem_of_getElem? (i := 42) rfl))) (Or.inr (hw _ (List.mem_of_getElem? (i := 40) rfl))) (by decide) (t := (.object "java/lang/String")) (t' := (.object "java/lang/String")) (by decide) (by decide)))
  have f58 : Fld Z h11 a0 "org/shardwright/model/ShardCopy" "unassignedAtMillis" "J" (.long (0 : Int64)) := f48.other W11 (Or.inr (slot_ne (Or.inr (hw _ (List.mem_of_getElem? (i := 44) rfl))) (Or.inr (hw _ (List.mem_of_getElem? (i := 40) rfl))) (by decide) (t := .long) (t' := (.object "java/lang/String")) (by decide) (by decide)))
  have f59 : Fld Z h11 a0 "org/shardwright/model/ShardCopy" "replaces" "Ljava/lang/String;" .null := f49.other W11 (Or.inr (slot_ne (Or.inr (hw _ (List.mem_of_getElem? (i := 46) rfl))) (Or.inr (hw _ (List.mem_of_getElem? (i := 40) rfl))) (by decide) (t := (.object "java/lang/String")) (t' := (.object "java/lang/String")) (by decide) (by decide)))
  have f60 : Fld Z h11 a0 "org/shardwright/model/ShardCopy" "handsOverTo" "Ljava/lang/String;" .null := f50.other W11 (Or.inr (slot_ne (Or.inr (hw _ (List.mem_of_getElem? (i := 48) rfl))) (Or.inr (hw _ (List.mem_of_getElem? (i := 40) rfl))) (by decide) (t := (.object "java/lang/String")) (t' := (.object "java/lang/String")) (by decide) (by decide)))
  have f61 : Old Z n0 h11 := f51.wr W11 r1
  have f62 : Fld Z h11 a0 "org/shardwright/model/ShardCopy" "shard" "I" (.int p1) := f52.other W11 (Or.inr (slot_ne (Or.inr (hw _ (List.mem_of_getElem? (i := 32) rfl))) (Or.inr (hw _ (List.mem_of_getElem? (i := 40) rfl))) (by decide) (t := .int) (t' := (.object "java/lang/String")) (by decide) (by decide)))
  have f63 : Fld Z h11 a0 "org/shardwright/model/ShardCopy" "primary" "Z" (.int p2) := f53.other W11 (Or.inr (slot_ne (Or.inr (hw _ (List.mem_of_getElem? (i := 34) rfl))) (Or.inr (hw _ (List.mem_of_getElem? (i := 40) rfl))) (by decide) (t := .boolean) (t' := (.object "java/lang/String")) (by decide) (by decide)))
  have f64 : Fld Z h11 a0 "org/shardwright/model/ShardCopy" "state" "Lorg/shardwright/model/ShardCopy$State;" (.ref uA) := f54.other W11 (Or.inr (slot_ne (Or.inr (hw _ (List.mem_of_getElem? (i := 36) rfl))) (Or.inr (hw _ (List.mem_of_getElem? (i := 40) rfl))) (by decide) (t := (.object "org/shardwright/model/ShardCopy$State")) (t' := (.object "java/lang/String")) (by decide) (by decide)))
  have f65 : Fld Z h11 a0 "org/shardwright/model/ShardCopy" "nodeId" "Ljava/lang/String;" .null := f55.other W11 (Or.inr (slot_ne (Or.inr (hw _ (List.mem_of_getElem? (i := 38) rfl))) (Or.inr (hw _ (List.mem_of_getElem? (i := 40) rfl))) (by decide) (t := (.object "java/lang/String")) (t' := (.object "java/lang/String")) (by decide) (by decide)))
  have Zp11 : n0 ≤ h11.size := Nat.le_trans Zp10 (Keep.of_wr W11).1
  have sk11 := Nat.le_trans sk10 (Keep.of_wr W11).1
  have K11 : Keep h0 h11 [a0] := K10.wr W11 (Or.inl (List.mem_of_getElem? (i := 0) rfl))
  have N11 := Fr.snoc X11 N10 r1
  have f66 : Fld Z h11 a0 "org/shardwright/model/ShardCopy" "allocationId" "Ljava/lang/String;" .null := f46.same W11
  have go12 : Go p e below A0 (T11.setTop (mkF m 259 #[.val (.ref a0), .val (.int p1), .val (.int p2), .val (.ref uA), .val .null, .val .null, .val (.ref a6), .val (.long q7), .second, .val .null, .val .null] [(.ref a6), (.ref a0)])) := by
    intro t k
    refine go11 t ?_
    refine st11 _ ?_
    show Steps p.tables e below (T11.setTop (mkF m 256 #[.val (.ref a0), .val (.int p1), .val (.int p2), .val (.ref uA), .val .null, .val .null, .val (.ref a6), .val (.long q7), .second, .val .null, .val .null] [])) _
    refine o_aloadN X11 hx hby d1_256 257 rfl rfl rfl ?_
    refine o_aload X11 hx hby d1_257 259 rfl rfl rfl ?_
    exact k
  obtain ⟨T12, h12, X12, e12, W12, st12⟩ := putF X11 hx hZ hown (host := "") (Or.inl (hw _ (List.mem_of_getElem? (i := 41) rfl))) Via.refl e11 f57 f56 (Or.inr ⟨(hw _ (List.mem_of_getElem? (i := 42) rfl)), rfl, hnm⟩) (hw _ (List.mem_of_getElem? (i := 5) rfl)) (ty := (.object "java/lang/String")) (by decide) rfl rfl (g := (mkF m 259 #[.val (.ref a0), .val (.int p1), .val (.int p2), .val (.ref uA), .val .null, .val .null, .val (.ref a6), .val (.long q7), .second, .val .null, .val .null] [(.ref a6), (.ref a0)])) rfl rfl (hb hby d1_259)
  have f67 : Exa Z h12 a0 "org/shardwright/model/ShardCopy" := f56.wr W12
  have f68 : Fld Z h12 a0 "org/shardwright/model/ShardCopy" "unassignedAtMillis" "J" (.long (0 : Int64)) := f58.other W12 (Or.inr (slot_ne (Or.inr (hw _ (List.mem_of_getElem? (i := 44) rfl))) (Or.inr (hw _ (List.mem_of_getElem? (i := 42) rfl))) (by decide) (t := .long) (t' := (.object "java/lang/String")) (by decide) (by decide)))
  have f69 : Fld Z h12 a0 "org/shardwright/model/ShardCopy" "replaces" "Ljava/lang/String;" .null := f59.other W12 (Or.inr (slot_ne (Or.inr (hw _ (List.mem_of_getElem? (i := 46) rfl))) (Or.inr (hw _ (List.mem_of_getElem? (i := 42) rfl))) (by decide) (t := (.object "java/lang/String")) (t' := (.object "java/lang/String")) (by decide) (by decide)))
  have f70 : Fld Z h12 a0 "org/shardwright/model/ShardCopy" "handsOverTo" "Ljava/lang/String;" .null := f60.other W12 (Or.inr (slot_ne (Or.inr (hw _ (List.mem_of_getElem? (i := 48) rfl))) (Or.inr (hw _ (List.mem_of_getElem? (i := 42) rfl))) (by decide) (t := (.object "java/lang/String")) (t' := (.object "java/lang/String")) (by decide) (by decide)))
  have f71 : Old Z n0 h12 := f61.wr W12 r1
  have f72 : Fld Z h12 a0 "org/shardwright/model/ShardCopy" "shard" "I" (.int p1) := f62.other W12 (Or.inr (slot_ne (Or.inr (hw _ (List.mem_of_getElem? (i := 32) rfl))) (Or.inr (hw _ (List.mem_of_getElem? (i := 42) rfl))) (by decide) (t := .int) (t' := (.object "java/lang/String")) (by decide) (by decide)))
  have f73 : Fld Z h12 a0 "org/shardwright/model/ShardCopy" "primary" "Z" (.int p2) := f63.other W12 (Or.inr (slot_ne (Or.inr (hw _ (List.mem_of_getElem? (i := 34) rfl))) (Or.inr (hw _ (List.mem_of_getElem? (i := 42) rfl))) (by decide) (t := .boolean) (t' := (.object "java/lang/String")) (by decide) (by decide)))
  have f74 : Fld Z h12 a0 "org/shardwright/model/ShardCopy" "state" "Lorg/shardwright/model/ShardCopy$State;" (.ref uA) := f64.other W12 (Or.inr (slot_ne (Or.inr (hw _ (List.mem_of_getElem? (i := 36) rfl))) (Or.inr (hw _ (List.mem_of_getElem? (i := 42) rfl))) (by decide) (t := (.object "org/shardwright/model/ShardCopy$State")) (t' := (.object "java/lang/String")) (by decide) (by decide)))
  have f75 : Fld Z h12 a0 "org/shardwright/model/ShardCopy" "nodeId" "Ljava/lang/String;" .null := f65.other W12 (Or.inr (slot_ne (Or.inr (hw _ (List.mem_of_getElem? (i := 38) rfl))) (Or.inr (hw _ (List.mem_of_getElem? (i := 42) rfl))) (by decide) (t := (.object "java/lang/String")) (t' := (.object "java/lang/String")) (by decide) (by decide)))
  have f76 : Fld Z h12 a0 "org/shardwright/model/ShardCopy" "allocationId" "Ljava/lang/String;" .null := f66.other W12 (Or.inr (slot_ne (Or.inr (hw _ (List.mem_of_getElem? (i := 40) rfl))) (Or.inr (hw _ (List.mem_of_getElem? (i := 42) rfl))) (by decide) (t := (.object "java/lang/String")) (t' := (.object "java/lang/String")) (by decide) (by decide)))
  have Zp12 : n0 ≤ h12.size := Nat.le_trans Zp11 (Keep.of_wr W12).1
  have sk12 := Nat.le_trans sk11 (Keep.of_wr W12).1
  have K12 : Keep h0 h12 [a0] := K11.wr W12 (Or.inl (List.mem_of_getElem? (i := 0) rfl))
  have N12 := Fr.snoc X12 N11 r1
  have f77 : Fld Z h12 a0 "org/shardwright/model/ShardCopy" "lastNodeId" "Ljava/lang/String;" (.ref a6) := f57.same W12
  have go13 : Go p e below A0 (T12.setTop (mkF m 265 #[.val (.ref a0), .val (.int p1), .val (.int p2), .val (.ref uA), .val .null, .val .null, .val (.ref a6), .val (.long q7), .second, .val .null, .val .null] [(.long q7), (.ref a0)])) := by
    intro t k
    refine go12 t ?_
    refine st12 _ ?_
    show Steps p.tables e below (T12.setTop (mkF m 262 #[.val (.ref a0), .val (.int p1), .val (.int p2), .val (.ref uA), .val .null, .val .null, .val (.ref a6), .val (.long q7), .second, .val .null, .val .null] [])) _
    refine o_aloadN X12 hx hby d1_262 263 rfl rfl rfl ?_
    refine o_lload X12 hx hby d1_263 265 rfl rfl ?_
    exact k
  obtain ⟨T13, h13, X13, e13, W13, st13⟩ := putF X12 hx hZ hown (host := "") (Or.inl (hw _ (List.mem_of_getElem? (i := 43) rfl))) Via.refl e12 f68 f67 (Or.inr ⟨(hw _ (List.mem_of_getElem? (i := 44) rfl)), rfl, hnm⟩) (hw _ (List.mem_of_getElem? (i := 5) rfl)) (ty := .long) (by decide) rfl rfl (g := (mkF m 265 #[.val (.ref a0), .val (.int p1), .val (.int p2), .val (.ref uA), .val .null, .val .null, .val (.ref a6), .val (.long q7), .second, .val .null, .val .null] [(.long q7), (.ref a0)])) rfl rfl (hb hby d1_265)
  have f78 : Exa Z h13 a0 "org/shardwright/model/ShardCopy" := f67.wr W13
  have f79 : Fld Z h13 a0 "org/shardwright/model/ShardCopy" "replaces" "Ljava/lang/String;" .null := f69.other W13 (Or.inr (slot_ne (Or.inr (hw _ (List.mem_of_getElem? (i := 46) rfl))) (Or.inr (hw _ (List.mem_of_getElem? (i := 44) rfl))) (by decide) (t := (.object "java/lang/String")) (t' := .long) (by decide) (by decide)))
  have f80 : Fld Z h13 a0 "org/shardwright/model/ShardCopy" "handsOverTo" "Ljava/lang/String;" .null := f70.other W13 (Or.inr (slot_ne (Or.inr (hw _ (List.mem_of_getElem? (i := 48) rfl))) (Or.inr (hw _ (List.mem_of_getElem? (i := 44) rfl))) (by decide) (t := (.object "java/lang/String")) (t' := .long) (by decide) (by decide)))
  have f81 : Old Z n0 h13 := f71.wr W13 r1
  have f82 : Fld Z h13 a0 "org/shardwright/model/ShardCopy" "shard" "I" (.int p1) := f72.other W13 (Or.inr (slot_ne (Or.inr (hw _ (List.mem_of_getElem? (i := 32) rfl))) (Or.inr (hw _ (List.mem_of_getElem? (i := 44) rfl))) (by decide) (t := .int) (t' := .long) (by decide) (by decide)))
  have f83 : Fld Z h13 a0 "org/shardwright/model/ShardCopy" "primary" "Z" (.int p2) := f73.other W13 (Or.inr (slot_ne (Or.inr (hw _ (List.mem_of_getElem? (i := 34) rfl))) (Or.inr (hw _ (List.mem_of_getElem? (i := 44) rfl))) (by decide) (t := .boolean) (t' := .long) (by decide) (by decide)))
  have f84 : Fld Z h13 a0 "org/shardwright/model/ShardCopy" "state" "Lorg/shardwright/model/ShardCopy$State;" (.ref uA) := f74.other W13 (Or.inr (slot_ne (Or.inr (hw _ (List.mem_of_getElem? (i := 36) rfl))) (Or.inr (hw _ (List.mem_of_getElem? (i := 44) rfl))) (by decide) (t := (.object "org/shardwright/model/ShardCopy$State")) (t' := .long) (by decide) (by decide)))
  have f85 : Fld Z h13 a0 "org/shardwright/model/ShardCopy" "nodeId" "Ljava/lang/String;" .null := f75.other W13 (Or.inr (slot_ne (Or.inr (hw _ (List.mem_of_getElem? (i := 38) rfl))) (Or.inr (hw _ (List.mem_of_getElem? (i := 44) rfl))) (by decide) (t := (.object "java/lang/String")) (t' := .long) (by decide) (by decide)))
  have f86 : Fld Z h13 a0 "org/shardwright/model/ShardCopy" "allocationId" "Ljava/lang/String;" .null := f76.other W13 (Or.inr (slot_ne (Or.inr (hw _ (List.mem_of_getElem? (i := 40) rfl))) (Or.inr (hw _ (List.mem_of_getElem? (i := 44) rfl))) (by decide) (t := (.object "java/lang/String")) (t' := .long) (by decide) (by decide)))
  have f87 : Fld Z h13 a0 "org/shardwright/model/ShardCopy" "lastNodeId" "Ljava/lang/String;" (.ref a6) := f77.other W13 (Or.inr (slot_ne (Or.inr (hw _ (List.mem_of_getElem? (i := 42) rfl))) (Or.inr (hw _ (List.mem_of_getElem? (i := 44) rfl))) (by decide) (t := (.object "java/lang/String")) (t' := .long) (by decide) (by decide)))
  have Zp13 : n0 ≤ h13.size := Nat.le_trans Zp12 (Keep.of_wr W13).1
  have sk13 := Nat.le_trans sk12 (Keep.of_wr W13).1
  have K13 : Keep h0 h13 [a0] := K12.wr W13 (Or.inl (List.mem_of_getElem? (i := 0) rfl))
  have N13 := Fr.snoc X13 N12 r1
  have f88 : Fld Z h13 a0 "org/shardwright/model/ShardCopy" "unassignedAtMillis" "J" (.long q7) := f68.same W13
  have go14 : Go p e below A0 (T13.setTop (mkF m 271 #[.val (.ref a0), .val (.int p1), .val (.int p2), .val (.ref uA), .val .null, .val .null, .val (.ref a6), .val (.long q7), .second, .val .null, .val .null] [.null, (.ref a0)])) := by
    intro t k
    refine go13 t ?_
    refine st13 _ ?_
    show Steps p.tables e below (T13.setTop (mkF m 268 #[.val (.ref a0), .val (.int p1), .val (.int p2), .val (.ref uA), .val .null, .val .null, .val (.ref a6), .val (.long q7), .second, .val .null, .val .null] [])) _
    refine o_aloadN X13 hx hby d1_268 269 rfl rfl rfl ?_
    refine o_aload X13 hx hby d1_269 271 rfl rfl rfl ?_
    exact k
  obtain ⟨T14, h14, X14, e14, W14, st14⟩ := putF X13 hx hZ hown (host := "") (Or.inl (hw _ (List.mem_of_getElem? (i := 45) rfl))) Via.refl e13 f79 f78 (Or.inr ⟨(hw _ (List.mem_of_getElem? (i := 46) rfl)), rfl, hnm⟩) (hw _ (List.mem_of_getElem? (i := 5) rfl)) (ty := (.object "java/lang/String")) (by decide) rfl rfl (g := (mkF m 271 #[.val (.ref a0), .val (.int p1), .val (.int p2), .val (.ref uA), .val .null, .val .null, .val (.ref a6), .val (.long q7), .second, .val .null, .val .null] [.null, (.ref a0)])) rfl rfl (hb hby d1_271)
  have f89 : Exa Z h14 a0 "org/shardwright/model/ShardCopy" := f78.wr W14
  have f90 : Fld Z h14 a0 "org/shardwright/model/ShardCopy" "handsOverTo" "Ljava/lang/String;" .null := f80.other W14 (Or.inr (slot_ne (Or.inr (hw _ (List.mem_of_getElem? (i := 48) rfl))) (Or.inr (hw _ (List.mem_of_getElem? (i := 46) rfl))) (by decide) (t := (.object "java/lang/String")) (t' := (.object "java/lang/String")) (by decide) (by decide)))
  have f91 : Old Z n0 h14 := f81.wr W14 r1
  have f92 : Fld Z h14 a0 "org/shardwright/model/ShardCopy" "shard" "I" (.int p1) := f82.other W14 (Or.inr (slot_ne (Or.inr (hw _ (List.mem_of_getElem? (i := 32) rfl))) (Or.inr (hw _ (List.mem_of_getElem? (i := 46) rfl))) (by decide) (t := .int) (t' := (.object "java/lang/String")) (by decide) (by decide)))
  have f93 : Fld Z h14 a0 "org/shardwright/model/ShardCopy" "primary" "Z" (.int p2) := f83.other W14 (Or.inr (slot_ne (Or.inr (hw _ (List.mem_of_getElem? (i := 34) rfl))) (Or.inr (hw _ (List.mem_of_getElem? (i := 46) rfl))) (by decide) (t := .boolean) (t' := (.object "java/lang/String")) (by decide) (by decide)))
  have f94 : Fld Z h14 a0 "org/shardwright/model/ShardCopy" "state" "Lorg/shardwright/model/ShardCopy$State;" (.ref uA) := f84.other W14 (Or.inr (slot_ne (Or.inr (hw _ (List.mem_of_getElem? (i := 36) rfl))) (Or.inr (hw _ (List.mem_of_getElem? (i := 46) rfl))) (by decide) (t := (.object "org/shardwright/model/ShardCopy$State")) (t' := (.object "java/lang/String")) (by decide) (by decide)))
  have f95 : Fld Z h14 a0 "org/shardwright/model/ShardCopy" "nodeId" "Ljava/lang/String;" .null := f85.other W14 (Or.inr (slot_ne (Or.inr (hw _ (List.mem_of_getElem? (i := 38) rfl))) (Or.inr (hw _ (List.mem_of_getElem? (i := 46) rfl))) (by decide) (t := (.object "java/lang/String")) (t' := (.object "java/lang/String")) (by decide) (by decide)))
  have f96 : Fld Z h14 a0 "org/shardwright/model/ShardCopy" "allocationId" "Ljava/lang/String;" .null := f86.other W14 (Or.inr (slot_ne (Or.inr (hw _ (List.mem_of_getElem? (i := 40) rfl))) (Or.inr (hw _ (List.mem_of_getElem? (i := 46) rfl))) (by decide) (t := (.object "java/lang/String")) (t' := (.object "java/lang/String")) (by decide) (by decide)))
  have f97 : Fld Z h14 a0 "org/shardwright/model/ShardCopy" "lastNodeId" "Ljava/lang/String;" (.ref a6) := f87.other W14 (Or.inr (slot_ne (Or.inr (hw _ (List.mem_of_getElem? (i := 42) rfl))) (Or.inr (hw _ (List.mem_of_getElem? (i := 46) rfl))) (by decide) (t := (.object "java/lang/String")) (t' := (.object "java/lang/String")) (by decide) (by decide)))
  have f98 : Fld Z h14 a0 "org/shardwright/model/ShardCopy" "unassignedAtMillis" "J" (.long q7) := f88.other W14 (Or.inr (slot_ne (Or.inr (hw _ (List.mem_of_getElem? (i := 44) rfl))) (Or.inr (hw _ (List.mem_of_getElem? (i := 46) rfl))) (by decide) (t := .long) (t' := (.object "java/lang/String")) (by decide) (by decide)))
  have Zp14 : n0 ≤ h14.size := Nat.le_trans Zp13 (Keep.of_wr W14).1
  have sk14 := Nat.le_trans sk13 (Keep.of_wr W14).1
  have K14 : Keep h0 h14 [a0] := K13.wr W14 (Or.inl (List.mem_of_getElem? (i := 0) rfl))
  have N14 := Fr.snoc X14 N13 r1
  have f99 : Fld Z h14 a0 "org/shardwright/model/ShardCopy" "replaces" "Ljava/lang/String;" .null := f79.same W14
  have go15 : Go p e below A0 (T14.setTop (mkF m 277 #[.val (.ref a0), .val (.int p1), .val (.int p2), .val (.ref uA), .val .null, .val .null, .val (.ref a6), .val (.long q7), .second, .val .null, .val .null] [.null, (.ref a0)])) := by
    intro t k
    refine go14 t ?_
    refine st14 _ ?_
    show Steps p.tables e below (T14.setTop (mkF m 274 #[.val (.ref a0), .val (.int p1), .val (.int p2), .val (.ref uA), .val .null, .val .null, .val (.ref a6), .val (.long q7), .second, .val .null, .val .null] [])) _
    refine o_aloadN X14 hx hby d1_274 275 rfl rfl rfl ?_
    refine o_aload X14 hx hby d1_275 277 rfl rfl rfl ?_
    exact k
  obtain ⟨T15, h15, X15, e15, W15, st15⟩ := putF X14 hx hZ hown (host := "") (Or.inl (hw _ (List.mem_of_getElem? (i := 47) rfl))) Via.refl e14 f90 f89 (Or.inr ⟨(hw _ (List.mem_of_getElem? (i := 48) rfl)), rfl, hnm⟩) (hw _ (List.mem_of_getElem? (i := 5) rfl)) (ty := (.object "java/lang/String")) (by decide) rfl rfl (g := (mkF m 277 #[.val (.ref a0), .val (.int p1), .val (.int p2), .val (.ref uA), .val .null, .val .null, .val (.ref a6), .val (.long q7), .second, .val .null, .val .null] [.null, (.ref a0)])) rfl rfl (hb hby d1_277)
  have f100 : Exa Z h15 a0 "org/shardwright/model/ShardCopy" := f89.wr W15
  have f101 : Old Z n0 h15 := f91.wr W15 r1
  have f102 : Fld Z h15 a0 "org/shardwright/model/ShardCopy" "shard" "I" (.int p1) := f92.other W15 (Or.inr (slot_ne (Or.inr (hw _ (List.mem_of_getElem? (i := 32) rfl))) (Or.inr (hw _ (List.mem_of_getElem? (i := 48) rfl))) (by decide) (t := .int) (t' := (.object "java/lang/String")) (by decide) (by decide)))
  have f103 : Fld Z h15 a0 "org/shardwright/model/ShardCopy" "primary" "Z" (.int p2) := f93.other W15 (Or.inr (slot_ne (Or.inr (hw _ (List.mem_of_getElem? (i := 34) rfl))) (Or.inr (hw _ (List.mem_of_getElem? (i := 48) rfl))) (by decide) (t := .boolean) (t' := (.object "java/lang/String")) (by decide) (by decide)))
  have f104 : Fld Z h15 a0 "org/shardwright/model/ShardCopy" "state" "Lorg/shardwright/model/ShardCopy$State;" (.ref uA) := f94.other W15 (Or.inr (slot_ne (Or.inr (hw _ (List.mem_of_getElem? (i := 36) rfl))) (Or.inr (hw _ (List.mem_of_getElem? (i := 48) rfl))) (by decide) (t := (.object "org/shardwright/model/ShardCopy$State")) (t' := (.object "java/lang/String")) (by decide) (by decide)))
  have f105 : Fld Z h15 a0 "org/shardwright/model/ShardCopy" "nodeId" "Ljava/lang/String;" .null := f95.other W15 (Or.inr (slot_ne (Or.inr (hw _ (List.mem_of_getElem? (i := 38) rfl))) (Or.inr (hw _ (List.mem_of_getElem? (i := 48) rfl))) (by decide) (t := (.object "java/lang/String")) (t' := (.object "java/lang/String")) (by decide) (by decide)))
  have f106 : Fld Z h15 a0 "org/shardwright/model/ShardCopy" "allocationId" "Ljava/lang/String;" .null := f96.other W15 (Or.inr (slot_ne (Or.inr (hw _ (List.mem_of_getElem? (i := 40) rfl))) (Or.inr (hw _ (List.mem_of_getElem? (i := 48) rfl))) (by decide) (t := (.object "java/lang/String")) (t' := (.object "java/lang/String")) (by decide) (by decide)))
  have f107 : Fld Z h15 a0 "org/shardwright/model/ShardCopy" "lastNodeId" "Ljava/lang/String;" (.ref a6) := f97.other W15 (Or.inr (slot_ne (Or.inr (hw _ (List.mem_of_getElem? (i := 42) rfl))) (Or.inr (hw _ (List.mem_of_getElem? (i := 48) rfl))) (by decide) (t := (.object "java/lang/String")) (t' := (.object "java/lang/String")) (by decide) (by decide)))
  have f108 : Fld Z h15 a0 "org/shardwright/model/ShardCopy" "unassignedAtMillis" "J" (.long q7) := f98.other W15 (Or.inr (slot_ne (Or.inr (hw _ (List.mem_of_getElem? (i := 44) rfl))) (Or.inr (hw _ (List.mem_of_getElem? (i := 48) rfl))) (by decide) (t := .long) (t' := (.object "java/lang/String")) (by decide) (by decide)))
  have f109 : Fld Z h15 a0 "org/shardwright/model/ShardCopy" "replaces" "Ljava/lang/String;" .null := f99.other W15 (Or.inr (slot_ne (Or.inr (hw _ (List.mem_of_getElem? (i := 46) rfl))) (Or.inr (hw _ (List.mem_of_getElem? (i := 48) rfl))) (by decide) (t := (.object "java/lang/String")) (t' := (.object "java/lang/String")) (by decide) (by decide)))
  have Zp15 : n0 ≤ h15.size := Nat.le_trans Zp14 (Keep.of_wr W15).1
  have sk15 := Nat.le_trans sk14 (Keep.of_wr W15).1
  have K15 : Keep h0 h15 [a0] := K14.wr W15 (Or.inl (List.mem_of_getElem? (i := 0) rfl))
  have N15 := Fr.snoc X15 N14 r1
  have f110 : Fld Z h15 a0 "org/shardwright/model/ShardCopy" "handsOverTo" "Ljava/lang/String;" .null := f90.same W15
  have go16 : Go p e below A0 (T15.setTop (mkF m 280 #[.val (.ref a0), .val (.int p1), .val (.int p2), .val (.ref uA), .val .null, .val .null, .val (.ref a6), .val (.long q7), .second, .val .null, .val .null] [])) := by
    intro t k
    refine go15 t ?_
    refine st15 _ ?_
    show Steps p.tables e below (T15.setTop (mkF m 280 #[.val (.ref a0), .val (.int p1), .val (.int p2), .val (.ref uA), .val .null, .val .null, .val (.ref a6), .val (.long q7), .second, .val .null, .val .null] [])) _
    exact k
  subst hA0
  obtain ⟨fs, hr, hrun, hended, hRW⟩ := X15.leaveW (s := s) S2 (by rw [e15]; exact sk15) (v := none) (fun _ => rfl)
  refine ⟨_, _, go16 _ (X15.returnOut hx Bd.returns (hb hby d1_280) hr), hrun, hended, _, _, rfl, ?_, hRW.1, hRW.2.1, hRW.2.2.1, hRW.2.2.2.mono (by decide) (by decide)⟩
  show Q1B Z a0 p1 p2 uA a6 q7 h0 n0 _ T15.heap _
  rw [e15]
  exact ⟨rfl, N15, K15, f109, trivial⟩
theorem ef_1C (m : MethodId) (x0 : Addr) (x1 : Int32) (x2 : Int32) (x3 : Addr) (x4 : Addr) (x5 : Addr) : entryFrame m #[(.ref x0), (.int x1), (.int x2), (.ref x3), (.ref x4), (.ref x5), .null, (.long (0 : Int64)), .null, .null] 11 = mkF m 0 #[.val (.ref x0), .val (.int x1), .val (.int x2), .val (.ref x3), .val (.ref x4), .val (.ref x5), .val .null, .val (.long (0 : Int64)), .second, .val .null, .val .null] [] := by first | (simp [entryFrame, mkF, argsToLocals, Value.category]; done) | rfl
def Q1C (Z : State) (a0 : Addr) (p1 : Int32) (p2 : Int32) (a3 : Addr) (a4 : Addr) (a5 : Addr) (uA : Addr) (h0 : Heap) (n0 : Nat) (v : Option Value) (h : Heap) (L : List Loc) : Prop := v = none ∧ Fr n0 L ∧ Keep h0 h [a0] ∧ Fld Z h a0 "org/shardwright/model/ShardCopy" "replaces" "Ljava/lang/String;" .null ∧ True
set_option maxRecDepth 65536 in
set_option maxHeartbeats 40000000 in
theorem rm1C (l : Launch) (Z : State) (aw : Array Value) (hw : ∀ d ∈ tables_1, d.before aw Z = true) (ws : List Jvm.Cond) (a0 : Addr) (p1 : Int32) (p2 : Int32) (a3 : Addr) (a4 : Addr) (a5 : Addr) (uA : Addr) (h0 : Heap) (n0 : Nat) (Z0 : n0 ≤ h0.size) (r0 : Exa Z h0 a0 "org/shardwright/model/ShardCopy") (r1 : n0 ≤ a0) (r2 : Fld Z h0 a0 "org/shardwright/model/ShardCopy" "shard" "I" (.int (0 : Int32))) (r3 : Fld Z h0 a0 "org/shardwright/model/ShardCopy" "primary" "Z" (.int (0 : Int32))) (r4 : Fld Z h0 a0 "org/shardwright/model/ShardCopy" "state" "Lorg/shardwright/model/ShardCopy$State;" .null) (r5 : Fld Z h0 a0 "org/shardwright/model/ShardCopy" "nodeId" "Ljava/lang/String;" .null) (r6 : Fld Z h0 a0 "org/shardwright/model/ShardCopy" "allocationId" "Ljava/lang/String;" .null) (r7 : Fld Z h0 a0 "org/shardwright/model/ShardCopy" "lastNodeId" "Ljava/lang/String;" .null) (r8 : Fld Z h0 a0 "org/shardwright/model/ShardCopy" "unassignedAtMillis" "J" (.long (0 : Int64))) (r9 : Fld Z h0 a0 "org/shardwright/model/ShardCopy" "replaces" "Ljava/lang/String;" .null) (r10 : Fld Z h0 a0 "org/shardwright/model/ShardCopy" "handsOverTo" "Ljava/lang/String;" .null) (r11 : Sta Z Z.heap "org/shardwright/model/ShardCopy$State" "UNASSIGNED" "Lorg/shardwright/model/ShardCopy$State;" (.ref uA)) (r12 : Old Z n0 h0) (hz2 : (p2 = 0 ∨ p2 = 1)) (hp1 : (¬ p1 < 0)) (r15 : a3 ≠ uA) :
    MetFree l (⟨"org/shardwright/model/ShardCopy", "<init>", "(IZLorg/shardwright/model/ShardCopy$State;Ljava/lang/String;Ljava/lang/String;Ljava/lang/String;JLjava/lang/String;Ljava/lang/String;)V"⟩ : MethodName) (head1 (Jvm.Cond.code (⟨"org/shardwright/model/ShardCopy", "<init>", "(IZLorg/shardwright/model/ShardCopy$State;Ljava/lang/String;Ljava/lang/String;Ljava/lang/String;JLjava/lang/String;Ljava/lang/String;)V"⟩ : MethodName) prog_33_method_1_code 11 none :: ws) ({ frames := 2, cells := 2, slots := 24, locals := 24 } : Room)) (fun a U => a = #[(.ref a0), (.int p1), (.int p2), (.ref a3), (.ref a4), (.ref a5), .null, (.long (0 : Int64)), .null, .null] ∧ Z.Warmed39 U.vm ∧ U.heap = h0) (fun _ _ _ _ _ => True) (fun _ U o U' => ∃ v L, o = .returned v ∧ Q1C Z a0 p1 p2 a3 a4 a5 uA h0 n0 v U'.heap L ∧ ReturnedEndW U o U' L ({ frames := 2, cells := 2, slots := 24, locals := 24 } : Room).cells ({ frames := 2, cells := 2, slots := 24, locals := 24 } : Room).slots) := by
  refine MetFree.of_bodySF (plainFor_of_name pn_1) hisR ?_
  intro p e s m args below meth c s₁ Bd hml0 hP hK
  obtain ⟨rfl, hZ, hh⟩ := hP
  have hx := Bd.exec
  have hby := Bd.bytes
  have hml : c.maxLocals = 11 := hml0
  have hown : s.vm.findClass "org/shardwright/model/ShardCopy" = some m.cls := findClass_of_methodNamed Bd.named
  have hnm := (name_of_methodNamed Bd.named Bd.method).1
  have X0 : Stand p l e ({ frames := 2, cells := 2, slots := 24, locals := 24 } : Room) s m #[(.ref a0), (.int p1), (.int p2), (.ref a3), (.ref a4), (.ref a5), .null, (.long (0 : Int64)), .null, .null] below meth c s₁ [] 0 0 := Stand.of_body Bd
  have e0 : s₁.heap = h0 := by rw [← hh, Bd.state]; rfl
  have N0 := Fr.nil n0
  obtain ⟨A0, hA0⟩ : ∃ A0, A0 = s₁.setTop (entryFrame m #[(.ref a0), (.int p1), (.int p2), (.ref a3), (.ref a4), (.ref a5), .null, (.long (0 : Int64)), .null, .null] 11) := ⟨_, rfl⟩
  have go0 : Go p e below A0 (s₁.setTop (mkF m 0 #[.val (.ref a0), .val (.int p1), .val (.int p2), .val (.ref a3), .val (.ref a4), .val (.ref a5), .val .null, .val (.long (0 : Int64)), .second, .val .null, .val .null] [])) := fun t k => by rw [hA0]; exact castTop (ef_1C m a0 p1 p2 a3 a4 a5) k
  obtain ⟨_, _, ⟨T1, L1, k1, n1⟩, -, X1, ⟨Lc1, hQ1, l1, y1, z1⟩, st1⟩ := X0.specialBack hx (y := (⟨"java/lang/Record", "<init>", "()V"⟩ : MethodName)) rfl hown (mvT hZ (hw _ (List.mem_of_getElem? (i := 10) rfl))) (mvT hZ (hw _ (List.mem_of_getElem? (i := 11) rfl))) (mvT hZ (hw _ (List.mem_of_getElem? (i := 14) rfl))) (by decide) (backOf (W := 0) (rm2 l Z aw hw [] a0 h0 n0 Z0 ) hZ (hw _ (List.mem_of_getElem? (i := 14) rfl)) (hw _ (List.mem_of_getElem? (i := 13) rfl)) (by decide) (by decide)) (g := (mkF m 1 #[.val (.ref a0), .val (.int p1), .val (.int p2), .val (.ref a3), .val (.ref a4), .val (.ref a5), .val .null, .val (.long (0 : Int64)), .second, .val .null, .val .null] [(.ref a0)])) rfl (by rw [hml]; rfl) (Steps.refl _) (a := a0) (argsL := []) (rest := []) (lenOf pd_8 rfl) rfl (by show 2 * 0 + _ ≤ _; exact Nat.le_of_eq rfl) (hb hby d1_1) (fun _ _ => ⟨rfl, e0, (by decide : 0 + 0 ≤ _), (by decide : 0 + 0 ≤ _)⟩)
  dsimp only [Pt.U, Pt.locs, Pt.cells, Pt.slots] at X1 l1 y1 z1 st1 hQ1
  subst l1 y1 z1
  obtain ⟨rfl, N1q, e1⟩ := hQ1
  have N1 := Fr.app N0 N1q
  have hwS2 : ∀ d ∈ Bundle.stringAtoms, d.before aw Z = true := fun d hd => hw d ((by decide +kernel : ∀ d ∈ Bundle.stringAtoms, d ∈ tables_1) d hd)
  obtain ⟨a2, T2, h2, k2, X2, e2, E2, S2, sk2, hZ, hown, st2⟩ := ldcS (s := s) (vm0 := s.vm) X1 hx hZ hown (hw _ (List.mem_of_getElem? (i := 18) rfl)) hwS2 e1 ((State.WarmedH.refl s).since 0) (Nat.zero_le _) (g := (mkF m 5 #[.val (.ref a0), .val (.int p1), .val (.int p2), .val (.ref a3), .val (.ref a4), .val (.ref a5), .val .null, .val (.long (0 : Int64)), .second, .val .null, .val .null] [(.ref a3)])) rfl (hb hby d1_5) (n := 20) (by decide) (by decide) (by decide) (by decide)
  have f1 : Exa Z h2 a0 "org/shardwright/model/ShardCopy" := r0.ext E2
  have f2 : Fld Z h2 a0 "org/shardwright/model/ShardCopy" "shard" "I" (.int (0 : Int32)) := r2.ext E2
  have f3 : Fld Z h2 a0 "org/shardwright/model/ShardCopy" "primary" "Z" (.int (0 : Int32)) := r3.ext E2
  have f4 : Fld Z h2 a0 "org/shardwright/model/ShardCopy" "state" "Lorg/shardwright/model/ShardCopy$State;" .null := r4.ext E2
  have f5 : Fld Z h2 a0 "org/shardwright/model/ShardCopy" "nodeId" "Ljava/lang/String;" .null := r5.ext E2
  have f6 : Fld Z h2 a0 "org/shardwright/model/ShardCopy" "allocationId" "Ljava/lang/String;" .null := r6.ext E2
  have f7 : Fld Z h2 a0 "org/shardwright/model/ShardCopy" "lastNodeId" "Ljava/lang/String;" .null := r7.ext E2
  have f8 : Fld Z h2 a0 "org/shardwright/model/ShardCopy" "unassignedAtMillis" "J" (.long (0 : Int64)) := r8.ext E2
  have f9 : Fld Z h2 a0 "org/shardwright/model/ShardCopy" "replaces" "Ljava/lang/String;" .null := r9.ext E2
  have f10 : Fld Z h2 a0 "org/shardwright/model/ShardCopy" "handsOverTo" "Ljava/lang/String;" .null := r10.ext E2
  have f11 : Old Z n0 h2 := r12.ext E2
  have Zp2 : n0 ≤ h2.size := Nat.le_trans Z0 E2.1
  have K2 : Keep h0 h2 [a0] := (Keep.refl h0 [a0]).ext E2
  have go1 : Go p e below A0 (T2.setTop (mkF m 7 #[.val (.ref a0), .val (.int p1), .val (.int p2), .val (.ref a3), .val (.ref a4), .val (.ref a5), .val .null, .val (.long (0 : Int64)), .second, .val .null, .val .null] [(.ref a2), (.ref a3)])) := by
    intro t k
    refine go0 t ?_
    refine o_aloadN X0 hx hby d1_0 1 rfl rfl rfl ?_
    refine st1.trans ?_
    show Steps p.tables e below (T1.setTop (mkF m 4 #[.val (.ref a0), .val (.int p1), .val (.int p2), .val (.ref a3), .val (.ref a4), .val (.ref a5), .val .null, .val (.long (0 : Int64)), .second, .val .null, .val .null] [])) _
    refine o_aloadN X1 hx hby d1_4 5 rfl rfl rfl ?_
    refine st2 _ ?_
    show Steps p.tables e below (T2.setTop (mkF m 7 #[.val (.ref a0), .val (.int p1), .val (.int p2), .val (.ref a3), .val (.ref a4), .val (.ref a5), .val .null, .val (.long (0 : Int64)), .second, .val .null, .val .null] [(.ref a2), (.ref a3)])) _
    exact k
  obtain ⟨_, _, ⟨T3, L3, k3, n3⟩, -, X3, ⟨Lc3, hQ3, l3, y3, z3⟩, st3⟩ := Jvm.LawKit.callS X2 hx (y := (⟨"java/util/Objects", "requireNonNull", "(Ljava/lang/Object;Ljava/lang/String;)Ljava/lang/Object;"⟩ : MethodName)) hown (mvT hZ (hw _ (List.mem_of_getElem? (i := 26) rfl))) (mvT hZ (hw _ (List.mem_of_getElem? (i := 27) rfl))) (mvT hZ (hw _ (List.mem_of_getElem? (i := 28) rfl))) (mvT hZ (hw _ (List.mem_of_getElem? (i := 29) rfl))) (by decide) (backOf (W := 0) (rm4 l Z aw hw [] a3 a2 h2 n0 Zp2 ) hZ (hw _ (List.mem_of_getElem? (i := 29) rfl)) (hw _ (List.mem_of_getElem? (i := 28) rfl)) (by decide) (by decide)) (g := (mkF m 7 #[.val (.ref a0), .val (.int p1), .val (.int p2), .val (.ref a3), .val (.ref a4), .val (.ref a5), .val .null, .val (.long (0 : Int64)), .second, .val .null, .val .null] [(.ref a2), (.ref a3)])) rfl (by rw [hml]; rfl) (argsL := [(.ref a3), (.ref a2)]) (rest := []) (lenOf pd_9 rfl) rfl (by show 2 * 0 + _ ≤ _; exact Nat.le_of_eq rfl) (hb hby d1_7) (fun _ _ => ⟨rfl, e2, (by decide : 2 + 0 ≤ _), (by decide : 24 + 0 ≤ _)⟩)
  dsimp only [Pt.U, Pt.locs, Pt.cells, Pt.slots] at X3 l3 y3 z3 st3 hQ3
  subst l3 y3 z3
  obtain ⟨rfl, N3q, e3⟩ := hQ3
  have N3 := Fr.app N1 N3q
  have go2 : Go p e below A0 (T3.setTop (mkF m 10 #[.val (.ref a0), .val (.int p1), .val (.int p2), .val (.ref a3), .val (.ref a4), .val (.ref a5), .val .null, .val (.long (0 : Int64)), .second, .val .null, .val .null] [(.ref a3)])) := by
    intro t k
    refine go1 t ?_
    refine st3 _ ?_
    show Steps p.tables e below (T3.setTop (mkF m 10 #[.val (.ref a0), .val (.int p1), .val (.int p2), .val (.ref a3), .val (.ref a4), .val (.ref a5), .val .null, .val (.long (0 : Int64)), .second, .val .null, .val .null] [(.ref a3)])) _
    exact k
  obtain ⟨T4, X4, e4, st4⟩ := getS2 X3 hx hZ hown (host := "") (Or.inl (hw _ (List.mem_of_getElem? (i := 30) rfl))) Via.refl e3 (r11.ext f11.2) (g := (mkF m 30 #[.val (.ref a0), .val (.int p1), .val (.int p2), .val (.ref a3), .val (.ref a4), .val (.ref a5), .val .null, .val (.long (0 : Int64)), .second, .val .null, .val .null] [(.ref a3)])) rfl (hb hby d1_30)
  have go3 : Go p e below A0 (T4.setTop (mkF m 231 #[.val (.ref a0), .val (.int p1), .val (.int p2), .val (.ref a3), .val (.ref a4), .val (.ref a5), .val .null, .val (.long (0 : Int64)), .second, .val .null, .val .null] [(.int p1), (.ref a0)])) := by
    intro t k
    refine go2 t ?_
    refine o_pop X3 hx hby d1_10 11 rfl rfl ?_
    refine o_iloadN X3 hx hby d1_11 12 rfl rfl ?_
    refine o_ifY X3 hx hby d1_12 29 rfl (flt (hp1)).2.1 ?_
    refine o_aloadN X3 hx hby d1_29 30 rfl rfl rfl ?_
    refine st4 _ ?_
    show Steps p.tables e below (T4.setTop (mkF m 33 #[.val (.ref a0), .val (.int p1), .val (.int p2), .val (.ref a3), .val (.ref a4), .val (.ref a5), .val .null, .val (.long (0 : Int64)), .second, .val .null, .val .null] [(.ref uA), (.ref a3)])) _
    refine o_acmp X4 hx hby d1_33 40 (same := false) rfl rfl (decide_eq_false (fun h => r15 (Value.ref.inj h))) (by decide) (by decide) ?_
    refine o_iconst X4 hx hby d1_40 41 rfl (v := (0 : Int32)) rfl ?_
    refine o_aload X4 hx hby d1_41 43 rfl rfl rfl ?_
    refine o_ifnonnullY X4 hx hby d1_43 50 rfl ?_
    refine o_iconst X4 hx hby d1_50 51 rfl (v := (0 : Int32)) rfl ?_
    refine o_icmpN X4 hx hby d1_51 54 rfl (teq (show (0 : Int32) = (0 : Int32) by decide)).2 ?_
    refine o_aload X4 hx hby d1_54 56 rfl rfl rfl ?_
    refine o_ifnonnullY X4 hx hby d1_56 63 rfl ?_
    refine o_iconst X4 hx hby d1_63 64 rfl (v := (0 : Int32)) rfl ?_
    refine o_aload X4 hx hby d1_64 66 rfl rfl rfl ?_
    refine o_ifnonnullY X4 hx hby d1_66 73 rfl ?_
    refine o_iconst X4 hx hby d1_73 74 rfl (v := (0 : Int32)) rfl ?_
    refine o_icmpY X4 hx hby d1_74 98 rfl (teq (show (0 : Int32) = (0 : Int32) by decide)).1 ?_
    refine o_aload X4 hx hby d1_98 100 rfl rfl rfl ?_
    refine o_ifnullY X4 hx hby d1_100 114 rfl ?_
    refine o_lload X4 hx hby d1_114 116 rfl rfl ?_
    refine o_lconst X4 hx hby d1_116 117 rfl (v := (0 : Int64)) rfl ?_
    refine o_lcmp X4 hx hby d1_117 118 rfl ?_
    refine o_ifY X4 hx hby d1_118 126 rfl (teq ((lw_eq (0 : Int64) (0 : Int64)).mpr (show (0 : Int64) = (0 : Int64) by decide))).1 ?_
    refine o_lload X4 hx hby d1_126 128 rfl rfl ?_
    refine o_lconst X4 hx hby d1_128 129 rfl (v := (0 : Int64)) rfl ?_
    refine o_lcmp X4 hx hby d1_129 130 rfl ?_
    refine o_ifY X4 hx hby d1_130 165 rfl (flt (fun q => (show ¬ ((0 : Int64) < (0 : Int64)) by decide) ((lw_lt (0 : Int64) (0 : Int64)).mp q))).2.1 ?_
    refine o_aload X4 hx hby d1_165 167 rfl rfl rfl ?_
    refine o_ifnullY X4 hx hby d1_167 181 rfl ?_
    refine o_aload X4 hx hby d1_181 183 rfl rfl rfl ?_
    refine o_ifnullY X4 hx hby d1_183 229 rfl ?_
    refine o_aloadN X4 hx hby d1_229 230 rfl rfl rfl ?_
    refine o_iloadN X4 hx hby d1_230 231 rfl rfl ?_
    exact k
  obtain ⟨T5, h5, X5, e5, W5, st5⟩ := putF X4 hx hZ hown (host := "") (Or.inl (hw _ (List.mem_of_getElem? (i := 31) rfl))) Via.refl e4 f2 f1 (Or.inr ⟨(hw _ (List.mem_of_getElem? (i := 32) rfl)), rfl, hnm⟩) (hw _ (List.mem_of_getElem? (i := 5) rfl)) (ty := .int) (by decide) rfl rfl (g := (mkF m 231 #[.val (.ref a0), .val (.int p1), .val (.int p2), .val (.ref a3), .val (.ref a4), .val (.ref a5), .val .null, .val (.long (0 : Int64)), .second, .val .null, .val .null] [(.int p1), (.ref a0)])) rfl rfl (hb hby d1_231)
  have f12 : Exa Z h5 a0 "org/shardwright/model/ShardCopy" := f1.wr W5
  have f13 : Fld Z h5 a0 "org/shardwright/model/ShardCopy" "primary" "Z" (.int (0 : Int32)) := f3.other W5 (Or.inr (slot_ne (Or.inr (hw _ (List.mem_of_getElem? (i := 34) rfl))) (Or.inr (hw _ (List.mem_of_getElem? (i := 32) rfl))) (by decide) (t := .boolean) (t' := .int) (by decide) (by decide)))
  have f14 : Fld Z h5 a0 "org/shardwright/model/ShardCopy" "state" "Lorg/shardwright/model/ShardCopy$State;" .null := f4.other W5 (Or.inr (slot_ne (Or.inr (hw _ (List.mem_of_getElem? (i := 36) rfl))) (Or.inr (hw _ (List.mem_of_getElem? (i := 32) rfl))) (by decide) (t := (.object "org/shardwright/model/ShardCopy$State")) (t' := .int) (by decide) (by decide)))
  have f15 : Fld Z h5 a0 "org/shardwright/model/ShardCopy" "nodeId" "Ljava/lang/String;" .null := f5.other W5 (Or.inr (slot_ne (Or.inr (hw _ (List.mem_of_getElem? (i := 38) rfl))) (Or.inr (hw _ (List.mem_of_getElem? (i := 32) rfl))) (by decide) (t := (.object "java/lang/String")) (t' := .int) (by decide) (by decide)))
  have f16 : Fld Z h5 a0 "org/shardwright/model/ShardCopy" "allocationId" "Ljava/lang/String;" .null := f6.other W5 (Or.inr (slot_ne (Or.inr (hw _ (List.mem_of_getElem? (i := 40) rfl))) (Or.inr (hw _ (List.mem_of_getElem? (i := 32) rfl))) (by decide) (t := (.object "java/lang/String")) (t' := .int) (by decide) (by decide)))
  have f17 : Fld Z h5 a0 "org/shardwright/model/ShardCopy" "lastNodeId" "Ljava/lang/String;" .null := f7.other W5 (Or.inr (slot_ne (Or.inr (hw _ (List.mem_of_getElem? (i := 42) rfl))) (Or.inr (hw _ (List.mem_of_getElem? (i := 32) rfl))) (by decide) (t := (.object "java/lang/String")) (t' := .int) (by decide) (by decide)))
  have f18 : Fld Z h5 a0 "org/shardwright/model/ShardCopy" "unassignedAtMillis" "J" (.long (0 : Int64)) := f8.other W5 (Or.inr (slot_ne (Or.inr (hw _ (List.mem_of_getElem? (i := 44) rfl))) (Or.inr (hw _ (List.mem_of_getElem? (i := 32) rfl))) (by decide) (t := .long) (t' := .int) (by decide) (by decide)))
  have f19 : Fld Z h5 a0 "org/shardwright/model/ShardCopy" "replaces" "Ljava/lang/String;" .null := f9.other W5 (Or.inr (slot_ne (Or.inr (hw _ (List.mem_of_getElem? (i := 46) rfl))) (Or.inr (hw _ (List.mem_of_getElem? (i := 32) rfl))) (by decide) (t := (.object "java/lang/String")) (t' := .int) (by decide) (by decide)))
  have f20 : Fld Z h5 a0 "org/shardwright/model/ShardCopy" "handsOverTo" "Ljava/lang/String;" .null := f10.other W5 (Or.inr (slot_ne (Or.inr (hw _ (List.mem_of_getElem? (i := 48) rfl))) (Or.inr (hw _ (List.mem_of_getElem? (i := 32) rfl))) (by decide) (t := (.object "java/lang/String")) (t' := .int) (by decide) (by decide)))
  have f21 : Old Z n0 h5 := f11.wr W5 r1
  have Zp5 : n0 ≤ h5.size := Nat.le_trans Zp2 (Keep.of_wr W5).1
  have sk5 := Nat.le_trans sk2 (Keep.of_wr W5).1
  have K5 : Keep h0 h5 [a0] := K2.wr W5 (Or.inl (List.mem_of_getElem? (i := 0) rfl))
  have N5 := Fr.snoc X5 N3 r1
  have f22 : Fld Z h5 a0 "org/shardwright/model/ShardCopy" "shard" "I" (.int p1) := f2.same W5
  have go4 : Go p e below A0 (T5.setTop (mkF m 236 #[.val (.ref a0), .val (.int p1), .val (.int p2), .val (.ref a3), .val (.ref a4), .val (.ref a5), .val .null, .val (.long (0 : Int64)), .second, .val .null, .val .null] [(.int p2), (.ref a0)])) := by
    intro t k
    refine go3 t ?_
    refine st5 _ ?_
    show Steps p.tables e below (T5.setTop (mkF m 234 #[.val (.ref a0), .val (.int p1), .val (.int p2), .val (.ref a3), .val (.ref a4), .val (.ref a5), .val .null, .val (.long (0 : Int64)), .second, .val .null, .val .null] [])) _
    refine o_aloadN X5 hx hby d1_234 235 rfl rfl rfl ?_
    refine o_iloadN X5 hx hby d1_235 236 rfl rfl ?_
    exact k
  obtain ⟨T6, h6, X6, e6, W6, st6⟩ := putFN X5 hx hZ hown (hw _ (List.mem_of_getElem? (i := 33) rfl)) Via.refl e5 f13 f12 (Or.inr ⟨(hw _ (List.mem_of_getElem? (i := 34) rfl)), rfl, hnm⟩) (hw _ (List.mem_of_getElem? (i := 5) rfl)) (ty := .boolean) (v' := (.int p2)) (by decide) (o_nf hz2).1 (o_nf hz2).2 (g := (mkF m 236 #[.val (.ref a0), .val (.int p1), .val (.int p2), .val (.ref a3), .val (.ref a4), .val (.ref a5), .val .null, .val (.long (0 : Int64)), .second, .val .null, .val .null] [(.int p2), (.ref a0)])) rfl rfl (hb hby d1_236)
  have f23 : Exa Z h6 a0 "org/shardwright/model/ShardCopy" := f12.wr W6
  have f24 : Fld Z h6 a0 "org/shardwright/model/ShardCopy" "state" "Lorg/shardwright/model/ShardCopy$State;" .null := f14.other W6 (Or.inr (slot_ne (Or.inr (hw _ (List.mem_of_getElem? (i := 36) rfl))) (Or.inr (hw _ (List.mem_of_getElem? (i := 34) rfl))) (by decide) (t := (.object "org/shardwright/model/ShardCopy$State")) (t' := .boolean) (by decide) (by decide)))
  have f25 : Fld Z h6 a0 "org/shardwright/model/ShardCopy" "nodeId" "Ljava/lang/String;" .null := f15.other W6 (Or.inr (slot_ne (Or.inr (hw _ (List.mem_of_getElem? (i := 38) rfl))) (Or.inr (hw _ (List.mem_of_getElem? (i := 34) rfl))) (by decide) (t := (.object "java/lang/String")) (t' := .boolean) (by decide) (by decide)))
  have f26 : Fld Z h6 a0 "org/shardwright/model/ShardCopy" "allocationId" "Ljava/lang/String;" .null := f16.other W6 (Or.inr (slot_ne (Or.inr (hw _ (List.mem_of_getElem? (i := 40) rfl))) (Or.inr (hw _ (List.mem_of_getElem? (i := 34) rfl))) (by decide) (t := (.object "java/lang/String")) (t' := .boolean) (by decide) (by decide)))
  have f27 : Fld Z h6 a0 "org/shardwright/model/ShardCopy" "lastNodeId" "Ljava/lang/String;" .null := f17.other W6 (Or.inr (slot_ne (Or.inr (hw _ (List.mem_of_getElem? (i := 42) rfl))) (Or.inr (hw _ (List.mem_of_getElem? (i := 34) rfl))) (by decide) (t := (.object "java/lang/String")) (t' := .boolean) (by decide) (by decide)))
  have f28 : Fld Z h6 a0 "org/shardwright/model/ShardCopy" "unassignedAtMillis" "J" (.long (0 : Int64)) := f18.other W6 (Or.inr (slot_ne (Or.inr (hw _ (List.mem_of_getElem? (i := 44) rfl))) (Or.inr (hw _ (List.mem_of_getElem? (i := 34) rfl))) (by decide) (t := .long) (t' := .boolean) (by decide) (by decide)))
  have f29 : Fld Z h6 a0 "org/shardwright/model/ShardCopy" "replaces" "Ljava/lang/String;" .null := f19.other W6 (Or.inr (slot_ne (Or.inr (hw _ (List.mem_of_getElem? (i := 46) rfl))) (Or.inr (hw _ (List.mem_of_getElem? (i := 34) rfl))) (by decide) (t := (.object "java/lang/String")) (t' := .boolean) (by decide) (by decide)))
  have f30 : Fld Z h6 a0 "org/shardwright/model/ShardCopy" "handsOverTo" "Ljava/lang/String;" .null := f20.other W6 (Or.inr (slot_ne (Or.inr (hw _ (List.mem_of_getElem? (i := 48) rfl))) (Or.inr (hw _ (List.mem_of_getElem? (i := 34) rfl))) (by decide) (t := (.object "java/lang/String")) (t' := .boolean) (by decide) (by decide)))
  have f31 : Old Z n0 h6 := f21.wr W6 r1
  have f32 : Fld Z h6 a0 "org/shardwright/model/ShardCopy" "shard" "I" (.int p1) := f22.other W6 (Or.inr (slot_ne (Or.inr (hw _ (List.mem_of_getElem? (i := 32) rfl))) (Or.inr (hw _ (List.mem_of_getElem? (i := 34) rfl))) (by decide) (t := .int) (t' := .boolean) (by decide) (by decide)))
  have Zp6 : n0 ≤ h6.size := Nat.le_trans Zp5 (Keep.of_wr W6).1
  have sk6 := Nat.le_trans sk5 (Keep.of_wr W6).1
  have K6 : Keep h0 h6 [a0] := K5.wr W6 (Or.inl (List.mem_of_getElem? (i := 0) rfl))
  have N6 := Fr.snoc X6 N5 r1
  have f33 : Fld Z h6 a0 "org/shardwright/model/ShardCopy" "primary" "Z" (.int p2) := f13.same W6
  have go5 : Go p e below A0 (T6.setTop (mkF m 241 #[.val (.ref a0), .val (.int p1), .val (.int p2), .val (.ref a3), .val (.ref a4), .val (.ref a5), .val .null, .val (.long (0 : Int64)), .second, .val .null, .val .null] [(.ref a3), (.ref a0)])) := by
    intro t k
    refine go4 t ?_
    refine st6 _ ?_
    show Steps p.tables e below (T6.setTop (mkF m 239 #[.val (.ref a0), .val (.int p1), .val (.int p2), .val (.ref a3), .val (.ref a4), .val (.ref a5), .val .null, .val (.long (0 : Int64)), .second, .val .null, .val .null] [])) _
    refine o_aloadN X6 hx hby d1_239 240 rfl rfl rfl ?_
    refine o_aloadN X6 hx hby d1_240 241 rfl rfl rfl ?_
    exact k
  obtain ⟨T7, h7, X7, e7, W7, st7⟩ := putF X6 hx hZ hown (host := "") (Or.inl (hw _ (List.mem_of_getElem? (i := 35) rfl))) Via.refl e6 f24 f23 (Or.inr ⟨(hw _ (List.mem_of_getElem? (i := 36) rfl)), rfl, hnm⟩) (hw _ (List.mem_of_getElem? (i := 5) rfl)) (ty := (.object "org/shardwright/model/ShardCopy$State")) (by decide) rfl rfl (g := (mkF m 241 #[.val (.ref a0), .val (.int p1), .val (.int p2), .val (.ref a3), .val (.ref a4), .val (.ref a5), .val .null, .val (.long (0 : Int64)), .second, .val .null, .val .null] [(.ref a3), (.ref a0)])) rfl rfl (hb hby d1_241)
  have f34 : Exa Z h7 a0 "org/shardwright/model/ShardCopy" := f23.wr W7
  have f35 : Fld Z h7 a0 "org/shardwright/model/ShardCopy" "nodeId" "Ljava/lang/String;" .null := f25.other W7 (Or.inr (slot_ne (Or.inr (hw _ (List.mem_of_getElem? (i := 38) rfl))) (Or.inr (hw _ (List.mem_of_getElem? (i := 36) rfl))) (by decide) (t := (.object "java/lang/String")) (t' := (.object "org/shardwright/model/ShardCopy$State")) (by decide) (by decide)))
  have f36 : Fld Z h7 a0 "org/shardwright/model/ShardCopy" "allocationId" "Ljava/lang/String;" .null := f26.other W7 (Or.inr (slot_ne (Or.inr (hw _ (List.mem_of_getElem? (i := 40) rfl))) (Or.inr (hw _ (List.mem_of_getElem? (i := 36) rfl))) (by decide) (t := (.object "java/lang/String")) (t' := (.object "org/shardwright/model/ShardCopy$State")) (by decide) (by decide)))
  have f37 : Fld Z h7 a0 "org/shardwright/model/ShardCopy" "lastNodeId" "Ljava/lang/String;" .null := f27.other W7 (Or.inr (slot_ne (Or.inr (hw _ (List.mem_of_getElem? (i := 42) rfl))) (Or.inr (hw _ (List.mem_of_getElem? (i := 36) rfl))) (by decide) (t := (.object "java/lang/String")) (t' := (.object "org/shardwright/model/ShardCopy$State")) (by decide) (by decide)))
  have f38 : Fld Z h7 a0 "org/shardwright/model/ShardCopy" "unassignedAtMillis" "J" (.long (0 : Int64)) := f28.other W7 (Or.inr (slot_ne (Or.inr (hw _ (List.mem_of_getElem? (i := 44) rfl))) (Or.inr (hw _ (List.mem_of_getElem? (i := 36) rfl))) (by decide) (t := .long) (t' := (.object "org/shardwright/model/ShardCopy$State")) (by decide) (by decide)))
  have f39 : Fld Z h7 a0 "org/shardwright/model/ShardCopy" "replaces" "Ljava/lang/String;" .null := f29.other W7 (Or.inr (slot_ne (Or.inr (hw _ (List.mem_of_getElem? (i := 46) rfl))) (Or.inr (hw _ (List.mem_of_getElem? (i := 36) rfl))) (by decide) (t := (.object "java/lang/String")) (t' := (.object "org/shardwright/model/ShardCopy$State")) (by decide) (by decide)))
  have f40 : Fld Z h7 a0 "org/shardwright/model/ShardCopy" "handsOverTo" "Ljava/lang/String;" .null := f30.other W7 (Or.inr (slot_ne (Or.inr (hw _ (List.mem_of_getElem? (i := 48) rfl))) (Or.inr (hw _ (List.mem_of_getElem? (i := 36) rfl))) (by decide) (t := (.object "java/lang/String")) (t' := (.object "org/shardwright/model/ShardCopy$State")) (by decide) (by decide)))
  have f41 : Old Z n0 h7 := f31.wr W7 r1
  have f42 : Fld Z h7 a0 "org/shardwright/model/ShardCopy" "shard" "I" (.int p1) := f32.other W7 (Or.inr (slot_ne (Or.inr (hw _ (List.mem_of_getElem? (i := 32) rfl))) (Or.inr (hw _ (List.mem_of_getElem? (i := 36) rfl))) (by decide) (t := .int) (t' := (.object "org/shardwright/model/ShardCopy$State")) (by decide) (by decide)))
  have f43 : Fld Z h7 a0 "org/shardwright/model/ShardCopy" "primary" "Z" (.int p2) := f33.other W7 (Or.inr (slot_ne (Or.inr (hw _ (List.mem_of_getElem? (i := 34) rfl))) (Or.inr (hw _ (List.mem_of_getElem? (i := 36) rfl))) (by decide) (t := .boolean) (t' := (.object "org/shardwright/model/ShardCopy$State")) (by decide) (by decide)))
  have Zp7 : n0 ≤ h7.size := Nat.le_trans Zp6 (Keep.of_wr W7).1
  have sk7 := Nat.le_trans sk6 (Keep.of_wr W7).1
  have K7 : Keep h0 h7 [a0] := K6.wr W7 (Or.inl (List.mem_of_getElem? (i := 0) rfl))
  have N7 := Fr.snoc X7 N6 r1
  have f44 : Fld Z h7 a0 "org/shardwright/model/ShardCopy" "state" "Lorg/shardwright/model/ShardCopy$State;" (.ref a3) := f24.same W7
  have go6 : Go p e below A0 (T7.setTop (mkF m 247 #[.val (.ref a0), .val (.int p1), .val (.int p2), .val (.ref a3), .val (.ref a4), .val (.ref a5), .val .null, .val (.long (0 : Int64)), .second, .val .null, .val .null] [(.ref a4), (.ref a0)])) := by
    intro t k
    refine go5 t ?_
    refine st7 _ ?_
    show Steps p.tables e below (T7.setTop (mkF m 244 #[.val (.ref a0), .val (.int p1), .val (.int p2), .val (.ref a3), .val (.ref a4), .val (.ref a5), .val .null, .val (.long (0 : Int64)), .second, .val .null, .val .null] [])) _
    refine o_aloadN X7 hx hby d1_244 245 rfl rfl rfl ?_
    refine o_aload X7 hx hby d1_245 247 rfl rfl rfl ?_
    exact k
  obtain ⟨T8, h8, X8, e8, W8, st8⟩ := putF X7 hx hZ hown (host := "") (Or.inl (hw _ (List.mem_of_getElem? (i := 37) rfl))) Via.refl e7 f35 f34 (Or.inr ⟨(hw _ (List.mem_of_getElem? (i := 38) rfl)), rfl, hnm⟩) (hw _ (List.mem_of_getElem? (i := 5) rfl)) (ty := (.object "java/lang/String")) (by decide) rfl rfl (g := (mkF m 247 #[.val (.ref a0), .val (.int p1), .val (.int p2), .val (.ref a3), .val (.ref a4), .val (.ref a5), .val .null, .val (.long (0 : Int64)), .second, .val .null, .val .null] [(.ref a4), (.ref a0)])) rfl rfl (hb hby d1_247)
  have f45 : Exa Z h8 a0 "org/shardwright/model/ShardCopy" := f34.wr W8
  have f46 : Fld Z h8 a0 "org/shardwright/model/ShardCopy" "allocationId" "Ljava/lang/String;" .null := f36.other W8 (Or.inr (slot_ne (Or.inr (hw _ (List.mem_of_getElem? (i := 40) rfl))) (Or.inr (hw _ (List.mem_of_getElem? (i := 38) rfl))) (by decide) (t := (.object "java/lang/String")) (t' := (.object "java/lang/String")) (by decide) (by decide)))
  have f47 : Fld Z h8 a0 "org/shardwright/model/ShardCopy" "lastNodeId" "Ljava/lang/String;" .null := f37.other W8 (Or.inr (slot_ne (Or.inr (hw _ (List.mem_of_getElem? (i := 42) rfl))) (Or.inr (hw _ (List.mem_of_getElem? (i := 38) rfl))) (by decide) (t := (.object "java/lang/String")) (t' := (.object "java/lang/String")) (by decide) (by decide)))
  have f48 : Fld Z h8 a0 "org/shardwright/model/ShardCopy" "unassignedAtMillis" "J" (.long (0 : Int64)) := f38.other W8 (Or.inr (slot_ne (Or.inr (hw _ (List.mem_of_getElem? (i := 44) rfl))) (Or.inr (hw _ (List.mem_of_getElem? (i := 38) rfl))) (by decide) (t := .long) (t' := (.object "java/lang/String")) (by decide) (by decide)))
  have f49 : Fld Z h8 a0 "org/shardwright/model/ShardCopy" "replaces" "Ljava/lang/String;" .null := f39.other W8 (Or.inr (slot_ne (Or.inr (hw _ (List.mem_of_getElem? (i := 46) rfl))) (Or.inr (hw _ (List.mem_of_getElem? (i := 38) rfl))) (by decide) (t := (.object "java/lang/String")) (t' := (.object "java/lang/String")) (by decide) (by decide)))
  have f50 : Fld Z h8 a0 "org/shardwright/model/ShardCopy" "handsOverTo" "Ljava/lang/String;" .null := f40.other W8 (Or.inr (slot_ne (Or.inr (hw _ (List.mem_of_getElem? (i := 48) rfl))) (Or.inr (hw _ (List.mem_of_getElem? (i := 38) rfl))) (by decide) (t := (.object "java/lang/String")) (t' := (.object "java/lang/String")) (by decide) (by decide)))
  have f51 : Old Z n0 h8 := f41.wr W8 r1
  have f52 : Fld Z h8 a0 "org/shardwright/model/ShardCopy" "shard" "I" (.int p1) := f42.other W8 (Or.inr (slot_ne (Or.inr (hw _ (List.mem_of_getElem? (i := 32) rfl))) (Or.inr (hw _ (List.mem_of_getElem? (i := 38) rfl))) (by decide) (t := .int) (t' := (.object "java/lang/String")) (by decide) (by decide)))
  have f53 : Fld Z h8 a0 "org/shardwright/model/ShardCopy" "primary" "Z" (.int p2) := f43.other W8 (Or.inr (slot_ne (Or.inr (hw _ (List.mem_of_getElem? (i := 34) rfl))) (Or.inr (hw _ (List.mem_of_getElem? (i := 38) rfl))) (by decide) (t := .boolean) (t' := (.object "java/lang/String")) (by decide) (by decide)))
  have f54 : Fld Z h8 a0 "org/shardwright/model/ShardCopy" "state" "Lorg/shardwright/model/ShardCopy$State;" (.ref a3) := f44.other W8 (Or.inr (slot_ne (Or.inr (hw _ (List.mem_of_getElem? (i := 36) rfl))) (Or.inr (hw _ (List.mem_of_getElem? (i := 38) rfl))) (by decide) (t := (.object "org/shardwright/model/ShardCopy$State")) (t' := (.object "java/lang/String")) (by decide) (by decide)))
  have Zp8 : n0 ≤ h8.size := Nat.le_trans Zp7 (Keep.of_wr W8).1
  have sk8 := Nat.le_trans sk7 (Keep.of_wr W8).1
  have K8 : Keep h0 h8 [a0] := K7.wr W8 (Or.inl (List.mem_of_getElem? (i := 0) rfl))
  have N8 := Fr.snoc X8 N7 r1
  have f55 : Fld Z h8 a0 "org/shardwright/model/ShardCopy" "nodeId" "Ljava/lang/String;" (.ref a4) := f35.same W8
  have go7 : Go p e below A0 (T8.setTop (mkF m 253 #[.val (.ref a0), .val (.int p1), .val (.int p2), .val (.ref a3), .val (.ref a4), .val (.ref a5), .val .null, .val (.long (0 : Int64)), .second, .val .null, .val .null] [(.ref a5), (.ref a0)])) := by
    intro t k
    refine go6 t ?_
    refine st8 _ ?_
    show Steps p.tables e below (T8.setTop (mkF m 250 #[.val (.ref a0), .val (.int p1), .val (.int p2), .val (.ref a3), .val (.ref a4), .val (.ref a5), .val .null, .val (.long (0 : Int64)), .second, .val .null, .val .null] [])) _
    refine o_aloadN X8 hx hby d1_250 251 rfl rfl rfl ?_
    refine o_aload X8 hx hby d1_251 253 rfl rfl rfl ?_
    exact k
  obtain ⟨T9, h9, X9, e9, W9, st9⟩ := putF X8 hx hZ hown (host := "") (Or.inl (hw _ (List.mem_of_getElem? (i := 39) rfl))) Via.refl e8 f46 f45 (Or.inr ⟨(hw _ (List.mem_of_getElem? (i := 40) rfl)), rfl, hnm⟩) (hw _ (List.mem_of_getElem? (i := 5) rfl)) (ty := (.object "java/lang/String")) (by decide) rfl rfl (g := (mkF m 253 #[.val (.ref a0), .val (.int p1), .val (.int p2), .val (.ref a3), .val (.ref a4), .val (.ref a5), .val .null, .val (.long (0 : Int64)), .second, .val .null, .val .null] [(.ref a5), (.ref a0)])) rfl rfl (hb hby d1_253)
  have f56 : Exa Z h9 a0 "org/shardwright/model/ShardCopy" := f45.wr W9
  have f57 : Fld Z h9 a0 "org/shardwright/model/ShardCopy" "lastNodeId" "Ljava/lang/String;" .null := f47.other W9 (Or.inr (slot_ne (Or.inr (hw _ (List.mem_of_getElem? (i := 42) rfl))) (Or.inr (hw _ (List.mem_of_getElem? (i := 40) rfl))) (by decide) (t := (.object "java/lang/String")) (t' := (.object "java/lang/String")) (by decide) (by decide)))
  have f58 : Fld Z h9 a0 "org/shardwright/model/ShardCopy" "unassignedAtMillis" "J" (.long (0 : Int64)) := f48.other W9 (Or.inr (slot_ne (Or.inr (hw _ (List.mem_of_getElem? (i := 44) rfl))) (Or.inr (hw _ (List.mem_of_getElem? (i := 40) rfl))) (by decide) (t := .long) (t' := (.object "java/lang/String")) (by decide) (by decide)))
  have f59 : Fld Z h9 a0 "org/shardwright/model/ShardCopy" "replaces" "Ljava/lang/String;" .null := f49.other W9 (Or.inr (slot_ne (Or.inr (hw _ (List.mem_of_getElem? (i := 46) rfl))) (Or.inr (hw _ (List.mem_of_getElem? (i := 40) rfl))) (by decide) (t := (.object "java/lang/String")) (t' := (.object "java/lang/String")) (by decide) (by decide)))
  have f60 : Fld Z h9 a0 "org/shardwright/model/ShardCopy" "handsOverTo" "Ljava/lang/String;" .null := f50.other W9 (Or.inr (slot_ne (Or.inr (hw _ (List.mem_of_getElem? (i := 48) rfl))) (Or.inr (hw _ (List.mem_of_getElem? (i := 40) rfl))) (by decide) (t := (.object "java/lang/String")) (t' := (.object "java/lang/String")) (by decide) (by decide)))
  have f61 : Old Z n0 h9 := f51.wr W9 r1
  have f62 : Fld Z h9 a0 "org/shardwright/model/ShardCopy" "shard" "I" (.int p1) := f52.other W9 (Or.inr (slot_ne (Or.inr (hw _ (List.mem_of_getElem? (i := 32) rfl))) (Or.inr (hw _ (List.mem_of_getElem? (i := 40) rfl))) (by decide) (t := .int) (t' := (.object "java/lang/String")) (by decide) (by decide)))
  have f63 : Fld Z h9 a0 "org/shardwright/model/ShardCopy" "primary" "Z" (.int p2) := f53.other W9 (Or.inr (slot_ne (Or.inr (hw _ (List.mem_of_getElem? (i := 34) rfl))) (Or.inr (hw _ (List.mem_of_getElem? (i := 40) rfl))) (by decide) (t := .boolean) (t' := (.object "java/lang/String")) (by decide) (by decide)))
  have f64 : Fld Z h9 a0 "org/shardwright/model/ShardCopy" "state" "Lorg/shardwright/model/ShardCopy$State;" (.ref a3) := f54.other W9 (Or.inr (slot_ne (Or.inr (hw _ (List.mem_of_getElem? (i := 36) rfl))) (Or.inr (hw _ (List.mem_of_getElem? (i := 40) rfl))) (by decide) (t := (.object "org/shardwright/model/ShardCopy$State")) (t' := (.object "java/lang/String")) (by decide) (by decide)))
  have f65 : Fld Z h9 a0 "org/shardwright/model/ShardCopy" "nodeId" "Ljava/lang/String;" (.ref a4) := f55.other W9 (Or.inr (slot_ne (Or.inr (hw _ (List.mem_of_getElem? (i := 38) rfl))) (Or.inr (hw _ (List.mem_of_getElem? (i := 40) rfl))) (by decide) (t := (.object "java/lang/String")) (t' := (.object "java/lang/String")) (by decide) (by decide)))
  have Zp9 : n0 ≤ h9.size := Nat.le_trans Zp8 (Keep.of_wr W9).1
  have sk9 := Nat.le_trans sk8 (Keep.of_wr W9).1
  have K9 : Keep h0 h9 [a0] := K8.wr W9 (Or.inl (List.mem_of_getElem? (i := 0) rfl))
  have N9 := Fr.snoc X9 N8 r1
  have f66 : Fld Z h9 a0 "org/shardwright/model/ShardCopy" "allocationId" "Ljava/lang/String;" (.ref a5) := f46.same W9
  have go8 : Go p e below A0 (T9.setTop (mkF m 259 #[.val (.ref a0), .val (.int p1), .val (.int p2), .val (.ref a3), .val (.ref a4), .val (.ref a5), .val .null, .val (.long (0 : Int64)), .second, .val .null, .val .null] [.null, (.ref a0)])) := by
    intro t k
    refine go7 t ?_
    refine st9 _ ?_
    show Steps p.tables e below (T9.setTop (mkF m 256 #[.val (.ref a0), .val (.int p1), .val (.int p2), .val (.ref a3), .val (.ref a4), .val (.ref a5), .val .null, .val (.long (0 : Int64)), .second, .val .null, .val .null] [])) _
    refine o_aloadN X9 hx hby d1_256 257 rfl rfl rfl ?_
    refine o_aload X9 hx hby d1_257 259 rfl rfl rfl ?_
    exact k
  obtain ⟨T10, h10, X10, e10, W10, st10⟩ := putF X9 hx hZ hown (host := "") (Or.inl (hw _ (List.mem_of_getElem? (i := 41) rfl))) Via.refl e9 f57 f56 (Or.inr ⟨(hw _ (List.mem_of_getElem? (i := 42) rfl)), rfl, hnm⟩) (hw _ (List.mem_of_getElem? (i := 5) rfl)) (ty := (.object "java/lang/String")) (by decide) rfl rfl (g := (mkF m 259 #[.val (.ref a0), .val (.int p1), .val (.int p2), .val (.ref a3), .val (.ref a4), .val (.ref a5), .val .null, .val (.long (0 : Int64)), .second, .val .null, .val .null] [.null, (.ref a0)])) rfl rfl (hb hby d1_259)
  have f67 : Exa Z h10 a0 "org/shardwright/model/ShardCopy" := f56.wr W10
  have f68 : Fld Z h10 a0 "org/shardwright/model/ShardCopy" "unassignedAtMillis" "J" (.long (0 : Int64)) := f58.other W10 (Or.inr (slot_ne (Or.inr (hw _ (List.mem_of_getElem? (i := 44) rfl))) (Or.inr (hw _ (List.mem_of_getElem? (i := 42) rfl))) (by decide) (t := .long) (t' := (.object "java/lang/String")) (by decide) (by decide)))
  have f69 : Fld Z h10 a0 "org/shardwright/model/ShardCopy" "replaces" "Ljava/lang/String;" .null := f59.other W10 (Or.inr (slot_ne (Or.inr (hw _ (List.mem_of_getElem? (i := 46) rfl))) (Or.inr (hw _ (List.mem_of_getElem? (i := 42) rfl))) (by decide) (t := (.object "java/lang/String")) (t' := (.object "java/lang/String")) (by decide) (by decide)))
  have f70 : Fld Z h10 a0 "org/shardwright/model/ShardCopy" "handsOverTo" "Ljava/lang/String;" .null := f60.other W10 (Or.inr (slot_ne (Or.inr (hw _ (List.mem_of_getElem? (i := 48) rfl))) (Or.inr (hw _ (List.mem_of_getElem? (i := 42) rfl))) (by decide) (t := (.object "java/lang/String")) (t' := (.object "java/lang/String")) (by decide) (by decide)))
  have f71 : Old Z n0 h10 := f61.wr W10 r1
  have f72 : Fld Z h10 a0 "org/shardwright/model/ShardCopy" "shard" "I" (.int p1) := f62.other W10 (Or.inr (slot_ne (Or.inr (hw _ (List.mem_of_getElem? (i := 32) rfl))) (Or.inr (hw _ (List.mem_of_getElem? (i := 42) rfl))) (by decide) (t := .int) (t' := (.object "java/lang/String")) (by decide) (by decide)))
  have f73 : Fld Z h10 a0 "org/shardwright/model/ShardCopy" "primary" "Z" (.int p2) := f63.other W10 (Or.inr (slot_ne (Or.inr (hw _ (List.mem_of_getElem? (i := 34) rfl))) (Or.inr (hw _ (List.mem_of_getElem? (i := 42) rfl))) (by decide) (t := .boolean) (t' := (.object "java/lang/String")) (by decide) (by decide)))
  have f74 : Fld Z h10 a0 "org/shardwright/model/ShardCopy" "state" "Lorg/shardwright/model/ShardCopy$State;" (.ref a3) := f64.other W10 (Or.inr (slot_ne (Or.inr (hw _ (List.mem_of_getElem? (i := 36) rfl))) (Or.inr (hw _ (List.mem_of_getElem? (i := 42) rfl))) (by decide) (t := (.object "org/shardwright/model/ShardCopy$State")) (t' := (.object "java/lang/String")) (by decide) (by decide)))
  have f75 : Fld Z h10 a0 "org/shardwright/model/ShardCopy" "nodeId" "Ljava/lang/String;" (.ref a4) := f65.other W10 (Or.inr (slot_ne (Or.inr (hw _ (List.mem_of_getElem? (i := 38) rfl))) (Or.inr (hw _ (List.mem_of_getElem? (i := 42) rfl))) (by decide) (t := (.object "java/lang/String")) (t' := (.object "java/lang/String")) (by decide) (by decide)))
  have f76 : Fld Z h10 a0 "org/shardwright/model/ShardCopy" "allocationId" "Ljava/lang/String;" (.ref a5) := f66.other W10 (Or.inr (slot_ne (Or.inr (hw _ (List.mem_of_getElem? (i := 40) rfl))) (Or.inr (hw _ (List.mem_of_getElem? (i := 42) rfl))) (by decide) (t := (.object "java/lang/String")) (t' := (.object "java/lang/String")) (by decide) (by decide)))
  have Zp10 : n0 ≤ h10.size := Nat.le_trans Zp9 (Keep.of_wr W10).1
  have sk10 := Nat.le_trans sk9 (Keep.of_wr W10).1
  have K10 : Keep h0 h10 [a0] := K9.wr W10 (Or.inl (List.mem_of_getElem? (i := 0) rfl))
  have N10 := Fr.snoc X10 N9 r1
  have f77 : Fld Z h10 a0 "org/shardwright/model/ShardCopy" "lastNodeId" "Ljava/lang/String;" .null := f57.same W10
  have go9 : Go p e below A0 (T10.setTop (mkF m 265 #[.val (.ref a0), .val (.int p1), .val (.int p2), .val (.ref a3), .val (.ref a4), .val (.ref a5), .val .null, .val (.long (0 : Int64)), .second, .val .null, .val .null] [(.long (0 : Int64)), (.ref a0)])) := by
    intro t k
    refine go8 t ?_
    refine st10 _ ?_
    show Steps p.tables e below (T10.setTop (mkF m 262 #[.val (.ref a0), .val (.int p1), .val (.int p2), .val (.ref a3), .val (.ref a4), .val (.ref a5), .val .null, .val (.long (0 : Int64)), .second, .val .null, .val .null] [])) _
    refine o_aloadN X10 hx hby d1_262 263 rfl rfl rfl ?_
    refine o_lload X10 hx hby d1_263 265 rfl rfl ?_
    exact k
  obtain ⟨T11, h11, X11, e11, W11, st11⟩ := putF X10 hx hZ hown (host := "") (Or.inl (hw _ (List.mem_of_getElem? (i := 43) rfl))) Via.refl e10 f68 f67 (Or.inr ⟨(hw _ (List.mem_of_getElem? (i := 44) rfl)), rfl, hnm⟩) (hw _ (List.mem_of_getElem? (i := 5) rfl)) (ty := .long) (by decide) rfl rfl (g := (mkF m 265 #[.val (.ref a0), .val (.int p1), .val (.int p2), .val (.ref a3), .val (.ref a4), .val (.ref a5), .val .null, .val (.long (0 : Int64)), .second, .val .null, .val .null] [(.long (0 : Int64)), (.ref a0)])) rfl rfl (hb hby d1_265)
  have f78 : Exa Z h11 a0 "org/shardwright/model/ShardCopy" := f67.wr W11
  have f79 : Fld Z h11 a0 "org/shardwright/model/ShardCopy" "replaces" "Ljava/lang/String;" .null := f69.other W11 (Or.inr (slot_ne (Or.inr (hw _ (List.mem_of_getElem? (i := 46) rfl))) (Or.inr (hw _ (List.mem_of_getElem? (i := 44) rfl))) (by decide) (t := (.object "java/lang/String")) (t' := .long) (by decide) (by decide)))
  have f80 : Fld Z h11 a0 "org/shardwright/model/ShardCopy" "handsOverTo" "Ljava/lang/String;" .null := f70.other W11 (Or.inr (slot_ne (Or.inr (hw _ (List.mem_of_getElem? (i := 48) rfl))) (Or.inr (hw _ (List.mem_of_getElem? (i := 44) rfl))) (by decide) (t := (.object "java/lang/String")) (t' := .long) (by decide) (by decide)))
  have f81 : Old Z n0 h11 := f71.wr W11 r1
  have f82 : Fld Z h11 a0 "org/shardwright/model/ShardCopy" "shard" "I" (.int p1) := f72.other W11 (Or.inr (slot_ne (Or.inr (hw _ (List.mem_of_getElem? (i := 32) rfl))) (Or.inr (hw _ (List.mem_of_getElem? (i := 44) rfl))) (by decide) (t := .int) (t' := .long) (by decide) (by decide)))
  have f83 : Fld Z h11 a0 "org/shardwright/model/ShardCopy" "primary" "Z" (.int p2) := f73.other W11 (Or.inr (slot_ne (Or.inr (hw _ (List.mem_of_getElem? (i := 34) rfl))) (Or.inr (hw _ (List.mem_of_getElem? (i := 44) rfl))) (by decide) (t := .boolean) (t' := .long) (by decide) (by decide)))
  have f84 : Fld Z h11 a0 "org/shardwright/model/ShardCopy" "state" "Lorg/shardwright/model/ShardCopy$State;" (.ref a3) := f74.other W11 (Or.inr (slot_ne (Or.inr (hw _ (List.mem_of_getElem? (i := 36) rfl))) (Or.inr (hw _ (List.mem_of_getElem? (i := 44) rfl))) (by decide) (t := (.object "org/shardwright/model/ShardCopy$State")) (t' := .long) (by decide) (by decide)))
  have f85 : Fld Z h11 a0 "org/shardwright/model/ShardCopy" "nodeId" "Ljava/lang/String;" (.ref a4) := f75.other W11 (Or.inr (slot_ne (Or.inr (hw _ (List.mem_of_getElem? (i := 38) rfl))) (Or.inr (hw _ (List.mem_of_getElem? (i := 44) rfl))) (by decide) (t := (.object "java/lang/String")) (t' := .long) (by decide) (by decide)))
  have f86 : Fld Z h11 a0 "org/shardwright/model/ShardCopy" "allocationId" "Ljava/lang/String;" (.ref a5) := f76.other W11 (Or.inr (slot_ne (Or.inr (hw _ (List.mem_of_getElem? (i := 40) rfl))) (Or.inr (hw _ (List.mem_of_getElem? (i := 44) rfl))) (by decide) (t := (.object "java/lang/String")) (t' := .long) (by decide) (by decide)))
  have f87 : Fld Z h11 a0 "org/shardwright/model/ShardCopy" "lastNodeId" "Ljava/lang/String;" .null := f77.other W11 (Or.inr (slot_ne (Or.inr (hw _ (List.mem_of_getElem? (i := 42) rfl))) (Or.inr (hw _ (List.mem_of_getElem? (i := 44) rfl))) (by decide) (t := (.object "java/lang/String")) (t' := .long) (by decide) (by decide)))
  have Zp11 : n0 ≤ h11.size := Nat.le_trans Zp10 (Keep.of_wr W11).1
  have sk11 := Nat.le_trans sk10 (Keep.of_wr W11).1
  have K11 : Keep h0 h11 [a0] := K10.wr W11 (Or.inl (List.mem_of_getElem? (i := 0) rfl))
  have N11 := Fr.snoc X11 N10 r1
  have f88 : Fld Z h11 a0 "org/shardwright/model/ShardCopy" "unassignedAtMillis" "J" (.long (0 : Int64)) := f68.same W11
  have go10 : Go p e below A0 (T11.setTop (mkF m 271 #[.val (.ref a0), .val (.int p1), .val (.int p2), .val (.ref a3), .val (.ref a4), .val (.ref a5), .val .null, .val (.long (0 : Int64)), .second, .val .null, .val .null] [.null, (.ref a0)])) := by
    intro t k
    refine go9 t ?_
    refine st11 _ ?_
    show Steps p.tables e below (T11.setTop (mkF m 268 #[.val (.ref a0), .val (.int p1), .val (.int p2), .val (.ref a3), .val (.ref a4), .val (.ref a5), .val .null, .val (.long (0 : Int64)), .second, .val .null, .val .null] [])) _
    refine o_aloadN X11 hx hby d1_268 269 rfl rfl rfl ?_
    refine o_aload X11 hx hby d1_269 271 rfl rfl rfl ?_
    exact k
  obtain ⟨T12, h12, X12, e12, W12, st12⟩ := putF X11 hx hZ hown (host := "") (Or.inl (hw _ (List.mem_of_getElem? (i := 45) rfl))) Via.refl e11 f79 f78 (Or.inr ⟨(hw _ (List.mem_of_getElem? (i := 46) rfl)), rfl, hnm⟩) (hw _ (List.mem_of_getElem? (i := 5) rfl)) (ty := (.object "java/lang/String")) (by decide) rfl rfl (g := (mkF m 271 #[.val (.ref a0), .val (.int p1), .val (.int p2), .val (.ref a3), .val (.ref a4), .val (.ref a5), .val .null, .val (.long (0 : Int64)), .second, .val .null, .val .null] [.null, (.ref a0)])) rfl rfl (hb hby d1_271)
  have f89 : Exa Z h12 a0 "org/shardwright/model/ShardCopy" := f78.wr W12
  have f90 : Fld Z h12 a0 "org/shardwright/model/ShardCopy" "handsOverTo" "Ljava/lang/String;" .null := f80.other W12 (Or.inr (slot_ne (Or.inr (hw _ (List.mem_of_getElem? (i := 48) rfl))) (Or.inr (hw _ (List.mem_of_getElem? (i := 46) rfl))) (by decide) (t := (.object "java/lang/String")) (t' := (.object "java/lang/String")) (by decide) (by decide)))
  have f91 : Old Z n0 h12 := f81.wr W12 r1
  have f92 : Fld Z h12 a0 "org/shardwright/model/ShardCopy" "shard" "I" (.int p1) := f82.other W12 (Or.inr (slot_ne (Or.inr (hw _ (List.mem_of_getElem? (i := 32) rfl))) (Or.inr (hw _ (List.mem_of_getElem? (i := 46) rfl))) (by decide) (t := .int) (t' := (.object "java/lang/String")) (by decide) (by decide)))
  have f93 : Fld Z h12 a0 "org/shardwright/model/ShardCopy" "primary" "Z" (.int p2) := f83.other W12 (Or.inr (slot_ne (Or.inr (hw _ (List.mem_of_getElem? (i := 34) rfl))) (Or.inr (hw _ (List.mem_of_getElem? (i := 46) rfl))) (by decide) (t := .boolean) (t' := (.object "java/lang/String")) (by decide) (by decide)))
  have f94 : Fld Z h12 a0 "org/shardwright/model/ShardCopy" "state" "Lorg/shardwright/model/ShardCopy$State;" (.ref a3) := f84.other W12 (Or.inr (slot_ne (Or.inr (hw _ (List.mem_of_getElem? (i := 36) rfl))) (Or.inr (hw _ (List.mem_of_getElem? (i := 46) rfl))) (by decide) (t := (.object "org/shardwright/model/ShardCopy$State")) (t' := (.object "java/lang/String")) (by decide) (by decide)))
  have f95 : Fld Z h12 a0 "org/shardwright/model/ShardCopy" "nodeId" "Ljava/lang/String;" (.ref a4) := f85.other W12 (Or.inr (slot_ne (Or.inr (hw _ (List.mem_of_getElem? (i := 38) rfl))) (Or.inr (hw _ (List.mem_of_getElem? (i := 46) rfl))) (by decide) (t := (.object "java/lang/String")) (t' := (.object "java/lang/String")) (by decide) (by decide)))
  have f96 : Fld Z h12 a0 "org/shardwright/model/ShardCopy" "allocationId" "Ljava/lang/String;" (.ref a5) := f86.other W12 (Or.inr (slot_ne (Or.inr (hw _ (List.mem_of_getElem? (i := 40) rfl))) (Or.inr (hw _ (List.mem_of_getElem? (i := 46) rfl))) (by decide) (t := (.object "java/lang/String")) (t' := (.object "java/lang/String")) (by decide) (by decide)))
  have f97 : Fld Z h12 a0 "org/shardwright/model/ShardCopy" "lastNodeId" "Ljava/lang/String;" .null := f87.other W12 (Or.inr (slot_ne (Or.inr (hw _ (List.mem_of_getElem? (i := 42) rfl))) (Or.inr (hw _ (List.mem_of_getElem? (i := 46) rfl))) (by decide) (t := (.object "java/lang/String")) (t' := (.object "java/lang/String")) (by decide) (by decide)))
  have f98 : Fld Z h12 a0 "org/shardwright/model/ShardCopy" "unassignedAtMillis" "J" (.long (0 : Int64)) := f88.other W12 (Or.inr (slot_ne (Or.inr (hw _ (List.mem_of_getElem? (i := 44) rfl))) (Or.inr (hw _ (List.mem_of_getElem? (i := 46) rfl))) (by decide) (t := .long) (t' := (.object "java/lang/String")) (by decide) (by decide)))
  have Zp12 : n0 ≤ h12.size := Nat.le_trans Zp11 (Keep.of_wr W12).1
  have sk12 := Nat.le_trans sk11 (Keep.of_wr W12).1
  have K12 : Keep h0 h12 [a0] := K11.wr W12 (Or.inl (List.mem_of_getElem? (i := 0) rfl))
  have N12 := Fr.snoc X12 N11 r1
  have f99 : Fld Z h12 a0 "org/shardwright/model/ShardCopy" "replaces" "Ljava/lang/String;" .null := f79.same W12
  have go11 : Go p e below A0 (T12.setTop (mkF m 277 #[.val (.ref a0), .val (.int p1), .val (.int p2), .val (.ref a3), .val (.ref a4), .val (.ref a5), .val .null, .val (.long (0 : Int64)), .second, .val .null, .val .null] [.null, (.ref a0)])) := by
    intro t k
    refine go10 t ?_
    refine st12 _ ?_
    show Steps p.tables e below (T12.setTop (mkF m 274 #[.val (.ref a0), .val (.int p1), .val (.int p2), .val (.ref a3), .val (.ref a4), .val (.ref a5), .val .null, .val (.long (0 : Int64)), .second, .val .null, .val .null] [])) _
    refine o_aloadN X12 hx hby d1_274 275 rfl rfl rfl ?_
    refine o_aload X12 hx hby d1_275 277 rfl rfl rfl ?_
    exact k
  obtain ⟨T13, h13, X13, e13, W13, st13⟩ := putF X12 hx hZ hown (host := "") (Or.inl (hw _ (List.mem_of_getElem? (i := 47) rfl))) Via.refl e12 f90 f89 (Or.inr ⟨(hw _ (List.mem_of_getElem? (i := 48) rfl)), rfl, hnm⟩) (hw _ (List.mem_of_getElem? (i := 5) rfl)) (ty := (.object "java/lang/String")) (by decide) rfl rfl (g := (mkF m 277 #[.val (.ref a0), .val (.int p1), .val (.int p2), .val (.ref a3), .val (.ref a4), .val (.ref a5), .val .null, .val (.long (0 : Int64)), .second, .val .null, .val .null] [.null, (.ref a0)])) rfl rfl (hb hby d1_277)
  have f100 : Exa Z h13 a0 "org/shardwright/model/ShardCopy" := f89.wr W13
  have f101 : Old Z n0 h13 := f91.wr W13 r1
  have f102 : Fld Z h13 a0 "org/shardwright/model/ShardCopy" "shard" "I" (.int p1) := f92.other W13 (Or.inr (slot_ne (Or.inr (hw _ (List.mem_of_getElem? (i := 32) rfl))) (Or.inr (hw _ (List.mem_of_getElem? (i := 48) rfl))) (by decide) (t := .int) (t' := (.object "java/lang/String")) (by decide) (by decide)))
  have f103 : Fld Z h13 a0 "org/shardwright/model/ShardCopy" "primary" "Z" (.int p2) := f93.other W13 (Or.inr (slot_ne (Or.inr (hw _ (List.mem_of_getElem? (i := 34) rfl))) (Or.inr (hw _ (List.mem_of_getElem? (i := 48) rfl))) (by decide) (t := .boolean) (t' := (.object "java/lang/String")) (by decide) (by decide)))
  have f104 : Fld Z h13 a0 "org/shardwright/model/ShardCopy" "state" "Lorg/shardwright/model/ShardCopy$State;" (.ref a3) := f94.other W13 (Or.inr (slot_ne (Or.inr (hw _ (List.mem_of_getElem? (i := 36) rfl))) (Or.inr (hw _ (List.mem_of_getElem? (i := 48) rfl))) (by decide) (t := (.object "org/shardwright/model/ShardCopy$State")) (t' := (.object "java/lang/String")) (by decide) (by decide)))
  have f105 : Fld Z h13 a0 "org/shardwright/model/ShardCopy" "nodeId" "Ljava/lang/String;" (.ref a4) := f95.other W13 (Or.inr (slot_ne (Or.inr (hw _ (List.mem_of_getElem? (i := 38) rfl))) (Or.inr (hw _ (List.mem_of_getElem? (i := 48) rfl))) (by decide) (t := (.object "java/lang/String")) (t' := (.object "java/lang/String")) (by decide) (by decide)))
  have f106 : Fld Z h13 a0 "org/shardwright/model/ShardCopy" "allocationId" "Ljava/lang/String;" (.ref a5) := f96.other W13 (Or.inr (slot_ne (Or.inr (hw _ (List.mem_of_getElem? (i := 40) rfl))) (Or.inr (hw _ (List.mem_of_getElem? (i := 48) rfl))) (by decide) (t := (.object "java/lang/String")) (t' := (.object "java/lang/String")) (by decide) (by decide)))
  have f107 : Fld Z h13 a0 "org/shardwright/model/ShardCopy" "lastNodeId" "Ljava/lang/String;" .null := f97.other W13 (Or.inr (slot_ne (Or.inr (hw _ (List.mem_of_getElem? (i := 42) rfl))) (Or.inr (hw _ (List.mem_of_getElem? (i := 48) rfl))) (by decide) (t := (.object "java/lang/String")) (t' := (.object "java/lang/String")) (by decide) (by decide)))
  have f108 : Fld Z h13 a0 "org/shardwright/model/ShardCopy" "unassignedAtMillis" "J" (.long (0 : Int64)) := f98.other W13 (Or.inr (slot_ne (Or.inr (hw _ (List.mem_of_getElem? (i := 44) rfl))) (Or.inr (hw _ (List.mem_of_getElem? (i := 48) rfl))) (by decide) (t := .long) (t' := (.object "java/lang/String")) (by decide) (by decide)))
  have f109 : Fld Z h13 a0 "org/shardwright/model/ShardCopy" "replaces" "Ljava/lang/String;" .null := f99.other W13 (Or.inr (slot_ne (Or.inr (hw _ (List.mem_of_getElem? (i := 46) rfl))) (Or.inr (hw _ (List.mem_of_getElem? (i := 48) rfl))) (by decide) (t := (.object "java/lang/String")) (t' := (.object "java/lang/String")) (by decide) (by decide)))
  have Zp13 : n0 ≤ h13.size := Nat.le_trans Zp12 (Keep.of_wr W13).1
  have sk13 := Nat.le_trans sk12 (Keep.of_wr W13).1
  have K13 : Keep h0 h13 [a0] := K12.wr W13 (Or.inl (List.mem_of_getElem? (i := 0) rfl))
  have N13 := Fr.snoc X13 N12 r1
  have f110 : Fld Z h13 a0 "org/shardwright/model/ShardCopy" "handsOverTo" "Ljava/lang/String;" .null := f90.same W13
  have go12 : Go p e below A0 (T13.setTop (mkF m 280 #[.val (.ref a0), .val (.int p1), .val (.int p2), .val (.ref a3), .val (.ref a4), .val (.ref a5), .val .null, .val (.long (0 : Int64)), .second, .val .null, .val .null] [])) := by
    intro t k
    refine go11 t ?_
    refine st13 _ ?_
    show Steps p.tables e below (T13.setTop (mkF m 280 #[.val (.ref a0), .val (.int p1), .val (.int p2), .val (.ref a3), .val (.ref a4), .val (.ref a5), .val .null, .val (.long (0 : Int64)), .second, .val .null, .val .null] [])) _
    exact k
  subst hA0
  obtain ⟨fs, hr, hrun, hended, hRW⟩ := X13.leaveW (s := s) S2 (by rw [e13]; exact sk13) (v := none) (fun _ => rfl)
  refine ⟨_, _, go12 _ (X13.returnOut hx Bd.returns (hb hby d1_280) hr), hrun, hended, _, _, rfl, ?_, hRW.1, hRW.2.1, hRW.2.2.1, hRW.2.2.2.mono (by decide) (by decide)⟩
  show Q1C Z a0 p1 p2 a3 a4 a5 uA h0 n0 _ T13.heap _
  rw [e13]
  exact ⟨rfl, N13, K13, f109, trivial⟩
theorem ef_1D (m : MethodId) (x0 : Addr) (x1 : Int32) (x2 : Int32) (x3 : Addr) (x4 : Addr) (x5 : Addr) (x8 : Addr) : entryFrame m #[(.ref x0), (.int x1), (.int x2), (.ref x3), (.ref x4), (.ref x5), .null, (.long (0 : Int64)), (.ref x8), .null] 11 = mkF m 0 #[.val (.ref x0), .val (.int x1), .val (.int x2), .val (.ref x3), .val (.ref x4), .val (.ref x5), .val .null, .val (.long (0 : Int64)), .second, .val (.ref x8), .val .null] [] := by first | (simp [entryFrame, mkF, argsToLocals, Value.category]; done) | rfl
def Q1D (Z : State) (a0 : Addr) (p1 : Int32) (p2 : Int32) (a3 : Addr) (a4 : Addr) (a5 : Addr) (a8 : Addr) (uA : Addr) (h0 : Heap) (n0 : Nat) (v : Option Value) (h : Heap) (L : List Loc) : Prop := v = none ∧ Fr n0 L ∧ Keep h0 h [a0] ∧ Fld Z h a0 "org/shardwright/model/ShardCopy" "replaces" "Ljava/lang/String;" (.ref a8) ∧ True
set_option maxRecDepth 65536 in
set_option maxHeartbeats 40000000 in
theorem rm1D (l : Launch) (Z : State) (aw : Array Value) (hw : ∀ d ∈ tables_1, d.before aw Z = true) (ws : List Jvm.Cond) (a0 : Addr) (p1 : Int32) (p2 : Int32) (a3 : Addr) (a4 : Addr) (a5 : Addr) (a8 : Addr) (uA : Addr) (h0 : Heap) (n0 : Nat) (Z0 : n0 ≤ h0.size) (r0 : Exa Z h0 a0 "org/shardwright/model/ShardCopy") (r1 : n0 ≤ a0) (r2 : Fld Z h0 a0 "org/shardwright/model/ShardCopy" "shard" "I" (.int (0 : Int32))) (r3 : Fld Z h0 a0 "org/shardwright/model/ShardCopy" "primary" "Z" (.int (0 : Int32))) (r4 : Fld Z h0 a0 "org/shardwright/model/ShardCopy" "state" "Lorg/shardwright/model/ShardCopy$State;" .null) (r5 : Fld Z h0 a0 "org/shardwright/model/ShardCopy" "nodeId" "Ljava/lang/String;" .null) (r6 : Fld Z h0 a0 "org/shardwright/model/ShardCopy" "allocationId" "Ljava/lang/String;" .null) (r7 : Fld Z h0 a0 "org/shardwright/model/ShardCopy" "lastNodeId" "Ljava/lang/String;" .null) (r8 : Fld Z h0 a0 "org/shardwright/model/ShardCopy" "unassignedAtMillis" "J" (.long (0 : Int64))) (r9 : Fld Z h0 a0 "org/shardwright/model/ShardCopy" "replaces" "Ljava/lang/String;" .null) (r10 : Fld Z h0 a0 "org/shardwright/model/ShardCopy" "handsOverTo" "Ljava/lang/String;" .null) (r11 : Sta Z Z.heap "org/shardwright/model/ShardCopy$State" "UNASSIGNED" "Lorg/shardwright/model/ShardCopy$State;" (.ref uA)) (r12 : Old Z n0 h0) (hz2 : (p2 = 0 ∨ p2 = 1)) (hp1 : (¬ p1 < 0)) (r15 : a3 ≠ uA) (hp2 : (p2 = 0)) :
    MetFree l (⟨"org/shardwright/model/ShardCopy", "<init>", "(IZLorg/shardwright/model/ShardCopy$State;Ljava/lang/String;Ljava/lang/String;Ljava/lang/String;JLjava/lang/String;Ljava/lang/String;)V"⟩ : MethodName) (head1 (Jvm.Cond.code (⟨"org/shardwright/model/ShardCopy", "<init>", "(IZLorg/shardwright/model/ShardCopy$State;Ljava/lang/String;Ljava/lang/String;Ljava/lang/String;JLjava/lang/String;Ljava/lang/String;)V"⟩ : MethodName) prog_33_method_1_code 11 none :: ws) ({ frames := 2, cells := 2, slots := 24, locals := 24 } : Room)) (fun a U => a = #[(.ref a0), (.int p1), (.int p2), (.ref a3), (.ref a4), (.ref a5), .null, (.long (0 : Int64)), (.ref a8), .null] ∧ Z.Warmed39 U.vm ∧ U.heap = h0) (fun _ _ _ _ _ => True) (fun _ U o U' => ∃ v L, o = .returned v ∧ Q1D Z a0 p1 p2 a3 a4 a5 a8 uA h0 n0 v U'.heap L ∧ ReturnedEndW U o U' L ({ frames := 2, cells := 2, slots := 24, locals := 24 } : Room).cells ({ frames := 2, cells := 2, slots := 24, locals := 24 } : Room).slots) := by
  refine MetFree.of_bodySF (plainFor_of_name pn_1) hisR ?_
  intro p e s m args below meth c s₁ Bd hml0 hP hK
  obtain ⟨rfl, hZ, hh⟩ := hP
  have hx := Bd.exec
  have hby := Bd.bytes
  have hml : c.maxLocals = 11 := hml0
  have hown : s.vm.findClass "org/shardwright/model/ShardCopy" = some m.cls := findClass_of_methodNamed Bd.named
  have hnm := (name_of_methodNamed Bd.named Bd.method).1
  have X0 : Stand p l e ({ frames := 2, cells := 2, slots := 24, locals := 24 } : Room) s m #[(.ref a0), (.int p1), (.int p2), (.ref a3), (.ref a4), (.ref a5), .null, (.long (0 : Int64)), (.ref a8), .null] below meth c s₁ [] 0 0 := Stand.of_body Bd
  have e0 : s₁.heap = h0 := by rw [← hh, Bd.state]; rfl
  have N0 := Fr.nil n0
  obtain ⟨A0, hA0⟩ : ∃ A0, A0 = s₁.setTop (entryFrame m #[(.ref a0), (.int p1), (.int p2), (.ref a3), (.ref a4), (.ref a5), .null, (.long (0 : Int64)), (.ref a8), .null] 11) := ⟨_, rfl⟩
  have go0 : Go p e below A0 (s₁.setTop (mkF m 0 #[.val (.ref a0), .val (.int p1), .val (.int p2), .val (.ref a3), .val (.ref a4), .val (.ref a5), .val .null, .val (.long (0 : Int64)), .second, .val (.ref a8), .val .null] [])) := fun t k => by rw [hA0]; exact castTop (ef_1D m a0 p1 p2 a3 a4 a5 a8) k
  obtain ⟨_, _, ⟨T1, L1, k1, n1⟩, -, X1, ⟨Lc1, hQ1, l1, y1, z1⟩, st1⟩ := X0.specialBack hx (y := (⟨"java/lang/Record", "<init>", "()V"⟩ : MethodName)) rfl hown (mvT hZ (hw _ (List.mem_of_getElem? (i := 10) rfl))) (mvT hZ (hw _ (List.mem_of_getElem? (i := 11) rfl))) (mvT hZ (hw _ (List.mem_of_getElem? (i := 14) rfl))) (by decide) (backOf (W := 0) (rm2 l Z aw hw [] a0 h0 n0 Z0 ) hZ (hw _ (List.mem_of_getElem? (i := 14) rfl)) (hw _ (List.mem_of_getElem? (i := 13) rfl)) (by decide) (by decide)) (g := (mkF m 1 #[.val (.ref a0), .val (.int p1), .val (.int p2), .val (.ref a3), .val (.ref a4), .val (.ref a5), .val .null, .val (.long (0 : Int64)), .second, .val (.ref a8), .val .null] [(.ref a0)])) rfl (by rw [hml]; rfl) (Steps.refl _) (a := a0) (argsL := []) (rest := []) (lenOf pd_8 rfl) rfl (by show 2 * 0 + _ ≤ _; exact Nat.le_of_eq rfl) (hb hby d1_1) (fun _ _ => ⟨rfl, e0, (by decide : 0 + 0 ≤ _), (by decide : 0 + 0 ≤ _)⟩)
  dsimp only [Pt.U, Pt.locs, Pt.cells, Pt.slots] at X1 l1 y1 z1 st1 hQ1
  subst l1 y1 z1
  obtain ⟨rfl, N1q, e1⟩ := hQ1
  have N1 := Fr.app N0 N1q
  have hwS2 : ∀ d ∈ Bundle.stringAtoms, d.before aw Z = true := fun d hd => hw d ((by decide +kernel : ∀ d ∈ Bundle.stringAtoms, d ∈ tables_1) d hd)
  obtain ⟨a2, T2, h2, k2, X2, e2, E2, S2, sk2, hZ, hown, st2⟩ := ldcS (s := s) (vm0 := s.vm) X1 hx hZ hown (hw _ (List.mem_of_getElem? (i := 18) rfl)) hwS2 e1 ((State.WarmedH.refl s).since 0) (Nat.zero_le _) (g := (mkF m 5 #[.val (.ref a0), .val (.int p1), .val (.int p2), .val (.ref a3), .val (.ref a4), .val (.ref a5), .val .null, .val (.long (0 : Int64)), .second, .val (.ref a8), .val .null] [(.ref a3)])) rfl (hb hby d1_5) (n := 20) (by decide) (by decide) (by decide) (by decide)
  have f1 : Exa Z h2 a0 "org/shardwright/model/ShardCopy" := r0.ext E2
  have f2 : Fld Z h2 a0 "org/shardwright/model/ShardCopy" "shard" "I" (.int (0 : Int32)) := r2.ext E2
  have f3 : Fld Z h2 a0 "org/shardwright/model/ShardCopy" "primary" "Z" (.int (0 : Int32)) := r3.ext E2
  have f4 : Fld Z h2 a0 "org/shardwright/model/ShardCopy" "state" "Lorg/shardwright/model/ShardCopy$State;" .null := r4.ext E2
  have f5 : Fld Z h2 a0 "org/shardwright/model/ShardCopy" "nodeId" "Ljava/lang/String;" .null := r5.ext E2
  have f6 : Fld Z h2 a0 "org/shardwright/model/ShardCopy" "allocationId" "Ljava/lang/String;" .null := r6.ext E2
  have f7 : Fld Z h2 a0 "org/shardwright/model/ShardCopy" "lastNodeId" "Ljava/lang/String;" .null := r7.ext E2
  have f8 : Fld Z h2 a0 "org/shardwright/model/ShardCopy" "unassignedAtMillis" "J" (.long (0 : Int64)) := r8.ext E2
  have f9 : Fld Z h2 a0 "org/shardwright/model/ShardCopy" "replaces" "Ljava/lang/String;" .null := r9.ext E2
  have f10 : Fld Z h2 a0 "org/shardwright/model/ShardCopy" "handsOverTo" "Ljava/lang/String;" .null := r10.ext E2
  have f11 : Old Z n0 h2 := r12.ext E2
  have Zp2 : n0 ≤ h2.size := Nat.le_trans Z0 E2.1
  have K2 : Keep h0 h2 [a0] := (Keep.refl h0 [a0]).ext E2
  have go1 : Go p e below A0 (T2.setTop (mkF m 7 #[.val (.ref a0), .val (.int p1), .val (.int p2), .val (.ref a3), .val (.ref a4), .val (.ref a5), .val .null, .val (.long (0 : Int64)), .second, .val (.ref a8), .val .null] [(.ref a2), (.ref a3)])) := by
    intro t k
    refine go0 t ?_
    refine o_aloadN X0 hx hby d1_0 1 rfl rfl rfl ?_
    refine st1.trans ?_
    show Steps p.tables e below (T1.setTop (mkF m 4 #[.val (.ref a0), .val (.int p1), .val (.int p2), .val (.ref a3), .val (.ref a4), .val (.ref a5), .val .null, .val (.long (0 : Int64)), .second, .val (.ref a8), .val .null] [])) _
    refine o_aloadN X1 hx hby d1_4 5 rfl rfl rfl ?_
    refine st2 _ ?_
    show Steps p.tables e below (T2.setTop (mkF m 7 #[.val (.ref a0), .val (.int p1), .val (.int p2), .val (.ref a3), .val (.ref a4), .val (.ref a5), .val .null, .val (.long (0 : Int64)), .second, .val (.ref a8), .val .null] [(.ref a2), (.ref a3)])) _
    exact k
  obtain ⟨_, _, ⟨T3, L3, k3, n3⟩, -, X3, ⟨Lc3, hQ3, l3, y3, z3⟩, st3⟩ := Jvm.LawKit.callS X2 hx (y := (⟨"java/util/Objects", "requireNonNull", "(Ljava/lang/Object;Ljava/lang/String;)Ljava/lang/Object;"⟩ : MethodName)) hown (mvT hZ (hw _ (List.mem_of_getElem? (i := 26) rfl))) (mvT hZ (hw _ (List.mem_of_getElem? (i := 27) rfl))) (mvT hZ (hw _ (List.mem_of_getElem? (i := 28) rfl))) (mvT hZ (hw _ (List.mem_of_getElem? (i := 29) rfl))) (by decide) (backOf (W := 0) (rm4 l Z aw hw [] a3 a2 h2 n0 Zp2 ) hZ (hw _ (List.mem_of_getElem? (i := 29) rfl)) (hw _ (List.mem_of_getElem? (i := 28) rfl)) (by decide) (by decide)) (g := (mkF m 7 #[.val (.ref a0), .val (.int p1), .val (.int p2), .val (.ref a3), .val (.ref a4), .val (.ref a5), .val .null, .val (.long (0 : Int64)), .second, .val (.ref a8), .val .null] [(.ref a2), (.ref a3)])) rfl (by rw [hml]; rfl) (argsL := [(.ref a3), (.ref a2)]) (rest := []) (lenOf pd_9 rfl) rfl (by show 2 * 0 + _ ≤ _; exact Nat.le_of_eq rfl) (hb hby d1_7) (fun _ _ => ⟨rfl, e2, (by decide : 2 + 0 ≤ _), (by decide : 24 + 0 ≤ _)⟩)
  dsimp only [Pt.U, Pt.locs, Pt.cells, Pt.slots] at X3 l3 y3 z3 st3 hQ3
  subst l3 y3 z3
  obtain ⟨rfl, N3q, e3⟩ := hQ3
  have N3 := Fr.app N1 N3q
  have go2 : Go p e below A0 (T3.setTop (mkF m 10 #[.val (.ref a0), .val (.int p1), .val (.int p2), .val (.ref a3), .val (.ref a4), .val (.ref a5), .val .null, .val (.long (0 : Int64)), .second, .val (.ref a8), .val .null] [(.ref a3)])) := by
    intro t k
    refine go1 t ?_
    refine st3 _ ?_
    show Steps p.tables e below (T3.setTop (mkF m 10 #[.val (.ref a0), .val (.int p1), .val (.int p2), .val (.ref a3), .val (.ref a4), .val (.ref a5), .val .null, .val (.long (0 : Int64)), .second, .val (.ref a8), .val .null] [(.ref a3)])) _
    exact k
  obtain ⟨T4, X4, e4, st4⟩ := getS2 X3 hx hZ hown (host := "") (Or.inl (hw _ (List.mem_of_getElem? (i := 30) rfl))) Via.refl e3 (r11.ext f11.2) (g := (mkF m 30 #[.val (.ref a0), .val (.int p1), .val (.int p2), .val (.ref a3), .val (.ref a4), .val (.ref a5), .val .null, .val (.long (0 : Int64)), .second, .val (.ref a8), .val .null] [(.ref a3)])) rfl (hb hby d1_30)
  obtain ⟨T5, X5, e5, st5⟩ := getS2 X4 hx hZ hown (host := "") (Or.inl (hw _ (List.mem_of_getElem? (i := 30) rfl))) Via.refl e4 (r11.ext f11.2) (g := (mkF m 175 #[.val (.ref a0), .val (.int p1), .val (.int p2), .val (.ref a3), .val (.ref a4), .val (.ref a5), .val .null, .val (.long (0 : Int64)), .second, .val (.ref a8), .val .null] [(.ref a3)])) rfl (hb hby d1_175)
  have go3 : Go p e below A0 (T5.setTop (mkF m 231 #[.val (.ref a0), .val (.int p1), .val (.int p2), .val (.ref a3), .val (.ref a4), .val (.ref a5), .val .null, .val (.long (0 : Int64)), .second, .val (.ref a8), .val .null] [(.int p1), (.ref a0)])) := by
    intro t k
    refine go2 t ?_
    refine o_pop X3 hx hby d1_10 11 rfl rfl ?_
    refine o_iloadN X3 hx hby d1_11 12 rfl rfl ?_
    refine o_ifY X3 hx hby d1_12 29 rfl (flt (hp1)).2.1 ?_
    refine o_aloadN X3 hx hby d1_29 30 rfl rfl rfl ?_
    refine st4 _ ?_
    show Steps p.tables e below (T4.setTop (mkF m 33 #[.val (.ref a0), .val (.int p1), .val (.int p2), .val (.ref a3), .val (.ref a4), .val (.ref a5), .val .null, .val (.long (0 : Int64)), .second, .val (.ref a8), .val .null] [(.ref uA), (.ref a3)])) _
    refine o_acmp X4 hx hby d1_33 40 (same := false) rfl rfl (decide_eq_false (fun h => r15 (Value.ref.inj h))) (by decide) (by decide) ?_
    refine o_iconst X4 hx hby d1_40 41 rfl (v := (0 : Int32)) rfl ?_
    refine o_aload X4 hx hby d1_41 43 rfl rfl rfl ?_
    refine o_ifnonnullY X4 hx hby d1_43 50 rfl ?_
    refine o_iconst X4 hx hby d1_50 51 rfl (v := (0 : Int32)) rfl ?_
    refine o_icmpN X4 hx hby d1_51 54 rfl (teq (show (0 : Int32) = (0 : Int32) by decide)).2 ?_
    refine o_aload X4 hx hby d1_54 56 rfl rfl rfl ?_
    refine o_ifnonnullY X4 hx hby d1_56 63 rfl ?_
    refine o_iconst X4 hx hby d1_63 64 rfl (v := (0 : Int32)) rfl ?_
    refine o_aload X4 hx hby d1_64 66 rfl rfl rfl ?_
    refine o_ifnonnullY X4 hx hby d1_66 73 rfl ?_
    refine o_iconst X4 hx hby d1_73 74 rfl (v := (0 : Int32)) rfl ?_
    refine o_icmpY X4 hx hby d1_74 98 rfl (teq (show (0 : Int32) = (0 : Int32) by decide)).1 ?_
    refine o_aload X4 hx hby d1_98 100 rfl rfl rfl ?_
    refine o_ifnullY X4 hx hby d1_100 114 rfl ?_
    refine o_lload X4 hx hby d1_114 116 rfl rfl ?_
    refine o_lconst X4 hx hby d1_116 117 rfl (v := (0 : Int64)) rfl ?_
    refine o_lcmp X4 hx hby d1_117 118 rfl ?_
    refine o_ifY X4 hx hby d1_118 126 rfl (teq ((lw_eq (0 : Int64) (0 : Int64)).mpr (show (0 : Int64) = (0 : Int64) by decide))).1 ?_
    refine o_lload X4 hx hby d1_126 128 rfl rfl ?_
    refine o_lconst X4 hx hby d1_128 129 rfl (v := (0 : Int64)) rfl ?_
    refine o_lcmp X4 hx hby d1_129 130 rfl ?_
    refine o_ifY X4 hx hby d1_130 165 rfl (flt (fun q => (show ¬ ((0 : Int64) < (0 : Int64)) by decide) ((lw_lt (0 : Int64) (0 : Int64)).mp q))).2.1 ?_
    refine o_aload X4 hx hby d1_165 167 rfl rfl rfl ?_
    refine o_ifnullN X4 hx hby d1_167 170 rfl ?_
    refine o_iloadN X4 hx hby d1_170 171 rfl rfl ?_
    refine o_ifN X4 hx hby d1_171 174 rfl (teq (hp2)).2 ?_
    refine o_aloadN X4 hx hby d1_174 175 rfl rfl rfl ?_
    refine st5 _ ?_
    show Steps p.tables e below (T5.setTop (mkF m 178 #[.val (.ref a0), .val (.int p1), .val (.int p2), .val (.ref a3), .val (.ref a4), .val (.ref a5), .val .null, .val (.long (0 : Int64)), .second, .val (.ref a8), .val .null] [(.ref uA), (.ref a3)])) _
    refine o_acmp X5 hx hby d1_178 181 (same := false) rfl rfl (decide_eq_false (fun h => r15 (Value.ref.inj h))) (by decide) (by decide) ?_
    refine o_aload X5 hx hby d1_181 183 rfl rfl rfl ?_
    refine o_ifnullY X5 hx hby d1_183 229 rfl ?_
    refine o_aloadN X5 hx hby d1_229 230 rfl rfl rfl ?_
    refine o_iloadN X5 hx hby d1_230 231 rfl rfl ?_
    exact k
  obtain ⟨T6, h6, X6, e6, W6, st6⟩ := putF X5 hx hZ hown (host := "") (Or.inl (hw _ (List.mem_of_getElem? (i := 31) rfl))) Via.refl e5 f2 f1 (Or.inr ⟨(hw _ (List.mem_of_getElem? (i := 32) rfl)), rfl, hnm⟩) (hw _ (List.mem_of_getElem? (i := 5) rfl)) (ty := .int) (by decide) rfl rfl (g := (mkF m 231 #[.val (.ref a0), .val (.int p1), .val (.int p2), .val (.ref a3), .val (.ref a4), .val (.ref a5), .val .null, .val (.long (0 : Int64)), .second, .val (.ref a8), .val .null] [(.int p1), (.ref a0)])) rfl rfl (hb hby d1_231)
  have f12 : Exa Z h6 a0 "org/shardwright/model/ShardCopy" := f1.wr W6
  have f13 : Fld Z h6 a0 "org/shardwright/model/ShardCopy" "primary" "Z" (.int (0 : Int32)) := f3.other W6 (Or.inr (slot_ne (Or.inr (hw _ (List.mem_of_getElem? (i := 34) rfl))) (Or.inr (hw _ (List.mem_of_getElem? (i := 32) rfl))) (by decide) (t := .boolean) (t' := .int) (by decide) (by decide)))
  have f14 : Fld Z h6 a0 "org/shardwright/model/ShardCopy" "state" "Lorg/shardwright/model/ShardCopy$State;" .null := f4.other W6 (Or.inr (slot_ne (Or.inr (hw _ (List.mem_of_getElem? (i := 36) rfl))) (Or.inr (hw _ (List.mem_of_getElem? (i := 32) rfl))) (by decide) (t := (.object "org/shardwright/model/ShardCopy$State")) (t' := .int) (by decide) (by decide)))
  have f15 : Fld Z h6 a0 "org/shardwright/model/ShardCopy" "nodeId" "Ljava/lang/String;" .null := f5.other W6 (Or.inr (slot_ne (Or.inr (hw _ (List.mem_of_getElem? (i := 38) rfl))) (Or.inr (hw _ (List.mem_of_getElem? (i := 32) rfl))) (by decide) (t := (.object "java/lang/String")) (t' := .int) (by decide) (by decide)))
  have f16 : Fld Z h6 a0 "org/shardwright/model/ShardCopy" "allocationId" "Ljava/lang/String;" .null := f6.other W6 (Or.inr (slot_ne (Or.inr (hw _ (List.mem_of_getElem? (i := 40) rfl))) (Or.inr (hw _ (List.mem_of_getElem? (i := 32) rfl))) (by decide) (t := (.object "java/lang/String")) (t' := .int) (by decide) (by decide)))
  have f17 : Fld Z h6 a0 "org/shardwright/model/ShardCopy" "lastNodeId" "Ljava/lang/String;" .null := f7.other W6 (Or.inr (slot_ne (Or.inr (hw _ (List.mem_of_getElem? (i := 42) rfl))) (Or.inr (hw _ (List.mem_of_getElem? (i := 32) rfl))) (by decide) (t := (.object "java/lang/String")) (t' := .int) (by decide) (by decide)))
  have f18 : Fld Z h6 a0 "org/shardwright/model/ShardCopy" "unassignedAtMillis" "J" (.long (0 : Int64)) := f8.other W6 (Or.inr (slot_ne (Or.inr (hw _ (List.mem_of_getElem? (i := 44) rfl))) (Or.inr (hw _ (List.mem_of_getElem? (i := 32) rfl))) (by decide) (t := .long) (t' := .int) (by decide) (by decide)))
  have f19 : Fld Z h6 a0 "org/shardwright/model/ShardCopy" "replaces" "Ljava/lang/String;" .null := f9.other W6 (Or.inr (slot_ne (Or.inr (hw _ (List.mem_of_getElem? (i := 46) rfl))) (Or.inr (hw _ (List.mem_of_getElem? (i := 32) rfl))) (by decide) (t := (.object "java/lang/String")) (t' := .int) (by decide) (by decide)))
  have f20 : Fld Z h6 a0 "org/shardwright/model/ShardCopy" "handsOverTo" "Ljava/lang/String;" .null := f10.other W6 (Or.inr (slot_ne (Or.inr (hw _ (List.mem_of_getElem? (i := 48) rfl))) (Or.inr (hw _ (List.mem_of_getElem? (i := 32) rfl))) (by decide) (t := (.object "java/lang/String")) (t' := .int) (by decide) (by decide)))
  have f21 : Old Z n0 h6 := f11.wr W6 r1
  have Zp6 : n0 ≤ h6.size := Nat.le_trans Zp2 (Keep.of_wr W6).1
  have sk6 := Nat.le_trans sk2 (Keep.of_wr W6).1
  have K6 : Keep h0 h6 [a0] := K2.wr W6 (Or.inl (List.mem_of_getElem? (i := 0) rfl))
  have N6 := Fr.snoc X6 N3 r1
  have f22 : Fld Z h6 a0 "org/shardwright/model/ShardCopy" "shard" "I" (.int p1) := f2.same W6
  have go4 : Go p e below A0 (T6.setTop (mkF m 236 #[.val (.ref a0), .val (.int p1), .val (.int p2), .val (.ref a3), .val (.ref a4), .val (.ref a5), .val .null, .val (.long (0 : Int64)), .second, .val (.ref a8), .val .null] [(.int p2), (.ref a0)])) := by
    intro t k
    refine go3 t ?_
    refine st6 _ ?_
    show Steps p.tables e below (T6.setTop (mkF m 234 #[.val (.ref a0), .val (.int p1), .val (.int p2), .val (.ref a3), .val (.ref a4), .val (.ref a5), .val .null, .val (.long (0 : Int64)), .second, .val (.ref a8), .val .null] [])) _
    refine o_aloadN X6 hx hby d1_234 235 rfl rfl rfl ?_
    refine o_iloadN X6 hx hby d1_235 236 rfl rfl ?_
    exact k
  obtain ⟨T7, h7, X7, e7, W7, st7⟩ := putFN X6 hx hZ hown (hw _ (List.mem_of_getElem? (i := 33) rfl)) Via.refl e6 f13 f12 (Or.inr ⟨(hw _ (List.mem_of_getElem? (i := 34) rfl)), rfl, hnm⟩) (hw _ (List.mem_of_getElem? (i := 5) rfl)) (ty := .boolean) (v' := (.int p2)) (by decide) (o_nf hz2).1 (o_nf hz2).2 (g := (mkF m 236 #[.val (.ref a0), .val (.int p1), .val (.int p2), .val (.ref a3), .val (.ref a4), .val (.ref a5), .val .null, .val (.long (0 : Int64)), .second, .val (.ref a8), .val .null] [(.int p2), (.ref a0)])) rfl rfl (hb hby d1_236)
  have f23 : Exa Z h7 a0 "org/shardwright/model/ShardCopy" := f12.wr W7
  have f24 : Fld Z h7 a0 "org/shardwright/model/ShardCopy" "state" "Lorg/shardwright/model/ShardCopy$State;" .null := f14.other W7 (Or.inr (slot_ne (Or.inr (hw _ (List.mem_of_getElem? (i := 36) rfl))) (Or.inr (hw _ (List.mem_of_getElem? (i := 34) rfl))) (by decide) (t := (.object "org/shardwright/model/ShardCopy$State")) (t' := .boolean) (by decide) (by decide)))
  have f25 : Fld Z h7 a0 "org/shardwright/model/ShardCopy" "nodeId" "Ljava/lang/String;" .null := f15.other W7 (Or.inr (slot_ne (Or.inr (hw _ (List.mem_of_getElem? (i := 38) rfl))) (Or.inr (hw _ (List.mem_of_getElem? (i := 34) rfl))) (by decide) (t := (.object "java/lang/String")) (t' := .boolean) (by decide) (by decide)))
  have f26 : Fld Z h7 a0 "org/shardwright/model/ShardCopy" "allocationId" "Ljava/lang/String;" .null := f16.other W7 (Or.inr (slot_ne (Or.inr (hw _ (List.mem_of_getElem? (i := 40) rfl))) (Or.inr (hw _ (List.mem_of_getElem? (i := 34) rfl))) (by decide) (t := (.object "java/lang/String")) (t' := .boolean) (by decide) (by decide)))
  have f27 : Fld Z h7 a0 "org/shardwright/model/ShardCopy" "lastNodeId" "Ljava/lang/String;" .null := f17.other W7 (Or.inr (slot_ne (Or.inr (hw _ (List.mem_of_getElem? (i := 42) rfl))) (Or.inr (hw _ (List.mem_of_getElem? (i := 34) rfl))) (by decide) (t := (.object "java/lang/String")) (t' := .boolean) (by decide) (by decide)))
  have f28 : Fld Z h7 a0 "org/shardwright/model/ShardCopy" "unassignedAtMillis" "J" (.long (0 : Int64)) := f18.other W7 (Or.inr (slot_ne (Or.inr (hw _ (List.mem_of_getElem? (i := 44) rfl))) (Or.inr (hw _ (List.mem_of_getElem? (i := 34) rfl))) (by decide) (t := .long) (t' := .boolean) (by decide) (by decide)))
  have f29 : Fld Z h7 a0 "org/shardwright/model/ShardCopy" "replaces" "Ljava/lang/String;" .null := f19.other W7 (Or.inr (slot_ne (Or.inr (hw _ (List.mem_of_getElem? (i := 46) rfl))) (Or.inr (hw _ (List.mem_of_getElem? (i := 34) rfl))) (by decide) (t := (.object "java/lang/String")) (t' := .boolean) (by decide) (by decide)))
  have f30 : Fld Z h7 a0 "org/shardwright/model/ShardCopy" "handsOverTo" "Ljava/lang/String;" .null := f20.other W7 (Or.inr (slot_ne (Or.inr (hw _ (List.mem_of_getElem? (i := 48) rfl))) (Or.inr (hw _ (List.mem_of_getElem? (i := 34) rfl))) (by decide) (t := (.object "java/lang/String")) (t' := .boolean) (by decide) (by decide)))
  have f31 : Old Z n0 h7 := f21.wr W7 r1
  have f32 : Fld Z h7 a0 "org/shardwright/model/ShardCopy" "shard" "I" (.int p1) := f22.other W7 (Or.inr (slot_ne (Or.inr (hw _ (List.mem_of_getElem? (i := 32) rfl))) (Or.inr (hw _ (List.mem_of_getElem? (i := 34) rfl))) (by decide) (t := .int) (t' := .boolean) (by decide) (by decide)))
  have Zp7 : n0 ≤ h7.size := Nat.le_trans Zp6 (Keep.of_wr W7).1
  have sk7 := Nat.le_trans sk6 (Keep.of_wr W7).1
  have K7 : Keep h0 h7 [a0] := K6.wr W7 (Or.inl (List.mem_of_getElem? (i := 0) rfl))
  have N7 := Fr.snoc X7 N6 r1
  have f33 : Fld Z h7 a0 "org/shardwright/model/ShardCopy" "primary" "Z" (.int p2) := f13.same W7
  have go5 : Go p e below A0 (T7.setTop (mkF m 241 #[.val (.ref a0), .val (.int p1), .val (.int p2), .val (.ref a3), .val (.ref a4), .val (.ref a5), .val .null, .val (.long (0 : Int64)), .second, .val (.ref a8), .val .null] [(.ref a3), (.ref a0)])) := by
    intro t k
    refine go4 t ?_
    refine st7 _ ?_
    show Steps p.tables e below (T7.setTop (mkF m 239 #[.val (.ref a0), .val (.int p1), .val (.int p2), .val (.ref a3), .val (.ref a4), .val (.ref a5), .val .null, .val (.long (0 : Int64)), .second, .val (.ref a8), .val .null] [])) _
    refine o_aloadN X7 hx hby d1_239 240 rfl rfl rfl ?_
    refine o_aloadN X7 hx hby d1_240 241 rfl rfl rfl ?_
    exact k
  obtain ⟨T8, h8, X8, e8, W8, st8⟩ := putF X7 hx hZ hown (host := "") (Or.inl (hw _ (List.mem_of_getElem? (i := 35) rfl))) Via.refl e7 f24 f23 (Or.inr ⟨(hw _ (List.mem_of_getElem? (i := 36) rfl)), rfl, hnm⟩) (hw _ (List.mem_of_getElem? (i := 5) rfl)) (ty := (.object "org/shardwright/model/ShardCopy$State")) (by decide) rfl rfl (g := (mkF m 241 #[.val (.ref a0), .val (.int p1), .val (.int p2), .val (.ref a3), .val (.ref a4), .val (.ref a5), .val .null, .val (.long (0 : Int64)), .second, .val (.ref a8), .val .null] [(.ref a3), (.ref a0)])) rfl rfl (hb hby d1_241)
  have f34 : Exa Z h8 a0 "org/shardwright/model/ShardCopy" := f23.wr W8
  have f35 : Fld Z h8 a0 "org/shardwright/model/ShardCopy" "nodeId" "Ljava/lang/String;" .null := f25.other W8 (Or.inr (slot_ne (Or.inr (hw _ (List.mem_of_getElem? (i := 38) rfl))) (Or.inr (hw _ (List.mem_of_getElem? (i := 36) rfl))) (by decide) (t := (.object "java/lang/String")) (t' := (.object "org/shardwright/model/ShardCopy$State")) (by decide) (by decide)))
  have f36 : Fld Z h8 a0 "org/shardwright/model/ShardCopy" "allocationId" "Ljava/lang/String;" .null := f26.other W8 (Or.inr (slot_ne (Or.inr (hw _ (List.mem_of_getElem? (i := 40) rfl))) (Or.inr (hw _ (List.mem_of_getElem? (i := 36) rfl))) (by decide) (t := (.object "java/lang/String")) (t' := (.object "org/shardwright/model/ShardCopy$State")) (by decide) (by decide)))
  have f37 : Fld Z h8 a0 "org/shardwright/model/ShardCopy" "lastNodeId" "Ljava/lang/String;" .null := f27.other W8 (Or.inr (slot_ne (Or.inr (hw _ (List.mem_of_getElem? (i := 42) rfl))) (Or.inr (hw _ (List.mem_of_getElem? (i := 36) rfl))) (by decide) (t := (.object "java/lang/String")) (t' := (.object "org/shardwright/model/ShardCopy$State")) (by decide) (by decide)))
  have f38 : Fld Z h8 a0 "org/shardwright/model/ShardCopy" "unassignedAtMillis" "J" (.long (0 : Int64)) := f28.other W8 (Or.inr (slot_ne (Or.inr (hw _ (List.mem_of_getElem? (i := 44) rfl))) (Or.inr (hw _ (List.mem_of_getElem? (i := 36) rfl))) (by decide) (t := .long) (t' := (.object "org/shardwright/model/ShardCopy$State")) (by decide) (by decide)))
  have f39 : Fld Z h8 a0 "org/shardwright/model/ShardCopy" "replaces" "Ljava/lang/String;" .null := f29.other W8 (Or.inr (slot_ne (Or.inr (hw _ (List.mem_of_getElem? (i := 46) rfl))) (Or.inr (hw _ (List.mem_of_getElem? (i := 36) rfl))) (by decide) (t := (.object "java/lang/String")) (t' := (.object "org/shardwright/model/ShardCopy$State")) (by decide) (by decide)))
  have f40 : Fld Z h8 a0 "org/shardwright/model/ShardCopy" "handsOverTo" "Ljava/lang/String;" .null := f30.other W8 (Or.inr (slot_ne (Or.inr (hw _ (List.mem_of_getElem? (i := 48) rfl))) (Or.inr (hw _ (List.mem_of_getElem? (i := 36) rfl))) (by decide) (t := (.object "java/lang/String")) (t' := (.object "org/shardwright/model/ShardCopy$State")) (by decide) (by decide)))
  have f41 : Old Z n0 h8 := f31.wr W8 r1
  have f42 : Fld Z h8 a0 "org/shardwright/model/ShardCopy" "shard" "I" (.int p1) := f32.other W8 (Or.inr (slot_ne (Or.inr (hw _ (List.mem_of_getElem? (i := 32) rfl))) (Or.inr (hw _ (List.mem_of_getElem? (i := 36) rfl))) (by decide) (t := .int) (t' := (.object "org/shardwright/model/ShardCopy$State")) (by decide) (by decide)))
  have f43 : Fld Z h8 a0 "org/shardwright/model/ShardCopy" "primary" "Z" (.int p2) := f33.other W8 (Or.inr (slot_ne (Or.inr (hw _ (List.mem_of_getElem? (i := 34) rfl))) (Or.inr (hw _ (List.mem_of_getElem? (i := 36) rfl))) (by decide) (t := .boolean) (t' := (.object "org/shardwright/model/ShardCopy$State")) (by decide) (by decide)))
  have Zp8 : n0 ≤ h8.size := Nat.le_trans Zp7 (Keep.of_wr W8).1
  have sk8 := Nat.le_trans sk7 (Keep.of_wr W8).1
  have K8 : Keep h0 h8 [a0] := K7.wr W8 (Or.inl (List.mem_of_getElem? (i := 0) rfl))
  have N8 := Fr.snoc X8 N7 r1
  have f44 : Fld Z h8 a0 "org/shardwright/model/ShardCopy" "state" "Lorg/shardwright/model/ShardCopy$State;" (.ref a3) := f24.same W8
  have go6 : Go p e below A0 (T8.setTop (mkF m 247 #[.val (.ref a0), .val (.int p1), .val (.int p2), .val (.ref a3), .val (.ref a4), .val (.ref a5), .val .null, .val (.long (0 : Int64)), .second, .val (.ref a8), .val .null] [(.ref a4), (.ref a0)])) := by
    intro t k
    refine go5 t ?_
    refine st8 _ ?_
    show Steps p.tables e below (T8.setTop (mkF m 244 #[.val (.ref a0), .val (.int p1), .val (.int p2), .val (.ref a3), .val (.ref a4), .val (.ref a5), .val .null, .val (.long (0 : Int64)), .second, .val (.ref a8), .val .null] [])) _
    refine o_aloadN X8 hx hby d1_244 245 rfl rfl rfl ?_
    refine o_aload X8 hx hby d1_245 247 rfl rfl rfl ?_
    exact k
  obtain ⟨T9, h9, X9, e9, W9, st9⟩ := putF X8 hx hZ hown (host := "") (Or.inl (hw _ (List.mem_of_getElem? (i := 37) rfl))) Via.refl e8 f35 f34 (Or.inr ⟨(hw _ (List.mem_of_getElem? (i := 38) rfl)), rfl, hnm⟩) (hw _ (List.mem_of_getElem? (i := 5) rfl)) (ty := (.object "java/lang/String")) (by decide) rfl rfl (g := (mkF m 247 #[.val (.ref a0), .val (.int p1), .val (.int p2), .val (.ref a3), .val (.ref a4), .val (.ref a5), .val .null, .val (.long (0 : Int64)), .second, .val (.ref a8), .val .null] [(.ref a4), (.ref a0)])) rfl rfl (hb hby d1_247)
  have f45 : Exa Z h9 a0 "org/shardwright/model/ShardCopy" := f34.wr W9
  have f46 : Fld Z h9 a0 "org/shardwright/model/ShardCopy" "allocationId" "Ljava/lang/String;" .null := f36.other W9 (Or.inr (slot_ne (Or.inr (hw _ (List.mem_of_getElem? (i := 40) rfl))) (Or.inr (hw _ (List.mem_of_getElem? (i := 38) rfl))) (by decide) (t := (.object "java/lang/String")) (t' := (.object "java/lang/String")) (by decide) (by decide)))
  have f47 : Fld Z h9 a0 "org/shardwright/model/ShardCopy" "lastNodeId" "Ljava/lang/String;" .null := f37.other W9 (Or.inr (slot_ne (Or.inr (hw _ (List.mem_of_getElem? (i := 42) rfl))) (Or.inr (hw _ (List.mem_of_getElem? (i := 38) rfl))) (by decide) (t := (.object "java/lang/String")) (t' := (.object "java/lang/String")) (by decide) (by decide)))
  have f48 : Fld Z h9 a0 "org/shardwright/model/ShardCopy" "unassignedAtMillis" "J" (.long (0 : Int64)) := f38.other W9 (Or.inr (slot_ne (Or.inr (hw _ (List.mem_of_getElem? (i := 44) rfl))) (Or.inr (hw _ (List.mem_of_getElem? (i := 38) rfl))) (by decide) (t := .long) (t' := (.object "java/lang/String")) (by decide) (by decide)))
  have f49 : Fld Z h9 a0 "org/shardwright/model/ShardCopy" "replaces" "Ljava/lang/String;" .null := f39.other W9 (Or.inr (slot_ne (Or.inr (hw _ (List.mem_of_getElem? (i := 46) rfl))) (Or.inr (hw _ (List.mem_of_getElem? (i := 38) rfl))) (by decide) (t := (.object "java/lang/String")) (t' := (.object "java/lang/String")) (by decide) (by decide)))
  have f50 : Fld Z h9 a0 "org/shardwright/model/ShardCopy" "handsOverTo" "Ljava/lang/String;" .null := f40.other W9 (Or.inr (slot_ne (Or.inr (hw _ (List.mem_of_getElem? (i := 48) rfl))) (Or.inr (hw _ (List.mem_of_getElem? (i := 38) rfl))) (by decide) (t := (.object "java/lang/String")) (t' := (.object "java/lang/String")) (by decide) (by decide)))
  have f51 : Old Z n0 h9 := f41.wr W9 r1
  have f52 : Fld Z h9 a0 "org/shardwright/model/ShardCopy" "shard" "I" (.int p1) := f42.other W9 (Or.inr (slot_ne (Or.inr (hw _ (List.mem_of_getElem? (i := 32) rfl))) (Or.inr (hw _ (List.mem_of_getElem? (i := 38) rfl))) (by decide) (t := .int) (t' := (.object "java/lang/String")) (by decide) (by decide)))
  have f53 : Fld Z h9 a0 "org/shardwright/model/ShardCopy" "primary" "Z" (.int p2) := f43.other W9 (Or.inr (slot_ne (Or.inr (hw _ (List.mem_of_getElem? (i := 34) rfl))) (Or.inr (hw _ (List.mem_of_getElem? (i := 38) rfl))) (by decide) (t := .boolean) (t' := (.object "java/lang/String")) (by decide) (by decide)))
  have f54 : Fld Z h9 a0 "org/shardwright/model/ShardCopy" "state" "Lorg/shardwright/model/ShardCopy$State;" (.ref a3) := f44.other W9 (Or.inr (slot_ne (Or.inr (hw _ (List.mem_of_getElem? (i := 36) rfl))) (Or.inr (hw _ (List.mem_of_getElem? (i := 38) rfl))) (by decide) (t := (.object "org/shardwright/model/ShardCopy$State")) (t' := (.object "java/lang/String")) (by decide) (by decide)))
  have Zp9 : n0 ≤ h9.size := Nat.le_trans Zp8 (Keep.of_wr W9).1
  have sk9 := Nat.le_trans sk8 (Keep.of_wr W9).1
  have K9 : Keep h0 h9 [a0] := K8.wr W9 (Or.inl (List.mem_of_getElem? (i := 0) rfl))
  have N9 := Fr.snoc X9 N8 r1
  have f55 : Fld Z h9 a0 "org/shardwright/model/ShardCopy" "nodeId" "Ljava/lang/String;" (.ref a4) := f35.same W9
  have go7 : Go p e below A0 (T9.setTop (mkF m 253 #[.val (.ref a0), .val (.int p1), .val (.int p2), .val (.ref a3), .val (.ref a4), .val (.ref a5), .val .null, .val (.long (0 : Int64)), .second, .val (.ref a8), .val .null] [(.ref a5), (.ref a0)])) := by
    intro t k
    refine go6 t ?_
    refine st9 _ ?_
    show Steps p.tables e below (T9.setTop (mkF m 250 #[.val (.ref a0), .val (.int p1), .val (.int p2), .val (.ref a3), .val (.ref a4), .val (.ref a5), .val .null, .val (.long (0 : Int64)), .second, .val (.ref a8), .val .null] [])) _
    refine o_aloadN X9 hx hby d1_250 251 rfl rfl rfl ?_
    refine o_aload X9 hx hby d1_251 253 rfl rfl rfl ?_
    exact k
  obtain ⟨T10, h10, X10, e10, W10, st10⟩ := putF X9 hx hZ hown (host := "") (Or.inl (hw _ (List.mem_of_getElem? (i := 39) rfl))) Via.refl e9 f46 f45 (Or.inr ⟨(hw _ (List.mem_of_getElem? (i := 40) rfl)), rfl, hnm⟩) (hw _ (List.mem_of_getElem? (i := 5) rfl)) (ty := (.object "java/lang/String")) (by decide) rfl rfl (g := (mkF m 253 #[.val (.ref a0), .val (.int p1), .val (.int p2), .val (.ref a3), .val (.ref a4), .val (.ref a5), .val .null, .val (.long (0 : Int64)), .second, .val (.ref a8), .val .null] [(.ref a5), (.ref a0)])) rfl rfl (hb hby d1_253)
  have f56 : Exa Z h10 a0 "org/shardwright/model/ShardCopy" := f45.wr W10
  have f57 : Fld Z h10 a0 "org/shardwright/model/ShardCopy" "lastNodeId" "Ljava/lang/String;" .null := f47.other W10 (Or.inr (slot_ne (Or.inr (hw _ (List.mem_of_getElem? (i := 42) rfl))) (Or.inr (hw _ (List.mem_of_getElem? (i := 40) rfl))) (by decide) (t := (.object "java/lang/String")) (t' := (.object "java/lang/String")) (by decide) (by decide)))
  have f58 : Fld Z h10 a0 "org/shardwright/model/ShardCopy" "unassignedAtMillis" "J" (.long (0 : Int64)) := f48.other W10 (Or.inr (slot_ne (Or.inr (hw _ (List.mem_of_getElem? (i := 44) rfl))) (Or.inr (hw _ (List.mem_of_getElem? (i := 40) rfl))) (by decide) (t := .long) (t' := (.object "java/lang/String")) (by decide) (by decide)))
  have f59 : Fld Z h10 a0 "org/shardwright/model/ShardCopy" "replaces" "Ljava/lang/String;" .null := f49.other W10 (Or.inr (slot_ne (Or.inr (hw _ (List.mem_of_getElem? (i := 46) rfl))) (Or.inr (hw _ (List.mem_of_getElem? (i := 40) rfl))) (by decide) (t := (.object "java/lang/String")) (t' := (.object "java/lang/String")) (by decide) (by decide)))
  have f60 : Fld Z h10 a0 "org/shardwright/model/ShardCopy" "handsOverTo" "Ljava/lang/String;" .null := f50.other W10 (Or.inr (slot_ne (Or.inr (hw _ (List.mem_of_getElem? (i := 48) rfl))) (Or.inr (hw _ (List.mem_of_getElem? (i := 40) rfl))) (by decide) (t := (.object "java/lang/String")) (t' := (.object "java/lang/String")) (by decide) (by decide)))
  have f61 : Old Z n0 h10 := f51.wr W10 r1
  have f62 : Fld Z h10 a0 "org/shardwright/model/ShardCopy" "shard" "I" (.int p1) := f52.other W10 (Or.inr (slot_ne (Or.inr (hw _ (List.mem_of_getElem? (i := 32) rfl))) (Or.inr (hw _ (List.mem_of_getElem? (i := 40) rfl))) (by decide) (t := .int) (t' := (.object "java/lang/String")) (by decide) (by decide)))
  have f63 : Fld Z h10 a0 "org/shardwright/model/ShardCopy" "primary" "Z" (.int p2) := f53.other W10 (Or.inr (slot_ne (Or.inr (hw _ (List.mem_of_getElem? (i := 34) rfl))) (Or.inr (hw _ (List.mem_of_getElem? (i := 40) rfl))) (by decide) (t := .boolean) (t' := (.object "java/lang/String")) (by decide) (by decide)))
  have f64 : Fld Z h10 a0 "org/shardwright/model/ShardCopy" "state" "Lorg/shardwright/model/ShardCopy$State;" (.ref a3) := f54.other W10 (Or.inr (slot_ne (Or.inr (hw _ (List.mem_of_getElem? (i := 36) rfl))) (Or.inr (hw _ (List.mem_of_getElem? (i := 40) rfl))) (by decide) (t := (.object "org/shardwright/model/ShardCopy$State")) (t' := (.object "java/lang/String")) (by decide) (by decide)))
  have f65 : Fld Z h10 a0 "org/shardwright/model/ShardCopy" "nodeId" "Ljava/lang/String;" (.ref a4) := f55.other W10 (Or.inr (slot_ne (Or.inr (hw _ (List.mem_of_getElem? (i := 38) rfl))) (Or.inr (hw _ (List.mem_of_getElem? (i := 40) rfl))) (by decide) (t := (.object "java/lang/String")) (t' := (.object "java/lang/String")) (by decide) (by decide)))
  have Zp10 : n0 ≤ h10.size := Nat.le_trans Zp9 (Keep.of_wr W10).1
  have sk10 := Nat.le_trans sk9 (Keep.of_wr W10).1
  have K10 : Keep h0 h10 [a0] := K9.wr W10 (Or.inl (List.mem_of_getElem? (i := 0) rfl))
  have N10 := Fr.snoc X10 N9 r1
  have f66 : Fld Z h10 a0 "org/shardwright/model/ShardCopy" "allocationId" "Ljava/lang/String;" (.ref a5) := f46.same W10
  have go8 : Go p e below A0 (T10.setTop (mkF m 259 #[.val (.ref a0), .val (.int p1), .val (.int p2), .val (.ref a3), .val (.ref a4), .val (.ref a5), .val .null, .val (.long (0 : Int64)), .second, .val (.ref a8), .val .null] [.null, (.ref a0)])) := by
    intro t k
    refine go7 t ?_
    refine st10 _ ?_
    show Steps p.tables e below (T10.setTop (mkF m 256 #[.val (.ref a0), .val (.int p1), .val (.int p2), .val (.ref a3), .val (.ref a4), .val (.ref a5), .val .null, .val (.long (0 : Int64)), .second, .val (.ref a8), .val .null] [])) _
    refine o_aloadN X10 hx hby d1_256 257 rfl rfl rfl ?_
    refine o_aload X10 hx hby d1_257 259 rfl rfl rfl ?_
    exact k
  obtain ⟨T11, h11, X11, e11, W11, st11⟩ := putF X10 hx hZ hown (host := "") (Or.inl (hw _ (List.mem_of_getElem? (i := 41) rfl))) Via.refl e10 f57 f56 (Or.inr ⟨(hw _ (List.mem_of_getElem? (i := 42) rfl)), rfl, hnm⟩) (hw _ (List.mem_of_getElem? (i := 5) rfl)) (ty := (.object "java/lang/String")) (by decide) rfl rfl (g := (mkF m 259 #[.val (.ref a0), .val (.int p1), .val (.int p2), .val (.ref a3), .val (.ref a4), .val (.ref a5), .val .null, .val (.long (0 : Int64)), .second, .val (.ref a8), .val .null] [.null, (.ref a0)])) rfl rfl (hb hby d1_259)
  have f67 : Exa Z h11 a0 "org/shardwright/model/ShardCopy" := f56.wr W11
  have f68 : Fld Z h11 a0 "org/shardwright/model/ShardCopy" "unassignedAtMillis" "J" (.long (0 : Int64)) := f58.other W11 (Or.inr (slot_ne (Or.inr (hw _ (List.mem_of_getElem? (i := 44) rfl))) (Or.inr (hw _ (List.mem_of_getElem? (i := 42) rfl))) (by decide) (t := .long) (t' := (.object "java/lang/String")) (by decide) (by decide)))
  have f69 : Fld Z h11 a0 "org/shardwright/model/ShardCopy" "replaces" "Ljava/lang/String;" .null := f59.other W11 (Or.inr (slot_ne (Or.inr (hw _ (List.mem_of_getElem? (i := 46) rfl))) (Or.inr (hw _ (List.mem_of_getElem? (i := 42) rfl))) (by decide) (t := (.object "java/lang/String")) (t' := (.object "java/lang/String")) (by decide) (by decide)))
  have f70 : Fld Z h11 a0 "org/shardwright/model/ShardCopy" "handsOverTo" "Ljava/lang/String;" .null := f60.other W11 (Or.inr (slot_ne (Or.inr (hw _ (List.mem_of_getElem? (i := 48) rfl))) (Or.inr (hw _ (List.mem_of_getElem? (i := 42) rfl))) (by decide) (t := (.object "java/lang/String")) (t' := (.object "java/lang/String")) (by decide) (by decide)))
  have f71 : Old Z n0 h11 := f61.wr W11 r1
  have f72 : Fld Z h11 a0 "org/shardwright/model/ShardCopy" "shard" "I" (.int p1) := f62.other W11 (Or.inr (slot_ne (Or.inr (hw _ (List.mem_of_getElem? (i := 32) rfl))) (Or.inr (hw _ (List.mem_of_getElem? (i := 42) rfl))) (by decide) (t := .int) (t' := (.object "java/lang/String")) (by decide) (by decide)))
  have f73 : Fld Z h11 a0 "org/shardwright/model/ShardCopy" "primary" "Z" (.int p2) := f63.other W11 (Or.inr (slot_ne (Or.inr (hw _ (List.mem_of_getElem? (i := 34) rfl))) (Or.inr (hw _ (List.mem_of_getElem? (i := 42) rfl))) (by decide) (t := .boolean) (t' := (.object "java/lang/String")) (by decide) (by decide)))
  have f74 : Fld Z h11 a0 "org/shardwright/model/ShardCopy" "state" "Lorg/shardwright/model/ShardCopy$State;" (.ref a3) := f64.other W11 (Or.inr (slot_ne (Or.inr (hw _ (List.mem_of_getElem? (i := 36) rfl))) (Or.inr (hw _ (List.mem_of_getElem? (i := 42) rfl))) (by decide) (t := (.object "org/shardwright/model/ShardCopy$State")) (t' := (.object "java/lang/String")) (by decide) (by decide)))
  have f75 : Fld Z h11 a0 "org/shardwright/model/ShardCopy" "nodeId" "Ljava/lang/String;" (.ref a4) := f65.other W11 (Or.inr (slot_ne (Or.inr (hw _ (List.mem_of_getElem? (i := 38) rfl))) (Or.inr (hw _ (List.mem_of_getElem? (i := 42) rfl))) (by decide) (t := (.object "java/lang/String")) (t' := (.object "java/lang/String")) (by decide) (by decide)))
  have f76 : Fld Z h11 a0 "org/shardwright/model/ShardCopy" "allocationId" "Ljava/lang/String;" (.ref a5) := f66.other W11 (Or.inr (slot_ne (Or.inr (hw _ (List.mem_of_getElem? (i := 40) rfl))) (Or.inr (hw _ (List.mem_of_getElem? (i := 42) rfl))) (by decide) (t := (.object "java/lang/String")) (t' := (.object "java/lang/String")) (by decide) (by decide)))
  have Zp11 : n0 ≤ h11.size := Nat.le_trans Zp10 (Keep.of_wr W11).1
  have sk11 := Nat.le_trans sk10 (Keep.of_wr W11).1
  have K11 : Keep h0 h11 [a0] := K10.wr W11 (Or.inl (List.mem_of_getElem? (i := 0) rfl))
  have N11 := Fr.snoc X11 N10 r1
  have f77 : Fld Z h11 a0 "org/shardwright/model/ShardCopy" "lastNodeId" "Ljava/lang/String;" .null := f57.same W11
  have go9 : Go p e below A0 (T11.setTop (mkF m 265 #[.val (.ref a0), .val (.int p1), .val (.int p2), .val (.ref a3), .val (.ref a4), .val (.ref a5), .val .null, .val (.long (0 : Int64)), .second, .val (.ref a8), .val .null] [(.long (0 : Int64)), (.ref a0)])) := by
    intro t k
    refine go8 t ?_
    refine st11 _ ?_
    show Steps p.tables e below (T11.setTop (mkF m 262 #[.val (.ref a0), .val (.int p1), .val (.int p2), .val (.ref a3), .val (.ref a4), .val (.ref a5), .val .null, .val (.long (0 : Int64)), .second, .val (.ref a8), .val .null] [])) _
    refine o_aloadN X11 hx hby d1_262 263 rfl rfl rfl ?_
    refine o_lload X11 hx hby d1_263 265 rfl rfl ?_
    exact k
  obtain ⟨T12, h12, X12, e12, W12, st12⟩ := putF X11 hx hZ hown (host := "") (Or.inl (hw _ (List.mem_of_getElem? (i := 43) rfl))) Via.refl e11 f68 f67 (Or.inr ⟨(hw _ (List.mem_of_getElem? (i := 44) rfl)), rfl, hnm⟩) (hw _ (List.mem_of_getElem? (i := 5) rfl)) (ty := .long) (by decide) rfl rfl (g := (mkF m 265 #[.val (.ref a0), .val (.int p1), .val (.int p2), .val (.ref a3), .val (.ref a4), .val (.ref a5), .val .null, .val (.long (0 : Int64)), .second, .val (.ref a8), .val .null] [(.long (0 : Int64)), (.ref a0)])) rfl rfl (hb hby d1_265)
  have f78 : Exa Z h12 a0 "org/shardwright/model/ShardCopy" := f67.wr W12
  have f79 : Fld Z h12 a0 "org/shardwright/model/ShardCopy" "replaces" "Ljava/lang/String;" .null := f69.other W12 (Or.inr (slot_ne (Or.inr (hw _ (List.mem_of_getElem? (i := 46) rfl))) (Or.inr (hw _ (List.mem_of_getElem? (i := 44) rfl))) (by decide) (t := (.object "java/lang/String")) (t' := .long) (by decide) (by decide)))
  have f80 : Fld Z h12 a0 "org/shardwright/model/ShardCopy" "handsOverTo" "Ljava/lang/String;" .null := f70.other W12 (Or.inr (slot_ne (Or.inr (hw _ (List.mem_of_getElem? (i := 48) rfl))) (Or.inr (hw _ (List.mem_of_getElem? (i := 44) rfl))) (by decide) (t := (.object "java/lang/String")) (t' := .long) (by decide) (by decide)))
  have f81 : Old Z n0 h12 := f71.wr W12 r1
  have f82 : Fld Z h12 a0 "org/shardwright/model/ShardCopy" "shard" "I" (.int p1) := f72.other W12 (Or.inr (slot_ne (Or.inr (hw _ (List.mem_of_getElem? (i := 32) rfl))) (Or.inr (hw _ (List.mem_of_getElem? (i := 44) rfl))) (by decide) (t := .int) (t' := .long) (by decide) (by decide)))
  have f83 : Fld Z h12 a0 "org/shardwright/model/ShardCopy" "primary" "Z" (.int p2) := f73.other W12 (Or.inr (slot_ne (Or.inr (hw _ (List.mem_of_getElem? (i := 34) rfl))) (Or.inr (hw _ (List.mem_of_getElem? (i := 44) rfl))) (by decide) (t := .boolean) (t' := .long) (by decide) (by decide)))
  have f84 : Fld Z h12 a0 "org/shardwright/model/ShardCopy" "state" "Lorg/shardwright/model/ShardCopy$State;" (.ref a3) := f74.other W12 (Or.inr (slot_ne (Or.inr (hw _ (List.mem_of_getElem? (i := 36) rfl))) (Or.inr (hw _ (List.mem_of_getElem? (i := 44) rfl))) (by decide) (t := (.object "org/shardwright/model/ShardCopy$State")) (t' := .long) (by decide) (by decide)))
  have f85 : Fld Z h12 a0 "org/shardwright/model/ShardCopy" "nodeId" "Ljava/lang/String;" (.ref a4) := f75.other W12 (Or.inr (slot_ne (Or.inr (hw _ (List.mem_of_getElem? (i := 38) rfl))) (Or.inr (hw _ (List.mem_of_getElem? (i := 44) rfl))) (by decide) (t := (.object "java/lang/String")) (t' := .long) (by decide) (by decide)))
  have f86 : Fld Z h12 a0 "org/shardwright/model/ShardCopy" "allocationId" "Ljava/lang/String;" (.ref a5) := f76.other W12 (Or.inr (slot_ne (Or.inr (hw _ (List.mem_of_getElem? (i := 40) rfl))) (Or.inr (hw _ (List.mem_of_getElem? (i := 44) rfl))) (by decide) (t := (.object "java/lang/String")) (t' := .long) (by decide) (by decide)))
  have f87 : Fld Z h12 a0 "org/shardwright/model/ShardCopy" "lastNodeId" "Ljava/lang/String;" .null := f77.other W12 (Or.inr (slot_ne (Or.inr (hw _ (List.mem_of_getElem? (i := 42) rfl))) (Or.inr (hw _ (List.mem_of_getElem? (i := 44) rfl))) (by decide) (t := (.object "java/lang/String")) (t' := .long) (by decide) (by decide)))
  have Zp12 : n0 ≤ h12.size := Nat.le_trans Zp11 (Keep.of_wr W12).1
  have sk12 := Nat.le_trans sk11 (Keep.of_wr W12).1
  have K12 : Keep h0 h12 [a0] := K11.wr W12 (Or.inl (List.mem_of_getElem? (i := 0) rfl))
  have N12 := Fr.snoc X12 N11 r1
  have f88 : Fld Z h12 a0 "org/shardwright/model/ShardCopy" "unassignedAtMillis" "J" (.long (0 : Int64)) := f68.same W12
  have go10 : Go p e below A0 (T12.setTop (mkF m 271 #[.val (.ref a0), .val (.int p1), .val (.int p2), .val (.ref a3), .val (.ref a4), .val (.ref a5), .val .null, .val (.long (0 : Int64)), .second, .val (.ref a8), .val .null] [(.ref a8), (.ref a0)])) := by
    intro t k
    refine go9 t ?_
    refine st12 _ ?_
    show Steps p.tables e below (T12.setTop (mkF m 268 #[.val (.ref a0), .val (.int p1), .val (.int p2), .val (.ref a3), .val (.ref a4), .val (.ref a5), .val .null, .val (.long (0 : Int64)), .second, .val (.ref a8), .val .null] [])) _
    refine o_aloadN X12 hx hby d1_268 269 rfl rfl rfl ?_
    refine o_aload X12 hx hby d1_269 271 rfl rfl rfl ?_
    exact k
  obtain ⟨T13, h13, X13, e13, W13, st13⟩ := putF X12 hx hZ hown (host := "") (Or.inl (hw _ (List.mem_of_getElem? (i := 45) rfl))) Via.refl e12 f79 f78 (Or.inr ⟨(hw _ (List.mem_of_getElem? (i := 46) rfl)), rfl, hnm⟩) (hw _ (List.mem_of_getElem? (i := 5) rfl)) (ty := (.object "java/lang/String")) (by decide) rfl rfl (g := (mkF m 271 #[.val (.ref a0), .val (.int p1), .val (.int p2), .val (.ref a3), .val (.ref a4), .val (.ref a5), .val .null, .val (.long (0 : Int64)), .second, .val (.ref a8), .val .null] [(.ref a8), (.ref a0)])) rfl rfl (hb hby d1_271)
  have f89 : Exa Z h13 a0 "org/shardwright/model/ShardCopy" := f78.wr W13
  have f90 : Fld Z h13 a0 "org/shardwright/model/ShardCopy" "handsOverTo" "Ljava/lang/String;" .null := f80.other W13 (Or.inr (slot_ne (Or.inr (hw _ (List.mem_of_getElem? (i := 48) rfl))) (Or.inr (hw _ (List.mem_of_getElem? (i := 46) rfl))) (by decide) (t := (.object "java/lang/String")) (t' := (.object "java/lang/String")) (by decide) (by decide)))
  have f91 : Old Z n0 h13 := f81.wr W13 r1
  have f92 : Fld Z h13 a0 "org/shardwright/model/ShardCopy" "shard" "I" (.int p1) := f82.other W13 (Or.inr (slot_ne (Or.inr (hw _ (List.mem_of_getElem? (i := 32) rfl))) (Or.inr (hw _ (List.mem_of_getElem? (i := 46) rfl))) (by decide) (t := .int) (t' := (.object "java/lang/String")) (by decide) (by decide)))
  have f93 : Fld Z h13 a0 "org/shardwright/model/ShardCopy" "primary" "Z" (.int p2) := f83.other W13 (Or.inr (slot_ne (Or.inr (hw _ (List.mem_of_getElem? (i := 34) rfl))) (Or.inr (hw _ (List.mem_of_getElem? (i := 46) rfl))) (by decide) (t := .boolean) (t' := (.object "java/lang/String")) (by decide) (by decide)))
  have f94 : Fld Z h13 a0 "org/shardwright/model/ShardCopy" "state" "Lorg/shardwright/model/ShardCopy$State;" (.ref a3) := f84.other W13 (Or.inr (slot_ne (Or.inr (hw _ (List.mem_of_getElem? (i := 36) rfl))) (Or.inr (hw _ (List.mem_of_getElem? (i := 46) rfl))) (by decide) (t := (.object "org/shardwright/model/ShardCopy$State")) (t' := (.object "java/lang/String")) (by decide) (by decide)))
  have f95 : Fld Z h13 a0 "org/shardwright/model/ShardCopy" "nodeId" "Ljava/lang/String;" (.ref a4) := f85.other W13 (Or.inr (slot_ne (Or.inr (hw _ (List.mem_of_getElem? (i := 38) rfl))) (Or.inr (hw _ (List.mem_of_getElem? (i := 46) rfl))) (by decide) (t := (.object "java/lang/String")) (t' := (.object "java/lang/String")) (by decide) (by decide)))
  have f96 : Fld Z h13 a0 "org/shardwright/model/ShardCopy" "allocationId" "Ljava/lang/String;" (.ref a5) := f86.other W13 (Or.inr (slot_ne (Or.inr (hw _ (List.mem_of_getElem? (i := 40) rfl))) (Or.inr (hw _ (List.mem_of_getElem? (i := 46) rfl))) (by decide) (t := (.object "java/lang/String")) (t' := (.object "java/lang/String")) (by decide) (by decide)))
  have f97 : Fld Z h13 a0 "org/shardwright/model/ShardCopy" "lastNodeId" "Ljava/lang/String;" .null := f87.other W13 (Or.inr (slot_ne (Or.inr (hw _ (List.mem_of_getElem? (i := 42) rfl))) (Or.inr (hw _ (List.mem_of_getElem? (i := 46) rfl))) (by decide) (t := (.object "java/lang/String")) (t' := (.object "java/lang/String")) (by decide) (by decide)))
  have f98 : Fld Z h13 a0 "org/shardwright/model/ShardCopy" "unassignedAtMillis" "J" (.long (0 : Int64)) := f88.other W13 (Or.inr (slot_ne (Or.inr (hw _ (List.mem_of_getElem? (i := 44) rfl))) (Or.inr (hw _ (List.mem_of_getElem? (i := 46) rfl))) (by decide) (t := .long) (t' := (.object "java/lang/String")) (by decide) (by decide)))
  have Zp13 : n0 ≤ h13.size := Nat.le_trans Zp12 (Keep.of_wr W13).1
  have sk13 := Nat.le_trans sk12 (Keep.of_wr W13).1
  have K13 : Keep h0 h13 [a0] := K12.wr W13 (Or.inl (List.mem_of_getElem? (i := 0) rfl))
  have N13 := Fr.snoc X13 N12 r1
  have f99 : Fld Z h13 a0 "org/shardwright/model/ShardCopy" "replaces" "Ljava/lang/String;" (.ref a8) := f79.same W13
  have go11 : Go p e below A0 (T13.setTop (mkF m 277 #[.val (.ref a0), .val (.int p1), .val (.int p2), .val (.ref a3), .val (.ref a4), .val (.ref a5), .val .null, .val (.long (0 : Int64)), .second, .val (.ref a8), .val .null] [.null, (.ref a0)])) := by
    intro t k
    refine go10 t ?_
    refine st13 _ ?_
    show Steps p.tables e below (T13.setTop (mkF m 274 #[.val (.ref a0), .val (.int p1), .val (.int p2), .val (.ref a3), .val (.ref a4), .val (.ref a5), .val .null, .val (.long (0 : Int64)), .second, .val (.ref a8), .val .null] [])) _
    refine o_aloadN X13 hx hby d1_274 275 rfl rfl rfl ?_
    refine o_aload X13 hx hby d1_275 277 rfl rfl rfl ?_
    exact k
  obtain ⟨T14, h14, X14, e14, W14, st14⟩ := putF X13 hx hZ hown (host := "") (Or.inl (hw _ (List.mem_of_getElem? (i := 47) rfl))) Via.refl e13 f90 f89 (Or.inr ⟨(hw _ (List.mem_of_getElem? (i := 48) rfl)), rfl, hnm⟩) (hw _ (List.mem_of_getElem? (i := 5) rfl)) (ty := (.object "java/lang/String")) (by decide) rfl rfl (g := (mkF m 277 #[.val (.ref a0), .val (.int p1), .val (.int p2), .val (.ref a3), .val (.ref a4), .val (.ref a5), .val .null, .val (.long (0 : Int64)), .second, .val (.ref a8), .val .null] [.null, (.ref a0)])) rfl rfl (hb hby d1_277)
  have f100 : Exa Z h14 a0 "org/shardwright/model/ShardCopy" := f89.wr W14
  have f101 : Old Z n0 h14 := f91.wr W14 r1
  have f102 : Fld Z h14 a0 "org/shardwright/model/ShardCopy" "shard" "I" (.int p1) := f92.other W14 (Or.inr (slot_ne (Or.inr (hw _ (List.mem_of_getElem? (i := 32) rfl))) (Or.inr (hw _ (List.mem_of_getElem? (i := 48) rfl))) (by decide) (t := .int) (t' := (.object "java/lang/String")) (by decide) (by decide)))
  have f103 : Fld Z h14 a0 "org/shardwright/model/ShardCopy" "primary" "Z" (.int p2) := f93.other W14 (Or.inr (slot_ne (Or.inr (hw _ (List.mem_of_getElem? (i := 34) rfl))) (Or.inr (hw _ (List.mem_of_getElem? (i := 48) rfl))) (by decide) (t := .boolean) (t' := (.object "java/lang/String")) (by decide) (by decide)))
  have f104 : Fld Z h14 a0 "org/shardwright/model/ShardCopy" "state" "Lorg/shardwright/model/ShardCopy$State;" (.ref a3) := f94.other W14 (Or.inr (slot_ne (Or.inr (hw _ (List.mem_of_getElem? (i := 36) rfl))) (Or.inr (hw _ (List.mem_of_getElem? (i := 48) rfl))) (by decide) (t := (.object "org/shardwright/model/ShardCopy$State")) (t' := (.object "java/lang/String")) (by decide) (by decide)))
  have f105 : Fld Z h14 a0 "org/shardwright/model/ShardCopy" "nodeId" "Ljava/lang/String;" (.ref a4) := f95.other W14 (Or.inr (slot_ne (Or.inr (hw _ (List.mem_of_getElem? (i := 38) rfl))) (Or.inr (hw _ (List.mem_of_getElem? (i := 48) rfl))) (by decide) (t := (.object "java/lang/String")) (t' := (.object "java/lang/String")) (by decide) (by decide)))
  have f106 : Fld Z h14 a0 "org/shardwright/model/ShardCopy" "allocationId" "Ljava/lang/String;" (.ref a5) := f96.other W14 (Or.inr (slot_ne (Or.inr (hw _ (List.mem_of_getElem? (i := 40) rfl))) (Or.inr (hw _ (List.mem_of_getElem? (i := 48) rfl))) (by decide) (t := (.object "java/lang/String")) (t' := (.object "java/lang/String")) (by decide) (by decide)))
  have f107 : Fld Z h14 a0 "org/shardwright/model/ShardCopy" "lastNodeId" "Ljava/lang/String;" .null := f97.other W14 (Or.inr (slot_ne (Or.inr (hw _ (List.mem_of_getElem? (i := 42) rfl))) (Or.inr (hw _ (List.mem_of_getElem? (i := 48) rfl))) (by decide) (t := (.object "java/lang/String")) (t' := (.object "java/lang/String")) (by decide) (by decide)))
  have f108 : Fld Z h14 a0 "org/shardwright/model/ShardCopy" "unassignedAtMillis" "J" (.long (0 : Int64)) := f98.other W14 (Or.inr (slot_ne (Or.inr (hw _ (List.mem_of_getElem? (i := 44) rfl))) (Or.inr (hw _ (List.mem_of_getElem? (i := 48) rfl))) (by decide) (t := .long) (t' := (.object "java/lang/String")) (by decide) (by decide)))
  have f109 : Fld Z h14 a0 "org/shardwright/model/ShardCopy" "replaces" "Ljava/lang/String;" (.ref a8) := f99.other W14 (Or.inr (slot_ne (Or.inr (hw _ (List.mem_of_getElem? (i := 46) rfl))) (Or.inr (hw _ (List.mem_of_getElem? (i := 48) rfl))) (by decide) (t := (.object "java/lang/String")) (t' := (.object "java/lang/String")) (by decide) (by decide)))
  have Zp14 : n0 ≤ h14.size := Nat.le_trans Zp13 (Keep.of_wr W14).1
  have sk14 := Nat.le_trans sk13 (Keep.of_wr W14).1
  have K14 : Keep h0 h14 [a0] := K13.wr W14 (Or.inl (List.mem_of_getElem? (i := 0) rfl))
  have N14 := Fr.snoc X14 N13 r1
  have f110 : Fld Z h14 a0 "org/shardwright/model/ShardCopy" "handsOverTo" "Ljava/lang/String;" .null := f90.same W14
  have go12 : Go p e below A0 (T14.setTop (mkF m 280 #[.val (.ref a0), .val (.int p1), .val (.int p2), .val (.ref a3), .val (.ref a4), .val (.ref a5), .val .null, .val (.long (0 : Int64)), .second, .val (.ref a8), .val .null] [])) := by
    intro t k
    refine go11 t ?_
    refine st14 _ ?_
    show Steps p.tables e below (T14.setTop (mkF m 280 #[.val (.ref a0), .val (.int p1), .val (.int p2), .val (.ref a3), .val (.ref a4), .val (.ref a5), .val .null, .val (.long (0 : Int64)), .second, .val (.ref a8), .val .null] [])) _
    exact k
  subst hA0
  obtain ⟨fs, hr, hrun, hended, hRW⟩ := X14.leaveW (s := s) S2 (by rw [e14]; exact sk14) (v := none) (fun _ => rfl)
  refine ⟨_, _, go12 _ (X14.returnOut hx Bd.returns (hb hby d1_280) hr), hrun, hended, _, _, rfl, ?_, hRW.1, hRW.2.1, hRW.2.2.1, hRW.2.2.2.mono (by decide) (by decide)⟩
  show Q1D Z a0 p1 p2 a3 a4 a5 a8 uA h0 n0 _ T14.heap _
  rw [e14]
  exact ⟨rfl, N14, K14, f109, trivial⟩
theorem ef_1E (m : MethodId) (x0 : Addr) (x1 : Int32) (x2 : Int32) (x3 : Addr) (x4 : Addr) (x5 : Addr) (x9 : Addr) : entryFrame m #[(.ref x0), (.int x1), (.int x2), (.ref x3), (.ref x4), (.ref x5), .null, (.long (0 : Int64)), .null, (.ref x9)] 11 = mkF m 0 #[.val (.ref x0), .val (.int x1), .val (.int x2), .val (.ref x3), .val (.ref x4), .val (.ref x5), .val .null, .val (.long (0 : Int64)), .second, .val .null, .val (.ref x9)] [] := by first | (simp [entryFrame, mkF, argsToLocals, Value.category]; done) | rfl
def Q1E (Z : State) (a0 : Addr) (p1 : Int32) (p2 : Int32) (uS : Addr) (a4 : Addr) (a5 : Addr) (a9 : Addr) (uA : Addr) (h0 : Heap) (n0 : Nat) (v : Option Value) (h : Heap) (L : List Loc) : Prop := v = none ∧ Fr n0 L ∧ Keep h0 h [a0] ∧ Fld Z h a0 "org/shardwright/model/ShardCopy" "replaces" "Ljava/lang/String;" .null ∧ True
set_option maxRecDepth 65536 in
set_option maxHeartbeats 40000000 in
theorem rm1E (l : Launch) (Z : State) (aw : Array Value) (hw : ∀ d ∈ tables_1, d.before aw Z = true) (ws : List Jvm.Cond) (a0 : Addr) (p1 : Int32) (p2 : Int32) (uS : Addr) (a4 : Addr) (a5 : Addr) (a9 : Addr) (uA : Addr) (h0 : Heap) (n0 : Nat) (Z0 : n0 ≤ h0.size) (r0 : Exa Z h0 a0 "org/shardwright/model/ShardCopy") (r1 : n0 ≤ a0) (r2 : Fld Z h0 a0 "org/shardwright/model/ShardCopy" "shard" "I" (.int (0 : Int32))) (r3 : Fld Z h0 a0 "org/shardwright/model/ShardCopy" "primary" "Z" (.int (0 : Int32))) (r4 : Fld Z h0 a0 "org/shardwright/model/ShardCopy" "state" "Lorg/shardwright/model/ShardCopy$State;" .null) (r5 : Fld Z h0 a0 "org/shardwright/model/ShardCopy" "nodeId" "Ljava/lang/String;" .null) (r6 : Fld Z h0 a0 "org/shardwright/model/ShardCopy" "allocationId" "Ljava/lang/String;" .null) (r7 : Fld Z h0 a0 "org/shardwright/model/ShardCopy" "lastNodeId" "Ljava/lang/String;" .null) (r8 : Fld Z h0 a0 "org/shardwright/model/ShardCopy" "unassignedAtMillis" "J" (.long (0 : Int64))) (r9 : Fld Z h0 a0 "org/shardwright/model/ShardCopy" "replaces" "Ljava/lang/String;" .null) (r10 : Fld Z h0 a0 "org/shardwright/model/ShardCopy" "handsOverTo" "Ljava/lang/String;" .null) (r11 : Sta Z Z.heap "org/shardwright/model/ShardCopy$State" "UNASSIGNED" "Lorg/shardwright/model/ShardCopy$State;" (.ref uA)) (r12 : Old Z n0 h0) (hz2 : (p2 = 0 ∨ p2 = 1)) (hp1 : (¬ p1 < 0)) (r15 : uS ≠ uA) (r16 : Sta Z Z.heap "org/shardwright/model/ShardCopy$State" "STARTED" "Lorg/shardwright/model/ShardCopy$State;" (.ref uS)) (hp2 : (¬ (p2 = 0))) :
    MetFree l (⟨"org/shardwright/model/ShardCopy", "<init>", "(IZLorg/shardwright/model/ShardCopy$State;Ljava/lang/String;Ljava/lang/String;Ljava/lang/String;JLjava/lang/String;Ljava/lang/String;)V"⟩ : MethodName) (head1 (Jvm.Cond.code (⟨"org/shardwright/model/ShardCopy", "<init>", "(IZLorg/shardwright/model/ShardCopy$State;Ljava/lang/String;Ljava/lang/String;Ljava/lang/String;JLjava/lang/String;Ljava/lang/String;)V"⟩ : MethodName) prog_33_method_1_code 11 none :: ws) ({ frames := 2, cells := 2, slots := 24, locals := 24 } : Room)) (fun a U => a = #[(.ref a0), (.int p1), (.int p2), (.ref uS), (.ref a4), (.ref a5), .null, (.long (0 : Int64)), .null, (.ref a9)] ∧ Z.Warmed39 U.vm ∧ U.heap = h0) (fun _ _ _ _ _ => True) (fun _ U o U' => ∃ v L, o = .returned v ∧ Q1E Z a0 p1 p2 uS a4 a5 a9 uA h0 n0 v U'.heap L ∧ ReturnedEndW U o U' L ({ frames := 2, cells := 2, slots := 24, locals := 24 } : Room).cells ({ frames := 2, cells := 2, slots := 24, locals := 24 } : Room).slots) := by
  refine MetFree.of_bodySF (plainFor_of_name pn_1) hisR ?_
  intro p e s m args below meth c s₁ Bd hml0 hP hK
  obtain ⟨rfl, hZ, hh⟩ := hP
  have hx := Bd.exec
  have hby := Bd.bytes
  have hml : c.maxLocals = 11 := hml0
  have hown : s.vm.findClass "org/shardwright/model/ShardCopy" = some m.cls := findClass_of_methodNamed Bd.named
  have hnm := (name_of_methodNamed Bd.named Bd.method).1
  have X0 : Stand p l e ({ frames := 2, cells := 2, slots := 24, locals := 24 } : Room) s m #[(.ref a0), (.int p1), (.int p2), (.ref uS), (.ref a4), (.ref a5), .null, (.long (0 : Int64)), .null, (.ref a9)] below meth c s₁ [] 0 0 := Stand.of_body Bd
  have e0 : s₁.heap = h0 := by rw [← hh, Bd.state]; rfl
  have N0 := Fr.nil n0
  obtain ⟨A0, hA0⟩ : ∃ A0, A0 = s₁.setTop (entryFrame m #[(.ref a0), (.int p1), (.int p2), (.ref uS), (.ref a4), (.ref a5), .null, (.long (0 : Int64)), .null, (.ref a9)] 11) := ⟨_, rfl⟩
  have go0 : Go p e below A0 (s₁.setTop (mkF m 0 #[.val (.ref a0), .val (.int p1), .val (.int p2), .val (.ref uS), .val (.ref a4), .val (.ref a5), .val .null, .val (.long (0 : Int64)), .second, .val .null, .val (.ref a9)] [])) := fun t k => by rw [hA0]; exact castTop (ef_1E m a0 p1 p2 uS a4 a5 a9) k
  obtain ⟨_, _, ⟨T1, L1, k1, n1⟩, -, X1, ⟨Lc1, hQ1, l1, y1, z1⟩, st1⟩ := X0.specialBack hx (y := (⟨"java/lang/Record", "<init>", "()V"⟩ : MethodName)) rfl hown (mvT hZ (hw _ (List.mem_of_getElem? (i := 10) rfl))) (mvT hZ (hw _ (List.mem_of_getElem? (i := 11) rfl))) (mvT hZ (hw _ (List.mem_of_getElem? (i := 14) rfl))) (by decide) (backOf (W := 0) (rm2 l Z aw hw [] a0 h0 n0 Z0 ) hZ (hw _ (List.mem_of_getElem? (i := 14) rfl)) (hw _ (List.mem_of_getElem? (i := 13) rfl)) (by decide) (by decide)) (g := (mkF m 1 #[.val (.ref a0), .val (.int p1), .val (.int p2), .val (.ref uS), .val (.ref a4), .val (.ref a5), .val .null, .val (.long (0 : Int64)), .second, .val .null, .val (.ref a9)] [(.ref a0)])) rfl (by rw [hml]; rfl) (Steps.refl _) (a := a0) (argsL := []) (rest := []) (lenOf pd_8 rfl) rfl (by show 2 * 0 + _ ≤ _; exact Nat.le_of_eq rfl) (hb hby d1_1) (fun _ _ => ⟨rfl, e0, (by decide : 0 + 0 ≤ _), (by decide : 0 + 0 ≤ _)⟩)
  dsimp only [Pt.U, Pt.locs, Pt.cells, Pt.slots] at X1 l1 y1 z1 st1 hQ1
  subst l1 y1 z1
  obtain ⟨rfl, N1q, e1⟩ := hQ1
  have N1 := Fr.app N0 N1q
  have hwS2 : ∀ d ∈ Bundle.stringAtoms, d.before aw Z = true := fun d hd => hw d ((by decide +kernel : ∀ d ∈ Bundle.stringAtoms, d ∈ tables_1) d hd)
  obtain ⟨a2, T2, h2, k2, X2, e2, E2, S2, sk2, hZ, hown, st2⟩ := ldcS (s := s) (vm0 := s.vm) X1 hx hZ hown (hw _ (List.mem_of_getElem? (i := 18) rfl)) hwS2 e1 ((State.WarmedH.refl s).since 0) (Nat.zero_le _) (g := (mkF m 5 #[.val (.ref a0), .val (.int p1), .val (.int p2), .val (.ref uS), .val (.ref a4), .val (.ref a5), .val .null, .val (.long (0 : Int64)), .second, .val .null, .val (.ref a9)] [(.ref uS)])) rfl (hb hby d1_5) (n := 20) (by decide) (by decide) (by decide) (by decide)
  have f1 : Exa Z h2 a0 "org/shardwright/model/ShardCopy" := r0.ext E2
  have f2 : Fld Z h2 a0 "org/shardwright/model/ShardCopy" "shard" "I" (.int (0 : Int32)) := r2.ext E2
  have f3 : Fld Z h2 a0 "org/shardwright/model/ShardCopy" "primary" "Z" (.int (0 : Int32)) := r3.ext E2
  have f4 : Fld Z h2 a0 "org/shardwright/model/ShardCopy" "state" "Lorg/shardwright/model/ShardCopy$State;" .null := r4.ext E2
  have f5 : Fld Z h2 a0 "org/shardwright/model/ShardCopy" "nodeId" "Ljava/lang/String;" .null := r5.ext E2
  have f6 : Fld Z h2 a0 "org/shardwright/model/ShardCopy" "allocationId" "Ljava/lang/String;" .null := r6.ext E2
  have f7 : Fld Z h2 a0 "org/shardwright/model/ShardCopy" "lastNodeId" "Ljava/lang/String;" .null := r7.ext E2
  have f8 : Fld Z h2 a0 "org/shardwright/model/ShardCopy" "unassignedAtMillis" "J" (.long (0 : Int64)) := r8.ext E2
  have f9 : Fld Z h2 a0 "org/shardwright/model/ShardCopy" "replaces" "Ljava/lang/String;" .null := r9.ext E2
  have f10 : Fld Z h2 a0 "org/shardwright/model/ShardCopy" "handsOverTo" "Ljava/lang/String;" .null := r10.ext E2
  have f11 : Old Z n0 h2 := r12.ext E2
  have Zp2 : n0 ≤ h2.size := Nat.le_trans Z0 E2.1
  have K2 : Keep h0 h2 [a0] := (Keep.refl h0 [a0]).ext E2
  have go1 : Go p e below A0 (T2.setTop (mkF m 7 #[.val (.ref a0), .val (.int p1), .val (.int p2), .val (.ref uS), .val (.ref a4), .val (.ref a5), .val .null, .val (.long (0 : Int64)), .second, .val .null, .val (.ref a9)] [(.ref a2), (.ref uS)])) := by
    intro t k
    refine go0 t ?_
    refine o_aloadN X0 hx hby d1_0 1 rfl rfl rfl ?_
    refine st1.trans ?_
    show Steps p.tables e below (T1.setTop (mkF m 4 #[.val (.ref a0), .val (.int p1), .val (.int p2), .val (.ref uS), .val (.ref a4), .val (.ref a5), .val .null, .val (.long (0 : Int64)), .second, .val .null, .val (.ref a9)] [])) _
    refine o_aloadN X1 hx hby d1_4 5 rfl rfl rfl ?_
    refine st2 _ ?_
    show Steps p.tables e below (T2.setTop (mkF m 7 #[.val (.ref a0), .val (.int p1), .val (.int p2), .val (.ref uS), .val (.ref a4), .val (.ref a5), .val .null, .val (.long (0 : Int64)), .second, .val .null, .val (.ref a9)] [(.ref a2), (.ref uS)])) _
    exact k
  obtain ⟨_, _, ⟨T3, L3, k3, n3⟩, -, X3, ⟨Lc3, hQ3, l3, y3, z3⟩, st3⟩ := Jvm.LawKit.callS X2 hx (y := (⟨"java/util/Objects", "requireNonNull", "(Ljava/lang/Object;Ljava/lang/String;)Ljava/lang/Object;"⟩ : MethodName)) hown (mvT hZ (hw _ (List.mem_of_getElem? (i := 26) rfl))) (mvT hZ (hw _ (List.mem_of_getElem? (i := 27) rfl))) (mvT hZ (hw _ (List.mem_of_getElem? (i := 28) rfl))) (mvT hZ (hw _ (List.mem_of_getElem? (i := 29) rfl))) (by decide) (backOf (W := 0) (rm4 l Z aw hw [] uS a2 h2 n0 Zp2 ) hZ (hw _ (List.mem_of_getElem? (i := 29) rfl)) (hw _ (List.mem_of_getElem? (i := 28) rfl)) (by decide) (by decide)) (g := (mkF m 7 #[.val (.ref a0), .val (.int p1), .val (.int p2), .val (.ref uS), .val (.ref a4), .val (.ref a5), .val .null, .val (.long (0 : Int64)), .second, .val .null, .val (.ref a9)] [(.ref a2), (.ref uS)])) rfl (by rw [hml]; rfl) (argsL := [(.ref uS), (.ref a2)]) (rest := []) (lenOf pd_9 rfl) rfl (by show 2 * 0 + _ ≤ _; exact Nat.le_of_eq rfl) (hb hby d1_7) (fun _ _ => ⟨rfl, e2, (by decide : 2 + 0 ≤ _), (by decide : 24 + 0 ≤ _)⟩)
  dsimp only [Pt.U, Pt.locs, Pt.cells, Pt.slots] at X3 l3 y3 z3 st3 hQ3
  subst l3 y3 z3
  obtain ⟨rfl, N3q, e3⟩ := hQ3
  have N3 := Fr.app N1 N3q
  have go2 : Go p e below A0 (T3.setTop (mkF m 10 #[.val (.ref a0), .val (.int p1), .val (.int p2), .val (.ref uS), .val (.ref a4), .val (.ref a5), .val .null, .val (.long (0 : Int64)), .second, .val .null, .val (.ref a9)] [(.ref uS)])) := by
    intro t k
    refine go1 t ?_
    refine st3 _ ?_
    show Steps p.tables e below (T3.setTop (mkF m 10 #[.val (.ref a0), .val (.int p1), .val (.int p2), .val (.ref uS), .val (.ref a4), .val (.ref a5), .val .null, .val (.long (0 : Int64)), .second, .val .null, .val (.ref a9)] [(.ref uS)])) _
    exact k
  obtain ⟨T4, X4, e4, st4⟩ := getS2 X3 hx hZ hown (host := "") (Or.inl (hw _ (List.mem_of_getElem? (i := 30) rfl))) Via.refl e3 (r11.ext f11.2) (g := (mkF m 30 #[.val (.ref a0), .val (.int p1), .val (.int p2), .val (.ref uS), .val (.ref a4), .val (.ref a5), .val .null, .val (.long (0 : Int64)), .second, .val .null, .val (.ref a9)] [(.ref uS)])) rfl (hb hby d1_30)
  obtain ⟨T5, X5, e5, st5⟩ := getS2 X4 hx hZ hown (host := "") (Or.inl (hw _ (List.mem_of_getElem? (i := 75) rfl))) Via.refl e4 (r16.ext f11.2) (g := (mkF m 191 #[.val (.ref a0), .val (.int p1), .val (.int p2), .val (.ref uS), .val (.ref a4), .val (.ref a5), .val .null, .val (.long (0 : Int64)), .second, .val .null, .val (.ref a9)] [(.ref uS)])) rfl (hb hby d1_191)
  have go3 : Go p e below A0 (T5.setTop (mkF m 231 #[.val (.ref a0), .val (.int p1), .val (.int p2), .val (.ref uS), .val (.ref a4), .val (.ref a5), .val .null, .val (.long (0 : Int64)), .second, .val .null, .val (.ref a9)] [(.int p1), (.ref a0)])) := by
    intro t k
    refine go2 t ?_
    refine o_pop X3 hx hby d1_10 11 rfl rfl ?_
    refine o_iloadN X3 hx hby d1_11 12 rfl rfl ?_
    refine o_ifY X3 hx hby d1_12 29 rfl (flt (hp1)).2.1 ?_
    refine o_aloadN X3 hx hby d1_29 30 rfl rfl rfl ?_
    refine st4 _ ?_
    show Steps p.tables e below (T4.setTop (mkF m 33 #[.val (.ref a0), .val (.int p1), .val (.int p2), .val (.ref uS), .val (.ref a4), .val (.ref a5), .val .null, .val (.long (0 : Int64)), .second, .val .null, .val (.ref a9)] [(.ref uA), (.ref uS)])) _
    refine o_acmp X4 hx hby d1_33 40 (same := false) rfl rfl (decide_eq_false (fun h => r15 (Value.ref.inj h))) (by decide) (by decide) ?_
    refine o_iconst X4 hx hby d1_40 41 rfl (v := (0 : Int32)) rfl ?_
    refine o_aload X4 hx hby d1_41 43 rfl rfl rfl ?_
    refine o_ifnonnullY X4 hx hby d1_43 50 rfl ?_
    refine o_iconst X4 hx hby d1_50 51 rfl (v := (0 : Int32)) rfl ?_
    refine o_icmpN X4 hx hby d1_51 54 rfl (teq (show (0 : Int32) = (0 : Int32) by decide)).2 ?_
    refine o_aload X4 hx hby d1_54 56 rfl rfl rfl ?_
    refine o_ifnonnullY X4 hx hby d1_56 63 rfl ?_
    refine o_iconst X4 hx hby d1_63 64 rfl (v := (0 : Int32)) rfl ?_
    refine o_aload X4 hx hby d1_64 66 rfl rfl rfl ?_
    refine o_ifnonnullY X4 hx hby d1_66 73 rfl ?_
    refine o_iconst X4 hx hby d1_73 74 rfl (v := (0 : Int32)) rfl ?_
    refine o_icmpY X4 hx hby d1_74 98 rfl (teq (show (0 : Int32) = (0 : Int32) by decide)).1 ?_
    refine o_aload X4 hx hby d1_98 100 rfl rfl rfl ?_
    refine o_ifnullY X4 hx hby d1_100 114 rfl ?_
    refine o_lload X4 hx hby d1_114 116 rfl rfl ?_
    refine o_lconst X4 hx hby d1_116 117 rfl (v := (0 : Int64)) rfl ?_
    refine o_lcmp X4 hx hby d1_117 118 rfl ?_
    refine o_ifY X4 hx hby d1_118 126 rfl (teq ((lw_eq (0 : Int64) (0 : Int64)).mpr (show (0 : Int64) = (0 : Int64) by decide))).1 ?_
    refine o_lload X4 hx hby d1_126 128 rfl rfl ?_
    refine o_lconst X4 hx hby d1_128 129 rfl (v := (0 : Int64)) rfl ?_
    refine o_lcmp X4 hx hby d1_129 130 rfl ?_
    refine o_ifY X4 hx hby d1_130 165 rfl (flt (fun q => (show ¬ ((0 : Int64) < (0 : Int64)) by decide) ((lw_lt (0 : Int64) (0 : Int64)).mp q))).2.1 ?_
    refine o_aload X4 hx hby d1_165 167 rfl rfl rfl ?_
    refine o_ifnullY X4 hx hby d1_167 181 rfl ?_
    refine o_aload X4 hx hby d1_181 183 rfl rfl rfl ?_
    refine o_ifnullN X4 hx hby d1_183 186 rfl ?_
    refine o_iloadN X4 hx hby d1_186 187 rfl rfl ?_
    refine o_ifN X4 hx hby d1_187 190 rfl (feq (hp2)).1 ?_
    refine o_aloadN X4 hx hby d1_190 191 rfl rfl rfl ?_
    refine st5 _ ?_
    show Steps p.tables e below (T5.setTop (mkF m 194 #[.val (.ref a0), .val (.int p1), .val (.int p2), .val (.ref uS), .val (.ref a4), .val (.ref a5), .val .null, .val (.long (0 : Int64)), .second, .val .null, .val (.ref a9)] [(.ref uS), (.ref uS)])) _
    refine o_acmp X5 hx hby d1_194 229 (same := true) rfl rfl (by simp) (by decide) (by decide) ?_
    refine o_aloadN X5 hx hby d1_229 230 rfl rfl rfl ?_
    refine o_iloadN X5 hx hby d1_230 231 rfl rfl ?_
    exact k
  obtain ⟨T6, h6, X6, e6, W6, st6⟩ := putF X5 hx hZ hown (host := "") (Or.inl (hw _ (List.mem_of_getElem? (i := 31) rfl))) Via.refl e5 f2 f1 (Or.inr ⟨(hw _ (List.mem_of_getElem? (i := 32) rfl)), rfl, hnm⟩) (hw _ (List.mem_of_getElem? (i := 5) rfl)) (ty := .int) (by decide) rfl rfl (g := (mkF m 231 #[.val (.ref a0), .val (.int p1), .val (.int p2), .val (.ref uS), .val (.ref a4), .val (.ref a5), .val .null, .val (.long (0 : Int64)), .second, .val .null, .val (.ref a9)] [(.int p1), (.ref a0)])) rfl rfl (hb hby d1_231)
  have f12 : Exa Z h6 a0 "org/shardwright/model/ShardCopy" := f1.wr W6
  have f13 : Fld Z h6 a0 "org/shardwright/model/ShardCopy" "primary" "Z" (.int (0 : Int32)) := f3.other W6 (Or.inr (slot_ne (Or.inr (hw _ (List.mem_of_getElem? (i := 34) rfl))) (Or.inr (hw _ (List.mem_of_getElem? (i := 32) rfl))) (by decide) (t := .boolean) (t' := .int) (by decide) (by decide)))
  have f14 : Fld Z h6 a0 "org/shardwright/model/ShardCopy" "state" "Lorg/shardwright/model/ShardCopy$State;" .null := f4.other W6 (Or.inr (slot_ne (Or.inr (hw _ (List.mem_of_getElem? (i := 36) rfl))) (Or.inr (hw _ (List.mem_of_getElem? (i := 32) rfl))) (by decide) (t := (.object "org/shardwright/model/ShardCopy$State")) (t' := .int) (by decide) (by decide)))
  have f15 : Fld Z h6 a0 "org/shardwright/model/ShardCopy" "nodeId" "Ljava/lang/String;" .null := f5.other W6 (Or.inr (slot_ne (Or.inr (hw _ (List.mem_of_getElem? (i := 38) rfl))) (Or.inr (hw _ (List.mem_of_getElem? (i := 32) rfl))) (by decide) (t := (.object "java/lang/String")) (t' := .int) (by decide) (by decide)))
  have f16 : Fld Z h6 a0 "org/shardwright/model/ShardCopy" "allocationId" "Ljava/lang/String;" .null := f6.other W6 (Or.inr (slot_ne (Or.inr (hw _ (List.mem_of_getElem? (i := 40) rfl))) (Or.inr (hw _ (List.mem_of_getElem? (i := 32) rfl))) (by decide) (t := (.object "java/lang/String")) (t' := .int) (by decide) (by decide)))
  have f17 : Fld Z h6 a0 "org/shardwright/model/ShardCopy" "lastNodeId" "Ljava/lang/String;" .null := f7.other W6 (Or.inr (slot_ne (Or.inr (hw _ (List.mem_of_getElem? (i := 42) rfl))) (Or.inr (hw _ (List.mem_of_getElem? (i := 32) rfl))) (by decide) (t := (.object "java/lang/String")) (t' := .int) (by decide) (by decide)))
  have f18 : Fld Z h6 a0 "org/shardwright/model/ShardCopy" "unassignedAtMillis" "J" (.long (0 : Int64)) := f8.other W6 (Or.inr (slot_ne (Or.inr (hw _ (List.mem_of_getElem? (i := 44) rfl))) (Or.inr (hw _ (List.mem_of_getElem? (i := 32) rfl))) (by decide) (t := .long) (t' := .int) (by decide) (by decide)))
  have f19 : Fld Z h6 a0 "org/shardwright/model/ShardCopy" "replaces" "Ljava/lang/String;" .null := f9.other W6 (Or.inr (slot_ne (Or.inr (hw _ (List.mem_of_getElem? (i := 46) rfl))) (Or.inr (hw _ (List.mem_of_getElem? (i := 32) rfl))) (by decide) (t := (.object "java/lang/String")) (t' := .int) (by decide) (by decide)))
  have f20 : Fld Z h6 a0 "org/shardwright/model/ShardCopy" "handsOverTo" "Ljava/lang/String;" .null := f10.other W6 (Or.inr (slot_ne (Or.inr (hw _ (List.mem_of_getElem? (i := 48) rfl))) (Or.inr (hw _ (List.mem_of_getElem? (i := 32) rfl))) (by decide) (t := (.object "java/lang/String")) (t' := .int) (by decide) (by decide)))
  have f21 : Old Z n0 h6 := f11.wr W6 r1
  have Zp6 : n0 ≤ h6.size := Nat.le_trans Zp2 (Keep.of_wr W6).1
  have sk6 := Nat.le_trans sk2 (Keep.of_wr W6).1
  have K6 : Keep h0 h6 [a0] := K2.wr W6 (Or.inl (List.mem_of_getElem? (i := 0) rfl))
  have N6 := Fr.snoc X6 N3 r1
  have f22 : Fld Z h6 a0 "org/shardwright/model/ShardCopy" "shard" "I" (.int p1) := f2.same W6
  have go4 : Go p e below A0 (T6.setTop (mkF m 236 #[.val (.ref a0), .val (.int p1), .val (.int p2), .val (.ref uS), .val (.ref a4), .val (.ref a5), .val .null, .val (.long (0 : Int64)), .second, .val .null, .val (.ref a9)] [(.int p2), (.ref a0)])) := by
    intro t k
    refine go3 t ?_
    refine st6 _ ?_
    show Steps p.tables e below (T6.setTop (mkF m 234 #[.val (.ref a0), .val (.int p1), .val (.int p2), .val (.ref uS), .val (.ref a4), .val (.ref a5), .val .null, .val (.long (0 : Int64)), .second, .val .null, .val (.ref a9)] [])) _
    refine o_aloadN X6 hx hby d1_234 235 rfl rfl rfl ?_
    refine o_iloadN X6 hx hby d1_235 236 rfl rfl ?_
    exact k
  obtain ⟨T7, h7, X7, e7, W7, st7⟩ := putFN X6 hx hZ hown (hw _ (List.mem_of_getElem? (i := 33) rfl)) Via.refl e6 f13 f12 (Or.inr ⟨(hw _ (List.mem_of_getElem? (i := 34) rfl)), rfl, hnm⟩) (hw _ (List.mem_of_getElem? (i := 5) rfl)) (ty := .boolean) (v' := (.int p2)) (by decide) (o_nf hz2).1 (o_nf hz2).2 (g := (mkF m 236 #[.val (.ref a0), .val (.int p1), .val (.int p2), .val (.ref uS), .val (.ref a4), .val (.ref a5), .val .null, .val (.long (0 : Int64)), .second, .val .null, .val (.ref a9)] [(.int p2), (.ref a0)])) rfl rfl (hb hby d1_236)
  have f23 : Exa Z h7 a0 "org/shardwright/model/ShardCopy" := f12.wr W7
  have f24 : Fld Z h7 a0 "org/shardwright/model/ShardCopy" "state" "Lorg/shardwright/model/ShardCopy$State;" .null := f14.other W7 (Or.inr (slot_ne (Or.inr (hw _ (List.mem_of_getElem? (i := 36) rfl))) (Or.inr (hw _ (List.mem_of_getElem? (i := 34) rfl))) (by decide) (t := (.object "org/shardwright/model/ShardCopy$State")) (t' := .boolean) (by decide) (by decide)))
  have f25 : Fld Z h7 a0 "org/shardwright/model/ShardCopy" "nodeId" "Ljava/lang/String;" .null := f15.other W7 (Or.inr (slot_ne (Or.inr (hw _ (List.mem_of_getElem? (i := 38) rfl))) (Or.inr (hw _ (List.mem_of_getElem? (i := 34) rfl))) (by decide) (t := (.object "java/lang/String")) (t' := .boolean) (by decide) (by decide)))
  have f26 : Fld Z h7 a0 "org/shardwright/model/ShardCopy" "allocationId" "Ljava/lang/String;" .null := f16.other W7 (Or.inr (slot_ne (Or.inr (hw _ (List.mem_of_getElem? (i := 40) rfl))) (Or.inr (hw _ (List.mem_of_getElem? (i := 34) rfl))) (by decide) (t := (.object "java/lang/String")) (t' := .boolean) (by decide) (by decide)))
  have f27 : Fld Z h7 a0 "org/shardwright/model/ShardCopy" "lastNodeId" "Ljava/lang/String;" .null := f17.other W7 (Or.inr (slot_ne (Or.inr (hw _ (List.mem_of_getElem? (i := 42) rfl))) (Or.inr (hw _ (List.mem_of_getElem? (i := 34) rfl))) (by decide) (t := (.object "java/lang/String")) (t' := .boolean) (by decide) (by decide)))
  have f28 : Fld Z h7 a0 "org/shardwright/model/ShardCopy" "unassignedAtMillis" "J" (.long (0 : Int64)) := f18.other W7 (Or.inr (slot_ne (Or.inr (hw _ (List.mem_of_getElem? (i := 44) rfl))) (Or.inr (hw _ (List.mem_of_getElem? (i := 34) rfl))) (by decide) (t := .long) (t' := .boolean) (by decide) (by decide)))
  have f29 : Fld Z h7 a0 "org/shardwright/model/ShardCopy" "replaces" "Ljava/lang/String;" .null := f19.other W7 (Or.inr (slot_ne (Or.inr (hw _ (List.mem_of_getElem? (i := 46) rfl))) (Or.inr (hw _ (List.mem_of_getElem? (i := 34) rfl))) (by decide) (t := (.object "java/lang/String")) (t' := .boolean) (by decide) (by decide)))
  have f30 : Fld Z h7 a0 "org/shardwright/model/ShardCopy" "handsOverTo" "Ljava/lang/String;" .null := f20.other W7 (Or.inr (slot_ne (Or.inr (hw _ (List.mem_of_getElem? (i := 48) rfl))) (Or.inr (hw _ (List.mem_of_getElem? (i := 34) rfl))) (by decide) (t := (.object "java/lang/String")) (t' := .boolean) (by decide) (by decide)))
  have f31 : Old Z n0 h7 := f21.wr W7 r1
  have f32 : Fld Z h7 a0 "org/shardwright/model/ShardCopy" "shard" "I" (.int p1) := f22.other W7 (Or.inr (slot_ne (Or.inr (hw _ (List.mem_of_getElem? (i := 32) rfl))) (Or.inr (hw _ (List.mem_of_getElem? (i := 34) rfl))) (by decide) (t := .int) (t' := .boolean) (by decide) (by decide)))
  have Zp7 : n0 ≤ h7.size := Nat.le_trans Zp6 (Keep.of_wr W7).1
  have sk7 := Nat.le_trans sk6 (Keep.of_wr W7).1
  have K7 : Keep h0 h7 [a0] := K6.wr W7 (Or.inl (List.mem_of_getElem? (i := 0) rfl))
  have N7 := Fr.snoc X7 N6 r1
  have f33 : Fld Z h7 a0 "org/shardwright/model/ShardCopy" "primary" "Z" (.int p2) := f13.same W7
  have go5 : Go p e below A0 (T7.setTop (mkF m 241 #[.val (.ref a0), .val (.int p1), .val (.int p2), .val (.ref uS), .val (.ref a4), .val (.ref a5), .val .null, .val (.long (0 : Int64)), .second, .val .null, .val (.ref a9)] [(.ref uS), (.ref a0)])) := by
    intro t k
    refine go4 t ?_
    refine st7 _ ?_
    show Steps p.tables e below (T7.setTop (mkF m 239 #[.val (.ref a0), .val (.int p1), .val (.int p2), .val (.ref uS), .val (.ref a4), .val (.ref a5), .val .null, .val (.long (0 : Int64)), .second, .val .null, .val (.ref a9)] [])) _
    refine o_aloadN X7 hx hby d1_239 240 rfl rfl rfl ?_
    refine o_aloadN X7 hx hby d1_240 241 rfl rfl rfl ?_
    exact k
  obtain ⟨T8, h8, X8, e8, W8, st8⟩ := putF X7 hx hZ hown (host := "") (Or.inl (hw _ (List.mem_of_getElem? (i := 35) rfl))) Via.refl e7 f24 f23 (Or.inr ⟨(hw _ (List.mem_of_getElem? (i := 36) rfl)), rfl, hnm⟩) (hw _ (List.mem_of_getElem? (i := 5) rfl)) (ty := (.object "org/shardwright/model/ShardCopy$State")) (by decide) rfl rfl (g := (mkF m 241 #[.val (.ref a0), .val (.int p1), .val (.int p2), .val (.ref uS), .val (.ref a4), .val (.ref a5), .val .null, .val (.long (0 : Int64)), .second, .val .null, .val (.ref a9)] [(.ref uS), (.ref a0)])) rfl rfl (hb hby d1_241)
  have f34 : Exa Z h8 a0 "org/shardwright/model/ShardCopy" := f23.wr W8
  have f35 : Fld Z h8 a0 "org/shardwright/model/ShardCopy" "nodeId" "Ljava/lang/String;" .null := f25.other W8 (Or.inr (slot_ne (Or.inr (hw _ (List.mem_of_getElem? (i := 38) rfl))) (Or.inr (hw _ (List.mem_of_getElem? (i := 36) rfl))) (by decide) (t := (.object "java/lang/String")) (t' := (.object "org/shardwright/model/ShardCopy$State")) (by decide) (by decide)))
  have f36 : Fld Z h8 a0 "org/shardwright/model/ShardCopy" "allocationId" "Ljava/lang/String;" .null := f26.other W8 (Or.inr (slot_ne (Or.inr (hw _ (List.mem_of_getElem? (i := 40) rfl))) (Or.inr (hw _ (List.mem_of_getElem? (i := 36) rfl))) (by decide) (t := (.object "java/lang/String")) (t' := (.object "org/shardwright/model/ShardCopy$State")) (by decide) (by decide)))
  have f37 : Fld Z h8 a0 "org/shardwright/model/ShardCopy" "lastNodeId" "Ljava/lang/String;" .null := f27.other W8 (Or.inr (slot_ne (Or.inr (hw _ (List.mem_of_getElem? (i := 42) rfl))) (Or.inr (hw _ (List.mem_of_getElem? (i := 36) rfl))) (by decide) (t := (.object "java/lang/String")) (t' := (.object "org/shardwright/model/ShardCopy$State")) (by decide) (by decide)))
  have f38 : Fld Z h8 a0 "org/shardwright/model/ShardCopy" "unassignedAtMillis" "J" (.long (0 : Int64)) := f28.other W8 (Or.inr (slot_ne (Or.inr (hw _ (List.mem_of_getElem? (i := 44) rfl))) (Or.inr (hw _ (List.mem_of_getElem? (i := 36) rfl))) (by decide) (t := .long) (t' := (.object "org/shardwright/model/ShardCopy$State")) (by decide) (by decide)))
  have f39 : Fld Z h8 a0 "org/shardwright/model/ShardCopy" "replaces" "Ljava/lang/String;" .null := f29.other W8 (Or.inr (slot_ne (Or.inr (hw _ (List.mem_of_getElem? (i := 46) rfl))) (Or.inr (hw _ (List.mem_of_getElem? (i := 36) rfl))) (by decide) (t := (.object "java/lang/String")) (t' := (.object "org/shardwright/model/ShardCopy$State")) (by decide) (by decide)))
  have f40 : Fld Z h8 a0 "org/shardwright/model/ShardCopy" "handsOverTo" "Ljava/lang/String;" .null := f30.other W8 (Or.inr (slot_ne (Or.inr (hw _ (List.mem_of_getElem? (i := 48) rfl))) (Or.inr (hw _ (List.mem_of_getElem? (i := 36) rfl))) (by decide) (t := (.object "java/lang/String")) (t' := (.object "org/shardwright/model/ShardCopy$State")) (by decide) (by decide)))
  have f41 : Old Z n0 h8 := f31.wr W8 r1
  have f42 : Fld Z h8 a0 "org/shardwright/model/ShardCopy" "shard" "I" (.int p1) := f32.other W8 (Or.inr (slot_ne (Or.inr (hw _ (List.mem_of_getElem? (i := 32) rfl))) (Or.inr (hw _ (List.mem_of_getElem? (i := 36) rfl))) (by decide) (t := .int) (t' := (.object "org/shardwright/model/ShardCopy$State")) (by decide) (by decide)))
  have f43 : Fld Z h8 a0 "org/shardwright/model/ShardCopy" "primary" "Z" (.int p2) := f33.other W8 (Or.inr (slot_ne (Or.inr (hw _ (List.mem_of_getElem? (i := 34) rfl))) (Or.inr (hw _ (List.mem_of_getElem? (i := 36) rfl))) (by decide) (t := .boolean) (t' := (.object "org/shardwright/model/ShardCopy$State")) (by decide) (by decide)))
  have Zp8 : n0 ≤ h8.size := Nat.le_trans Zp7 (Keep.of_wr W8).1
  have sk8 := Nat.le_trans sk7 (Keep.of_wr W8).1
  have K8 : Keep h0 h8 [a0] := K7.wr W8 (Or.inl (List.mem_of_getElem? (i := 0) rfl))
  have N8 := Fr.snoc X8 N7 r1
  have f44 : Fld Z h8 a0 "org/shardwright/model/ShardCopy" "state" "Lorg/shardwright/model/ShardCopy$State;" (.ref uS) := f24.same W8
  have go6 : Go p e below A0 (T8.setTop (mkF m 247 #[.val (.ref a0), .val (.int p1), .val (.int p2), .val (.ref uS), .val (.ref a4), .val (.ref a5), .val .null, .val (.long (0 : Int64)), .second, .val .null, .val (.ref a9)] [(.ref a4), (.ref a0)])) := by
    intro t k
    refine go5 t ?_
    refine st8 _ ?_
    show Steps p.tables e below (T8.setTop (mkF m 244 #[.val (.ref a0), .val (.int p1), .val (.int p2), .val (.ref uS), .val (.ref a4), .val (.ref a5), .val .null, .val (.long (0 : Int64)), .second, .val .null, .val (.ref a9)] [])) _
    refine o_aloadN X8 hx hby d1_244 245 rfl rfl rfl ?_
    refine o_aload X8 hx hby d1_245 247 rfl rfl rfl ?_
    exact k
  obtain ⟨T9, h9, X9, e9, W9, st9⟩ := putF X8 hx hZ hown (host := "") (Or.inl (hw _ (List.mem_of_getElem? (i := 37) rfl))) Via.refl e8 f35 f34 (Or.inr ⟨(hw _ (List.mem_of_getElem? (i := 38) rfl)), rfl, hnm⟩) (hw _ (List.mem_of_getElem? (i := 5) rfl)) (ty := (.object "java/lang/String")) (by decide) rfl rfl (g := (mkF m 247 #[.val (.ref a0), .val (.int p1), .val (.int p2), .val (.ref uS), .val (.ref a4), .val (.ref a5), .val .null, .val (.long (0 : Int64)), .second, .val .null, .val (.ref a9)] [(.ref a4), (.ref a0)])) rfl rfl (hb hby d1_247)
  have f45 : Exa Z h9 a0 "org/shardwright/model/ShardCopy" := f34.wr W9
  have f46 : Fld Z h9 a0 "org/shardwright/model/ShardCopy" "allocationId" "Ljava/lang/String;" .null := f36.other W9 (Or.inr (slot_ne (Or.inr (hw _ (List.mem_of_getElem? (i := 40) rfl))) (Or.inr (hw _ (List.mem_of_getElem? (i := 38) rfl))) (by decide) (t := (.object "java/lang/String")) (t' := (.object "java/lang/String")) (by decide) (by decide)))
  have f47 : Fld Z h9 a0 "org/shardwright/model/ShardCopy" "lastNodeId" "Ljava/lang/String;" .null := f37.other W9 (Or.inr (slot_ne (Or.inr (hw _ (List.mem_of_getElem? (i := 42) rfl))) (Or.inr (hw _ (List.mem_of_getElem? (i := 38) rfl))) (by decide) (t := (.object "java/lang/String")) (t' := (.object "java/lang/String")) (by decide) (by decide)))
  have f48 : Fld Z h9 a0 "org/shardwright/model/ShardCopy" "unassignedAtMillis" "J" (.long (0 : Int64)) := f38.other W9 (Or.inr (slot_ne (Or.inr (hw _ (List.mem_of_getElem? (i := 44) rfl))) (Or.inr (hw _ (List.mem_of_getElem? (i := 38) rfl))) (by decide) (t := .long) (t' := (.object "java/lang/String")) (by decide) (by decide)))
  have f49 : Fld Z h9 a0 "org/shardwright/model/ShardCopy" "replaces" "Ljava/lang/String;" .null := f39.other W9 (Or.inr (slot_ne (Or.inr (hw _ (List.mem_of_getElem? (i := 46) rfl))) (Or.inr (hw _ (List.mem_of_getElem? (i := 38) rfl))) (by decide) (t := (.object "java/lang/String")) (t' := (.object "java/lang/String")) (by decide) (by decide)))
  have f50 : Fld Z h9 a0 "org/shardwright/model/ShardCopy" "handsOverTo" "Ljava/lang/String;" .null := f40.other W9 (Or.inr (slot_ne (Or.inr (hw _ (List.mem_of_getElem? (i := 48) rfl))) (Or.inr (hw _ (List.mem_of_getElem? (i := 38) rfl))) (by decide) (t := (.object "java/lang/String")) (t' := (.object "java/lang/String")) (by decide) (by decide)))
  have f51 : Old Z n0 h9 := f41.wr W9 r1
  have f52 : Fld Z h9 a0 "org/shardwright/model/ShardCopy" "shard" "I" (.int p1) := f42.other W9 (Or.inr (slot_ne (Or.inr (hw _ (List.mem_of_getElem? (i := 32) rfl))) (Or.inr (hw _ (List.mem_of_getElem? (i := 38) rfl))) (by decide) (t := .int) (t' := (.object "java/lang/String")) (by decide) (by decide)))
  have f53 : Fld Z h9 a0 "org/shardwright/model/ShardCopy" "primary" "Z" (.int p2) := f43.other W9 (Or.inr (slot_ne (Or.inr (hw _ (List.mem_of_getElem? (i := 34) rfl))) (Or.inr (hw _ (List.mem_of_getElem? (i := 38) rfl))) (by decide) (t := .boolean) (t' := (.object "java/lang/String")) (by decide) (by decide)))
  have f54 : Fld Z h9 a0 "org/shardwright/model/ShardCopy" "state" "Lorg/shardwright/model/ShardCopy$State;" (.ref uS) := f44.other W9 (Or.inr (slot_ne (Or.inr (hw _ (List.mem_of_getElem? (i := 36) rfl))) (Or.inr (hw _ (List.mem_of_getElem? (i := 38) rfl))) (by decide) (t := (.object "org/shardwright/model/ShardCopy$State")) (t' := (.object "java/lang/String")) (by decide) (by decide)))
  have Zp9 : n0 ≤ h9.size := Nat.le_trans Zp8 (Keep.of_wr W9).1
  have sk9 := Nat.le_trans sk8 (Keep.of_wr W9).1
  have K9 : Keep h0 h9 [a0] := K8.wr W9 (Or.inl (List.mem_of_getElem? (i := 0) rfl))
  have N9 := Fr.snoc X9 N8 r1
  have f55 : Fld Z h9 a0 "org/shardwright/model/ShardCopy" "nodeId" "Ljava/lang/String;" (.ref a4) := f35.same W9
  have go7 : Go p e below A0 (T9.setTop (mkF m 253 #[.val (.ref a0), .val (.int p1), .val (.int p2), .val (.ref uS), .val (.ref a4), .val (.ref a5), .val .null, .val (.long (0 : Int64)), .second, .val .null, .val (.ref a9)] [(.ref a5), (.ref a0)])) := by
    intro t k
    refine go6 t ?_
    refine st9 _ ?_
    show Steps p.tables e below (T9.setTop (mkF m 250 #[.val (.ref a0), .val (.int p1), .val (.int p2), .val (.ref uS), .val (.ref a4), .val (.ref a5), .val .null, .val (.long (0 : Int64)), .second, .val .null, .val (.ref a9)] [])) _
    refine o_aloadN X9 hx hby d1_250 251 rfl rfl rfl ?_
    refine o_aload X9 hx hby d1_251 253 rfl rfl rfl ?_
    exact k
  obtain ⟨T10, h10, X10, e10, W10, st10⟩ := putF X9 hx hZ hown (host := "") (Or.inl (hw _ (List.mem_of_getElem? (i := 39) rfl))) Via.refl e9 f46 f45 (Or.inr ⟨(hw _ (List.mem_of_getElem? (i := 40) rfl)), rfl, hnm⟩) (hw _ (List.mem_of_getElem? (i := 5) rfl)) (ty := (.object "java/lang/String")) (by decide) rfl rfl (g := (mkF m 253 #[.val (.ref a0), .val (.int p1), .val (.int p2), .val (.ref uS), .val (.ref a4), .val (.ref a5), .val .null, .val (.long (0 : Int64)), .second, .val .null, .val (.ref a9)] [(.ref a5), (.ref a0)])) rfl rfl (hb hby d1_253)
  have f56 : Exa Z h10 a0 "org/shardwright/model/ShardCopy" := f45.wr W10
  have f57 : Fld Z h10 a0 "org/shardwright/model/ShardCopy" "lastNodeId" "Ljava/lang/String;" .null := f47.other W10 (Or.inr (slot_ne (Or.inr (hw _ (List.mem_of_getElem? (i := 42) rfl))) (Or.inr (hw _ (List.mem_of_getElem? (i := 40) rfl))) (by decide) (t := (.object "java/lang/String")) (t' := (.object "java/lang/String")) (by decide) (by decide)))
  have f58 : Fld Z h10 a0 "org/shardwright/model/ShardCopy" "unassignedAtMillis" "J" (.long (0 : Int64)) := f48.other W10 (Or.inr (slot_ne (Or.inr (hw _ (List.mem_of_getElem? (i := 44) rfl))) (Or.inr (hw _ (List.mem_of_getElem? (i := 40) rfl))) (by decide) (t := .long) (t' := (.object "java/lang/String")) (by decide) (by decide)))
  have f59 : Fld Z h10 a0 "org/shardwright/model/ShardCopy" "replaces" "Ljava/lang/String;" .null := f49.other W10 (Or.inr (slot_ne (Or.inr (hw _ (List.mem_of_getElem? (i := 46) rfl))) (Or.inr (hw _ (List.mem_of_getElem? (i := 40) rfl))) (by decide) (t := (.object "java/lang/String")) (t' := (.object "java/lang/String")) (by decide) (by decide)))
  have f60 : Fld Z h10 a0 "org/shardwright/model/ShardCopy" "handsOverTo" "Ljava/lang/String;" .null := f50.other W10 (Or.inr (slot_ne (Or.inr (hw _ (List.mem_of_getElem? (i := 48) rfl))) (Or.inr (hw _ (List.mem_of_getElem? (i := 40) rfl))) (by decide) (t := (.object "java/lang/String")) (t' := (.object "java/lang/String")) (by decide) (by decide)))
  have f61 : Old Z n0 h10 := f51.wr W10 r1
  have f62 : Fld Z h10 a0 "org/shardwright/model/ShardCopy" "shard" "I" (.int p1) := f52.other W10 (Or.inr (slot_ne (Or.inr (hw _ (List.mem_of_getElem? (i := 32) rfl))) (Or.inr (hw _ (List.mem_of_getElem? (i := 40) rfl))) (by decide) (t := .int) (t' := (.object "java/lang/String")) (by decide) (by decide)))
  have f63 : Fld Z h10 a0 "org/shardwright/model/ShardCopy" "primary" "Z" (.int p2) := f53.other W10 (Or.inr (slot_ne (Or.inr (hw _ (List.mem_of_getElem? (i := 34) rfl))) (Or.inr (hw _ (List.mem_of_getElem? (i := 40) rfl))) (by decide) (t := .boolean) (t' := (.object "java/lang/String")) (by decide) (by decide)))
  have f64 : Fld Z h10 a0 "org/shardwright/model/ShardCopy" "state" "Lorg/shardwright/model/ShardCopy$State;" (.ref uS) := f54.other W10 (Or.inr (slot_ne (Or.inr (hw _ (List.mem_of_getElem? (i := 36) rfl))) (Or.inr (hw _ (List.mem_of_getElem? (i := 40) rfl))) (by decide) (t := (.object "org/shardwright/model/ShardCopy$State")) (t' := (.object "java/lang/String")) (by decide) (by decide)))
  have f65 : Fld Z h10 a0 "org/shardwright/model/ShardCopy" "nodeId" "Ljava/lang/String;" (.ref a4) := f55.other W10 (Or.inr (slot_ne (Or.inr (hw _ (List.mem_of_getElem? (i := 38) rfl))) (Or.inr (hw _ (List.mem_of_getElem? (i := 40) rfl))) (by decide) (t := (.object "java/lang/String")) (t' := (.object "java/lang/String")) (by decide) (by decide)))
  have Zp10 : n0 ≤ h10.size := Nat.le_trans Zp9 (Keep.of_wr W10).1
  have sk10 := Nat.le_trans sk9 (Keep.of_wr W10).1
  have K10 : Keep h0 h10 [a0] := K9.wr W10 (Or.inl (List.mem_of_getElem? (i := 0) rfl))
  have N10 := Fr.snoc X10 N9 r1
  have f66 : Fld Z h10 a0 "org/shardwright/model/ShardCopy" "allocationId" "Ljava/lang/String;" (.ref a5) := f46.same W10
  have go8 : Go p e below A0 (T10.setTop (mkF m 259 #[.val (.ref a0), .val (.int p1), .val (.int p2), .val (.ref uS), .val (.ref a4), .val (.ref a5), .val .null, .val (.long (0 : Int64)), .second, .val .null, .val (.ref a9)] [.null, (.ref a0)])) := by
    intro t k
    refine go7 t ?_
    refine st10 _ ?_
    show Steps p.tables e below (T10.setTop (mkF m 256 #[.val (.ref a0), .val (.int p1), .val (.int p2), .val (.ref uS), .val (.ref a4), .val (.ref a5), .val .null, .val (.long (0 : Int64)), .second, .val .null, .val (.ref a9)] [])) _
    refine o_aloadN X10 hx hby d1_256 257 rfl rfl rfl ?_
    refine o_aload X10 hx hby d1_257 259 rfl rfl rfl ?_
    exact k
  obtain ⟨T11, h11, X11, e11, W11, st11⟩ := putF X10 hx hZ hown (host := "") (Or.inl (hw _ (List.mem_of_getElem? (i := 41) rfl))) Via.refl e10 f57 f56 (Or.inr ⟨(hw _ (List.mem_of_getElem? (i := 42) rfl)), rfl, hnm⟩) (hw _ (List.mem_of_getElem? (i := 5) rfl)) (ty := (.object "java/lang/String")) (by decide) rfl rfl (g := (mkF m 259 #[.val (.ref a0), .val (.int p1), .val (.int p2), .val (.ref uS), .val (.ref a4), .val (.ref a5), .val .null, .val (.long (0 : Int64)), .second, .val .null, .val (.ref a9)] [.null, (.ref a0)])) rfl rfl (hb hby d1_259)
  have f67 : Exa Z h11 a0 "org/shardwright/model/ShardCopy" := f56.wr W11
  have f68 : Fld Z h11 a0 "org/shardwright/model/ShardCopy" "unassignedAtMillis" "J" (.long (0 : Int64)) := f58.other W11 (Or.inr (slot_ne (Or.inr (hw _ (List.mem_of_getElem? (i := 44) rfl))) (Or.inr (hw _ (List.mem_of_getElem? (i := 42) rfl))) (by decide) (t := .long) (t' := (.object "java/lang/String")) (by decide) (by decide)))
  have f69 : Fld Z h11 a0 "org/shardwright/model/ShardCopy" "replaces" "Ljava/lang/String;" .null := f59.other W11 (Or.inr (slot_ne (Or.inr (hw _ (List.mem_of_getElem? (i := 46) rfl))) (Or.inr (hw _ (List.mem_of_getElem? (i := 42) rfl))) (by decide) (t := (.object "java/lang/String")) (t' := (.object "java/lang/String")) (by decide) (by decide)))
  have f70 : Fld Z h11 a0 "org/shardwright/model/ShardCopy" "handsOverTo" "Ljava/lang/String;" .null := f60.other W11 (Or.inr (slot_ne (Or.inr (hw _ (List.mem_of_getElem? (i := 48) rfl))) (Or.inr (hw _ (List.mem_of_getElem? (i := 42) rfl))) (by decide) (t := (.object "java/lang/String")) (t' := (.object "java/lang/String")) (by decide) (by decide)))
  have f71 : Old Z n0 h11 := f61.wr W11 r1
  have f72 : Fld Z h11 a0 "org/shardwright/model/ShardCopy" "shard" "I" (.int p1) := f62.other W11 (Or.inr (slot_ne (Or.inr (hw _ (List.mem_of_getElem? (i := 32) rfl))) (Or.inr (hw _ (List.mem_of_getElem? (i := 42) rfl))) (by decide) (t := .int) (t' := (.object "java/lang/String")) (by decide) (by decide)))
  have f73 : Fld Z h11 a0 "org/shardwright/model/ShardCopy" "primary" "Z" (.int p2) := f63.other W11 (Or.inr (slot_ne (Or.inr (hw _ (List.mem_of_getElem? (i := 34) rfl))) (Or.inr (hw _ (List.mem_of_getElem? (i := 42) rfl))) (by decide) (t := .boolean) (t' := (.object "java/lang/String")) (by decide) (by decide)))
  have f74 : Fld Z h11 a0 "org/shardwright/model/ShardCopy" "state" "Lorg/shardwright/model/ShardCopy$State;" (.ref uS) := f64.other W11 (Or.inr (slot_ne (Or.inr (hw _ (List.mem_of_getElem? (i := 36) rfl))) (Or.inr (hw _ (List.mem_of_getElem? (i := 42) rfl))) (by decide) (t := (.object "org/shardwright/model/ShardCopy$State")) (t' := (.object "java/lang/String")) (by decide) (by decide)))
  have f75 : Fld Z h11 a0 "org/shardwright/model/ShardCopy" "nodeId" "Ljava/lang/String;" (.ref a4) := f65.other W11 (Or.inr (slot_ne (Or.inr (hw _ (List.mem_of_getElem? (i := 38) rfl))) (Or.inr (hw _ (List.mem_of_getElem? (i := 42) rfl))) (by decide) (t := (.object "java/lang/String")) (t' := (.object "java/lang/String")) (by decide) (by decide)))
  have f76 : Fld Z h11 a0 "org/shardwright/model/ShardCopy" "allocationId" "Ljava/lang/String;" (.ref a5) := f66.other W11 (Or.inr (slot_ne (Or.inr (hw _ (List.mem_of_getElem? (i := 40) rfl))) (Or.inr (hw _ (List.mem_of_getElem? (i := 42) rfl))) (by decide) (t := (.object "java/lang/String")) (t' := (.object "java/lang/String")) (by decide) (by decide)))
  have Zp11 : n0 ≤ h11.size := Nat.le_trans Zp10 (Keep.of_wr W11).1
  have sk11 := Nat.le_trans sk10 (Keep.of_wr W11).1
  have K11 : Keep h0 h11 [a0] := K10.wr W11 (Or.inl (List.mem_of_getElem? (i := 0) rfl))
  have N11 := Fr.snoc X11 N10 r1
  have f77 : Fld Z h11 a0 "org/shardwright/model/ShardCopy" "lastNodeId" "Ljava/lang/String;" .null := f57.same W11
  have go9 : Go p e below A0 (T11.setTop (mkF m 265 #[.val (.ref a0), .val (.int p1), .val (.int p2), .val (.ref uS), .val (.ref a4), .val (.ref a5), .val .null, .val (.long (0 : Int64)), .second, .val .null, .val (.ref a9)] [(.long (0 : Int64)), (.ref a0)])) := by
    intro t k
    refine go8 t ?_
    refine st11 _ ?_
    show Steps p.tables e below (T11.setTop (mkF m 262 #[.val (.ref a0), .val (.int p1), .val (.int p2), .val (.ref uS), .val (.ref a4), .val (.ref a5), .val .null, .val (.long (0 : Int64)), .second, .val .null, .val (.ref a9)] [])) _
    refine o_aloadN X11 hx hby d1_262 263 rfl rfl rfl ?_
    refine o_lload X11 hx hby d1_263 265 rfl rfl ?_
    exact k
  obtain ⟨T12, h12, X12, e12, W12, st12⟩ := putF X11 hx hZ hown (host := "") (Or.inl (hw _ (List.mem_of_getElem? (i := 43) rfl))) Via.refl e11 f68 f67 (Or.inr ⟨(hw _ (List.mem_of_getElem? (i := 44) rfl)), rfl, hnm⟩) (hw _ (List.mem_of_getElem? (i := 5) rfl)) (ty := .long) (by decide) rfl rfl (g := (mkF m 265 #[.val (.ref a0), .val (.int p1), .val (.int p2), .val (.ref uS), .val (.ref a4), .val (.ref a5), .val .null, .val (.long (0 : Int64)), .second, .val .null, .val (.ref a9)] [(.long (0 : Int64)), (.ref a0)])) rfl rfl (hb hby d1_265)
  have f78 : Exa Z h12 a0 "org/shardwright/model/ShardCopy" := f67.wr W12
  have f79 : Fld Z h12 a0 "org/shardwright/model/ShardCopy" "replaces" "Ljava/lang/String;" .null := f69.other W12 (Or.inr (slot_ne (Or.inr (hw _ (List.mem_of_getElem? (i := 46) rfl))) (Or.inr (hw _ (List.mem_of_getElem? (i := 44) rfl))) (by decide) (t := (.object "java/lang/String")) (t' := .long) (by decide) (by decide)))
  have f80 : Fld Z h12 a0 "org/shardwright/model/ShardCopy" "handsOverTo" "Ljava/lang/String;" .null := f70.other W12 (Or.inr (slot_ne (Or.inr (hw _ (List.mem_of_getElem? (i := 48) rfl))) (Or.inr (hw _ (List.mem_of_getElem? (i := 44) rfl))) (by decide) (t := (.object "java/lang/String")) (t' := .long) (by decide) (by decide)))
  have f81 : Old Z n0 h12 := f71.wr W12 r1
  have f82 : Fld Z h12 a0 "org/shardwright/model/ShardCopy" "shard" "I" (.int p1) := f72.other W12 (Or.inr (slot_ne (Or.inr (hw _ (List.mem_of_getElem? (i := 32) rfl))) (Or.inr (hw _ (List.mem_of_getElem? (i := 44) rfl))) (by decide) (t := .int) (t' := .long) (by decide) (by decide)))
  have f83 : Fld Z h12 a0 "org/shardwright/model/ShardCopy" "primary" "Z" (.int p2) := f73.other W12 (Or.inr (slot_ne (Or.inr (hw _ (List.mem_of_getElem? (i := 34) rfl))) (Or.inr (hw _ (List.mem_of_getElem? (i := 44) rfl))) (by decide) (t := .boolean) (t' := .long) (by decide) (by decide)))
  have f84 : Fld Z h12 a0 "org/shardwright/model/ShardCopy" "state" "Lorg/shardwright/model/ShardCopy$State;" (.ref uS) := f74.other W12 (Or.inr (slot_ne (Or.inr (hw _ (List.mem_of_getElem? (i := 36) rfl))) (Or.inr (hw _ (List.mem_of_getElem? (i := 44) rfl))) (by decide) (t := (.object "org/shardwright/model/ShardCopy$State")) (t' := .long) (by decide) (by decide)))
  have f85 : Fld Z h12 a0 "org/shardwright/model/ShardCopy" "nodeId" "Ljava/lang/String;" (.ref a4) := f75.other W12 (Or.inr (slot_ne (Or.inr (hw _ (List.mem_of_getElem? (i := 38) rfl))) (Or.inr (hw _ (List.mem_of_getElem? (i := 44) rfl))) (by decide) (t := (.object "java/lang/String")) (t' := .long) (by decide) (by decide)))
  have f86 : Fld Z h12 a0 "org/shardwright/model/ShardCopy" "allocationId" "Ljava/lang/String;" (.ref a5) := f76.other W12 (Or.inr (slot_ne (Or.inr (hw _ (List.mem_of_getElem? (i := 40) rfl))) (Or.inr (hw _ (List.mem_of_getElem? (i := 44) rfl))) (by decide) (t := (.object "java/lang/String")) (t' := .long) (by decide) (by decide)))
  have f87 : Fld Z h12 a0 "org/shardwright/model/ShardCopy" "lastNodeId" "Ljava/lang/String;" .null := f77.other W12 (Or.inr (slot_ne (Or.inr (hw _ (List.mem_of_getElem? (i := 42) rfl))) (Or.inr (hw _ (List.mem_of_getElem? (i := 44) rfl))) (by decide) (t := (.object "java/lang/String")) (t' := .long) (by decide) (by decide)))
  have Zp12 : n0 ≤ h12.size := Nat.le_trans Zp11 (Keep.of_wr W12).1
  have sk12 := Nat.le_trans sk11 (Keep.of_wr W12).1
  have K12 : Keep h0 h12 [a0] := K11.wr W12 (Or.inl (List.mem_of_getElem? (i := 0) rfl))
  have N12 := Fr.snoc X12 N11 r1
  have f88 : Fld Z h12 a0 "org/shardwright/model/ShardCopy" "unassignedAtMillis" "J" (.long (0 : Int64)) := f68.same W12
  have go10 : Go p e below A0 (T12.setTop (mkF m 271 #[.val (.ref a0), .val (.int p1), .val (.int p2), .val (.ref uS), .val (.ref a4), .val (.ref a5), .val .null, .val (.long (0 : Int64)), .second, .val .null, .val (.ref a9)] [.null, (.ref a0)])) := by
    intro t k
    refine go9 t ?_
    refine st12 _ ?_
    show Steps p.tables e below (T12.setTop (mkF m 268 #[.val (.ref a0), .val (.int p1), .val (.int p2), .val (.ref uS), .val (.ref a4), .val (.ref a5), .val .null, .val (.long (0 : Int64)), .second, .val .null, .val (.ref a9)] [])) _
    refine o_aloadN X12 hx hby d1_268 269 rfl rfl rfl ?_
    refine o_aload X12 hx hby d1_269 271 rfl rfl rfl ?_
    exact k
  obtain ⟨T13, h13, X13, e13, W13, st13⟩ := putF X12 hx hZ hown (host := "") (Or.inl (hw _ (List.mem_of_getElem? (i := 45) rfl))) Via.refl e12 f79 f78 (Or.inr ⟨(hw _ (List.mem_of_getElem? (i := 46) rfl)), rfl, hnm⟩) (hw _ (List.mem_of_getElem? (i := 5) rfl)) (ty := (.object "java/lang/String")) (by decide) rfl rfl (g := (mkF m 271 #[.val (.ref a0), .val (.int p1), .val (.int p2), .val (.ref uS), .val (.ref a4), .val (.ref a5), .val .null, .val (.long (0 : Int64)), .second, .val .null, .val (.ref a9)] [.null, (.ref a0)])) rfl rfl (hb hby d1_271)
  have f89 : Exa Z h13 a0 "org/shardwright/model/ShardCopy" := f78.wr W13
  have f90 : Fld Z h13 a0 "org/shardwright/model/ShardCopy" "handsOverTo" "Ljava/lang/String;" .null := f80.other W13 (Or.inr (slot_ne (Or.inr (hw _ (List.mem_of_getElem? (i := 48) rfl))) (Or.inr (hw _ (List.mem_of_getElem? (i := 46) rfl))) (by decide) (t := (.object "java/lang/String")) (t' := (.object "java/lang/String")) (by decide) (by decide)))
  have f91 : Old Z n0 h13 := f81.wr W13 r1
  have f92 : Fld Z h13 a0 "org/shardwright/model/ShardCopy" "shard" "I" (.int p1) := f82.other W13 (Or.inr (slot_ne (Or.inr (hw _ (List.mem_of_getElem? (i := 32) rfl))) (Or.inr (hw _ (List.mem_of_getElem? (i := 46) rfl))) (by decide) (t := .int) (t' := (.object "java/lang/String")) (by decide) (by decide)))
  have f93 : Fld Z h13 a0 "org/shardwright/model/ShardCopy" "primary" "Z" (.int p2) := f83.other W13 (Or.inr (slot_ne (Or.inr (hw _ (List.mem_of_getElem? (i := 34) rfl))) (Or.inr (hw _ (List.mem_of_getElem? (i := 46) rfl))) (by decide) (t := .boolean) (t' := (.object "java/lang/String")) (by decide) (by decide)))
  have f94 : Fld Z h13 a0 "org/shardwright/model/ShardCopy" "state" "Lorg/shardwright/model/ShardCopy$State;" (.ref uS) := f84.other W13 (Or.inr (slot_ne (Or.inr (hw _ (List.mem_of_getElem? (i := 36) rfl))) (Or.inr (hw _ (List.mem_of_getElem? (i := 46) rfl))) (by decide) (t := (.object "org/shardwright/model/ShardCopy$State")) (t' := (.object "java/lang/String")) (by decide) (by decide)))
  have f95 : Fld Z h13 a0 "org/shardwright/model/ShardCopy" "nodeId" "Ljava/lang/String;" (.ref a4) := f85.other W13 (Or.inr (slot_ne (Or.inr (hw _ (List.mem_of_getElem? (i := 38) rfl))) (Or.inr (hw _ (List.mem_of_getElem? (i := 46) rfl))) (by decide) (t := (.object "java/lang/String")) (t' := (.object "java/lang/String")) (by decide) (by decide)))
  have f96 : Fld Z h13 a0 "org/shardwright/model/ShardCopy" "allocationId" "Ljava/lang/String;" (.ref a5) := f86.other W13 (Or.inr (slot_ne (Or.inr (hw _ (List.mem_of_getElem? (i := 40) rfl))) (Or.inr (hw _ (List.mem_of_getElem? (i := 46) rfl))) (by decide) (t := (.object "java/lang/String")) (t' := (.object "java/lang/String")) (by decide) (by decide)))
  have f97 : Fld Z h13 a0 "org/shardwright/model/ShardCopy" "lastNodeId" "Ljava/lang/String;" .null := f87.other W13 (Or.inr (slot_ne (Or.inr (hw _ (List.mem_of_getElem? (i := 42) rfl))) (Or.inr (hw _ (List.mem_of_getElem? (i := 46) rfl))) (by decide) (t := (.object "java/lang/String")) (t' := (.object "java/lang/String")) (by decide) (by decide)))
  have f98 : Fld Z h13 a0 "org/shardwright/model/ShardCopy" "unassignedAtMillis" "J" (.long (0 : Int64)) := f88.other W13 (Or.inr (slot_ne (Or.inr (hw _ (List.mem_of_getElem? (i := 44) rfl))) (Or.inr (hw _ (List.mem_of_getElem? (i := 46) rfl))) (by decide) (t := .long) (t' := (.object "java/lang/String")) (by decide) (by decide)))
  have Zp13 : n0 ≤ h13.size := Nat.le_trans Zp12 (Keep.of_wr W13).1
  have sk13 := Nat.le_trans sk12 (Keep.of_wr W13).1
  have K13 : Keep h0 h13 [a0] := K12.wr W13 (Or.inl (List.mem_of_getElem? (i := 0) rfl))
  have N13 := Fr.snoc X13 N12 r1
  have f99 : Fld Z h13 a0 "org/shardwright/model/ShardCopy" "replaces" "Ljava/lang/String;" .null := f79.same W13
  have go11 : Go p e below A0 (T13.setTop (mkF m 277 #[.val (.ref a0), .val (.int p1), .val (.int p2), .val (.ref uS), .val (.ref a4), .val (.ref a5), .val .null, .val (.long (0 : Int64)), .second, .val .null, .val (.ref a9)] [(.ref a9), (.ref a0)])) := by
    intro t k
    refine go10 t ?_
    refine st13 _ ?_
    show Steps p.tables e below (T13.setTop (mkF m 274 #[.val (.ref a0), .val (.int p1), .val (.int p2), .val (.ref uS), .val (.ref a4), .val (.ref a5), .val .null, .val (.long (0 : Int64)), .second, .val .null, .val (.ref a9)] [])) _
    refine o_aloadN X13 hx hby d1_274 275 rfl rfl rfl ?_
    refine o_aload X13 hx hby d1_275 277 rfl rfl rfl ?_
    exact k
  obtain ⟨T14, h14, X14, e14, W14, st14⟩ := putF X13 hx hZ hown (host := "") (Or.inl (hw _ (List.mem_of_getElem? (i := 47) rfl))) Via.refl e13 f90 f89 (Or.inr ⟨(hw _ (List.mem_of_getElem? (i := 48) rfl)), rfl, hnm⟩) (hw _ (List.mem_of_getElem? (i := 5) rfl)) (ty := (.object "java/lang/String")) (by decide) rfl rfl (g := (mkF m 277 #[.val (.ref a0), .val (.int p1), .val (.int p2), .val (.ref uS), .val (.ref a4), .val (.ref a5), .val .null, .val (.long (0 : Int64)), .second, .val .null, .val (.ref a9)] [(.ref a9), (.ref a0)])) rfl rfl (hb hby d1_277)
  have f100 : Exa Z h14 a0 "org/shardwright/model/ShardCopy" := f89.wr W14
  have f101 : Old Z n0 h14 := f91.wr W14 r1
  have f102 : Fld Z h14 a0 "org/shardwright/model/ShardCopy" "shard" "I" (.int p1) := f92.other W14 (Or.inr (slot_ne (Or.inr (hw _ (List.mem_of_getElem? (i := 32) rfl))) (Or.inr (hw _ (List.mem_of_getElem? (i := 48) rfl))) (by decide) (t := .int) (t' := (.object "java/lang/String")) (by decide) (by decide)))
  have f103 : Fld Z h14 a0 "org/shardwright/model/ShardCopy" "primary" "Z" (.int p2) := f93.other W14 (Or.inr (slot_ne (Or.inr (hw _ (List.mem_of_getElem? (i := 34) rfl))) (Or.inr (hw _ (List.mem_of_getElem? (i := 48) rfl))) (by decide) (t := .boolean) (t' := (.object "java/lang/String")) (by decide) (by decide)))
  have f104 : Fld Z h14 a0 "org/shardwright/model/ShardCopy" "state" "Lorg/shardwright/model/ShardCopy$State;" (.ref uS) := f94.other W14 (Or.inr (slot_ne (Or.inr (hw _ (List.mem_of_getElem? (i := 36) rfl))) (Or.inr (hw _ (List.mem_of_getElem? (i := 48) rfl))) (by decide) (t := (.object "org/shardwright/model/ShardCopy$State")) (t' := (.object "java/lang/String")) (by decide) (by decide)))
  have f105 : Fld Z h14 a0 "org/shardwright/model/ShardCopy" "nodeId" "Ljava/lang/String;" (.ref a4) := f95.other W14 (Or.inr (slot_ne (Or.inr (hw _ (List.mem_of_getElem? (i := 38) rfl))) (Or.inr (hw _ (List.mem_of_getElem? (i := 48) rfl))) (by decide) (t := (.object "java/lang/String")) (t' := (.object "java/lang/String")) (by decide) (by decide)))
  have f106 : Fld Z h14 a0 "org/shardwright/model/ShardCopy" "allocationId" "Ljava/lang/String;" (.ref a5) := f96.other W14 (Or.inr (slot_ne (Or.inr (hw _ (List.mem_of_getElem? (i := 40) rfl))) (Or.inr (hw _ (List.mem_of_getElem? (i := 48) rfl))) (by decide) (t := (.object "java/lang/String")) (t' := (.object "java/lang/String")) (by decide) (by decide)))
  have f107 : Fld Z h14 a0 "org/shardwright/model/ShardCopy" "lastNodeId" "Ljava/lang/String;" .null := f97.other W14 (Or.inr (slot_ne (Or.inr (hw _ (List.mem_of_getElem? (i := 42) rfl))) (Or.inr (hw _ (List.mem_of_getElem? (i := 48) rfl))) (by decide) (t := (.object "java/lang/String")) (t' := (.object "java/lang/String")) (by decide) (by decide)))
  have f108 : Fld Z h14 a0 "org/shardwright/model/ShardCopy" "unassignedAtMillis" "J" (.long (0 : Int64)) := f98.other W14 (Or.inr (slot_ne (Or.inr (hw _ (List.mem_of_getElem? (i := 44) rfl))) (Or.inr (hw _ (List.mem_of_getElem? (i := 48) rfl))) (by decide) (t := .long) (t' := (.object "java/lang/String")) (by decide) (by decide)))
  have f109 : Fld Z h14 a0 "org/shardwright/model/ShardCopy" "replaces" "Ljava/lang/String;" .null := f99.other W14 (Or.inr (slot_ne (Or.inr (hw _ (List.mem_of_getElem? (i := 46) rfl))) (Or.inr (hw _ (List.mem_of_getElem? (i := 48) rfl))) (by decide) (t := (.object "java/lang/String")) (t' := (.object "java/lang/String")) (by decide) (by decide)))
  have Zp14 : n0 ≤ h14.size := Nat.le_trans Zp13 (Keep.of_wr W14).1
  have sk14 := Nat.le_trans sk13 (Keep.of_wr W14).1
  have K14 : Keep h0 h14 [a0] := K13.wr W14 (Or.inl (List.mem_of_getElem? (i := 0) rfl))
  have N14 := Fr.snoc X14 N13 r1
  have f110 : Fld Z h14 a0 "org/shardwright/model/ShardCopy" "handsOverTo" "Ljava/lang/String;" (.ref a9) := f90.same W14
  have go12 : Go p e below A0 (T14.setTop (mkF m 280 #[.val (.ref a0), .val (.int p1), .val (.int p2), .val (.ref uS), .val (.ref a4), .val (.ref a5), .val .null, .val (.long (0 : Int64)), .second, .val .null, .val (.ref a9)] [])) := by
    intro t k
    refine go11 t ?_
    refine st14 _ ?_
    show Steps p.tables e below (T14.setTop (mkF m 280 #[.val (.ref a0), .val (.int p1), .val (.int p2), .val (.ref uS), .val (.ref a4), .val (.ref a5), .val .null, .val (.long (0 : Int64)), .second, .val .null, .val (.ref a9)] [])) _
    exact k
  subst hA0
  obtain ⟨fs, hr, hrun, hended, hRW⟩ := X14.leaveW (s := s) S2 (by rw [e14]; exact sk14) (v := none) (fun _ => rfl)
  refine ⟨_, _, go12 _ (X14.returnOut hx Bd.returns (hb hby d1_280) hr), hrun, hended, _, _, rfl, ?_, hRW.1, hRW.2.1, hRW.2.2.1, hRW.2.2.2.mono (by decide) (by decide)⟩
  show Q1E Z a0 p1 p2 uS a4 a5 a9 uA h0 n0 _ T14.heap _
  rw [e14]
  exact ⟨rfl, N14, K14, f109, trivial⟩
theorem d5_0 : decode prog_33_method_13_code 0 = .ok (.aload_n 0, 1) := by decide +kernel
theorem d5_1 : decode prog_33_method_13_code 1 = .ok (.getfield 78, 3) := by decide +kernel
theorem d5_4 : decode prog_33_method_13_code 4 = .ok (.ifnull 7, 3) := by decide +kernel
theorem d5_7 : decode prog_33_method_13_code 7 = .ok (.iconst 1, 1) := by decide +kernel
theorem d5_8 : decode prog_33_method_13_code 8 = .ok (.goto 4, 3) := by decide +kernel
theorem d5_11 : decode prog_33_method_13_code 11 = .ok (.iconst 0, 1) := by decide +kernel
theorem d5_12 : decode prog_33_method_13_code 12 = .ok (.ireturn, 1) := by decide +kernel
theorem ef_5n (m : MethodId) (x0 : Addr) : entryFrame m #[(.ref x0)] 1 = mkF m 0 #[.val (.ref x0)] [] := by first | (simp [entryFrame, mkF, argsToLocals, Value.category]; done) | rfl
def Q5n (Z : State) (a0 : Addr) (h0 : Heap) (n0 : Nat) (v : Option Value) (h : Heap) (L : List Loc) : Prop := v = some (.int (0 : Int32)) ∧ Fr n0 L ∧ h = h0
set_option maxRecDepth 65536 in
set_option maxHeartbeats 40000000 in
theorem rm5n (l : Launch) (Z : State) (aw : Array Value) (hw : ∀ d ∈ tables_1, d.before aw Z = true) (ws : List Jvm.Cond) (a0 : Addr) (h0 : Heap) (n0 : Nat) (Z0 : n0 ≤ h0.size) (r0 : Fld Z h0 a0 "org/shardwright/model/ShardCopy" "replaces" "Ljava/lang/String;" .null) :
    MetFree l (⟨"org/shardwright/model/ShardCopy", "movedIn", "()Z"⟩ : MethodName) (head1 (Jvm.Cond.code (⟨"org/shardwright/model/ShardCopy", "movedIn", "()Z"⟩ : MethodName) prog_33_method_13_code 1 (some .boolean) :: ws) ({ frames := 0, cells := 0, slots := 0, locals := 0 } : Room)) (fun a U => a = #[(.ref a0)] ∧ Z.Warmed39 U.vm ∧ U.heap = h0) (fun _ _ _ _ _ => True) (fun _ U o U' => ∃ v L, o = .returned v ∧ Q5n Z a0 h0 n0 v U'.heap L ∧ FrameEnd U o U' L ({ frames := 0, cells := 0, slots := 0, locals := 0 } : Room).cells ({ frames := 0, cells := 0, slots := 0, locals := 0 } : Room).slots) := by
  refine MetFree.of_bodySF (plainFor_of_name pn_1) hisR ?_
  intro p e s m args below meth c s₁ Bd hml0 hP hK
  obtain ⟨rfl, hZ, hh⟩ := hP
  have hx := Bd.exec
  have hby := Bd.bytes
  have hml : c.maxLocals = 1 := hml0
  have hown : s.vm.findClass "org/shardwright/model/ShardCopy" = some m.cls := findClass_of_methodNamed Bd.named
  have hnm := (name_of_methodNamed Bd.named Bd.method).1
  have X0 : Stand p l e ({ frames := 0, cells := 0, slots := 0, locals := 0 } : Room) s m #[(.ref a0)] below meth c s₁ [] 0 0 := Stand.of_body Bd
  have e0 : s₁.heap = h0 := by rw [← hh, Bd.state]; rfl
  have N0 := Fr.nil n0
  obtain ⟨A0, hA0⟩ : ∃ A0, A0 = s₁.setTop (entryFrame m #[(.ref a0)] 1) := ⟨_, rfl⟩
  have go0 : Go p e below A0 (s₁.setTop (mkF m 0 #[.val (.ref a0)] [])) := fun t k => by rw [hA0]; exact castTop (ef_5n m a0) k
  obtain ⟨T1, X1, e1, st1⟩ := getF X0 hx hZ hown (host := "") (Or.inl (hw _ (List.mem_of_getElem? (i := 45) rfl))) Via.refl e0 r0 (g := (mkF m 1 #[.val (.ref a0)] [(.ref a0)])) rfl rfl (hb hby d5_1)
  have go1 : Go p e below A0 (T1.setTop (mkF m 12 #[.val (.ref a0)] [(.int (0 : Int32))])) := by
    intro t k
    refine go0 t ?_
    refine o_aloadN X0 hx hby d5_0 1 rfl rfl rfl ?_
    refine st1 _ ?_
    show Steps p.tables e below (T1.setTop (mkF m 4 #[.val (.ref a0)] [.null])) _
    refine o_ifnullY X1 hx hby d5_4 11 rfl ?_
    refine o_iconst X1 hx hby d5_11 12 rfl (v := (0 : Int32)) rfl ?_
    exact k
  have hF : (0 : Int32) = (0 : Int32) := by first | rfl | simp only [*]
  subst hA0
  obtain ⟨fs, hr, hrun, hended, hW, hsame⟩ := X1.leave (v := some (.int (0 : Int32))) (fun h => by rw [Bd.returns] at h; cases h)
  refine ⟨_, _, go1 _ (o_retZ X1 hx Bd.returns (hb hby d5_12) (Or.inl rfl) hr), hrun, hended, _, _, rfl, ?_, ⟨_, rfl⟩, hW, hsame.mono (by decide) (by decide)⟩
  show Q5n Z a0 h0 n0 _ T1.heap _
  rw [e1]
  exact ⟨congrArg (fun z => some (Value.int z)) hF, N0, rfl⟩
theorem ef_5r (m : MethodId) (x0 : Addr) : entryFrame m #[(.ref x0)] 1 = mkF m 0 #[.val (.ref x0)] [] := by first | (simp [entryFrame, mkF, argsToLocals, Value.category]; done) | rfl
def Q5r (Z : State) (a0 : Addr) (b : Addr) (h0 : Heap) (n0 : Nat) (v : Option Value) (h : Heap) (L : List Loc) : Prop := v = some (.int (1 : Int32)) ∧ Fr n0 L ∧ h = h0
set_option maxRecDepth 65536 in
set_option maxHeartbeats 40000000 in
theorem rm5r (l : Launch) (Z : State) (aw : Array Value) (hw : ∀ d ∈ tables_1, d.before aw Z = true) (ws : List Jvm.Cond) (a0 : Addr) (b : Addr) (h0 : Heap) (n0 : Nat) (Z0 : n0 ≤ h0.size) (r0 : Fld Z h0 a0 "org/shardwright/model/ShardCopy" "replaces" "Ljava/lang/String;" (.ref b)) :
    MetFree l (⟨"org/shardwright/model/ShardCopy", "movedIn", "()Z"⟩ : MethodName) (head1 (Jvm.Cond.code (⟨"org/shardwright/model/ShardCopy", "movedIn", "()Z"⟩ : MethodName) prog_33_method_13_code 1 (some .boolean) :: ws) ({ frames := 0, cells := 0, slots := 0, locals := 0 } : Room)) (fun a U => a = #[(.ref a0)] ∧ Z.Warmed39 U.vm ∧ U.heap = h0) (fun _ _ _ _ _ => True) (fun _ U o U' => ∃ v L, o = .returned v ∧ Q5r Z a0 b h0 n0 v U'.heap L ∧ FrameEnd U o U' L ({ frames := 0, cells := 0, slots := 0, locals := 0 } : Room).cells ({ frames := 0, cells := 0, slots := 0, locals := 0 } : Room).slots) := by
  refine MetFree.of_bodySF (plainFor_of_name pn_1) hisR ?_
  intro p e s m args below meth c s₁ Bd hml0 hP hK
  obtain ⟨rfl, hZ, hh⟩ := hP
  have hx := Bd.exec
  have hby := Bd.bytes
  have hml : c.maxLocals = 1 := hml0
  have hown : s.vm.findClass "org/shardwright/model/ShardCopy" = some m.cls := findClass_of_methodNamed Bd.named
  have hnm := (name_of_methodNamed Bd.named Bd.method).1
  have X0 : Stand p l e ({ frames := 0, cells := 0, slots := 0, locals := 0 } : Room) s m #[(.ref a0)] below meth c s₁ [] 0 0 := Stand.of_body Bd
  have e0 : s₁.heap = h0 := by rw [← hh, Bd.state]; rfl
  have N0 := Fr.nil n0
  obtain ⟨A0, hA0⟩ : ∃ A0, A0 = s₁.setTop (entryFrame m #[(.ref a0)] 1) := ⟨_, rfl⟩
  have go0 : Go p e below A0 (s₁.setTop (mkF m 0 #[.val (.ref a0)] [])) := fun t k => by rw [hA0]; exact castTop (ef_5r m a0) k
  obtain ⟨T1, X1, e1, st1⟩ := getF X0 hx hZ hown (host := "") (Or.inl (hw _ (List.mem_of_getElem? (i := 45) rfl))) Via.refl e0 r0 (g := (mkF m 1 #[.val (.ref a0)] [(.ref a0)])) rfl rfl (hb hby d5_1)
  have go1 : Go p e below A0 (T1.setTop (mkF m 12 #[.val (.ref a0)] [(.int (1 : Int32))])) := by
    intro t k
    refine go0 t ?_
    refine o_aloadN X0 hx hby d5_0 1 rfl rfl rfl ?_
    refine st1 _ ?_
    show Steps p.tables e below (T1.setTop (mkF m 4 #[.val (.ref a0)] [(.ref b)])) _
    refine o_ifnullN X1 hx hby d5_4 7 rfl ?_
    refine o_iconst X1 hx hby d5_7 8 rfl (v := (1 : Int32)) rfl ?_
    refine o_goto X1 hx hby d5_8 12 rfl ?_
    exact k
  have hF : (1 : Int32) = (1 : Int32) := by first | rfl | simp only [*]
  subst hA0
  obtain ⟨fs, hr, hrun, hended, hW, hsame⟩ := X1.leave (v := some (.int (1 : Int32))) (fun h => by rw [Bd.returns] at h; cases h)
  refine ⟨_, _, go1 _ (o_retZ X1 hx Bd.returns (hb hby d5_12) (Or.inr rfl) hr), hrun, hended, _, _, rfl, ?_, ⟨_, rfl⟩, hW, hsame.mono (by decide) (by decide)⟩
  show Q5r Z a0 b h0 n0 _ T1.heap _
  rw [e1]
  exact ⟨congrArg (fun z => some (Value.int z)) hF, N0, rfl⟩
theorem pn_0 : plainName "org/shardwright/model/ShardCopyMovedInPinLaw" = true := by first | (simp [plainName, overriddenIn]; done) | decide +kernel
theorem pd_11 : parseMethodDescriptor "(IZLorg/shardwright/model/ShardCopy$State;Ljava/lang/String;Ljava/lang/String;Ljava/lang/String;JLjava/lang/String;Ljava/lang/String;)V" = some ⟨[.int, .boolean, (.object "org/shardwright/model/ShardCopy$State"), (.object "java/lang/String"), (.object "java/lang/String"), (.object "java/lang/String"), .long, (.object "java/lang/String"), (.object "java/lang/String")], none⟩ := by decide +kernel
theorem pd_12 : parseMethodDescriptor "()Z" = some ⟨[], some .boolean⟩ := by decide +kernel
theorem pd_13 : parseMethodDescriptor "(C)Ljava/lang/String;" = some ⟨[.char], some (.object "java/lang/String")⟩ := by decide +kernel
theorem ef_0 (m : MethodId) (x0 : Int32) (x1 : Int32) (x2 : Int32) (x3 : Int64) : entryFrame m #[(.int x0), (.int x1), (.int x2), (.long x3)] maxLocals = mkF m 0 #[.val (.int x0), .val (.int x1), .val (.int x2), .val (.long x3), .second, .unset, .unset, .unset, .unset, .unset, .unset, .unset, .unset, .unset, .unset, .unset, .unset, .unset, .unset, .unset, .unset] [] := by first | (simp [entryFrame, mkF, argsToLocals, Value.category, maxLocals]; done) | rfl
set_option maxRecDepth 65536 in
set_option maxHeartbeats 4000000 in
theorem pf0_nn_0 (p0 : Int32) (p1 : Int32) (p2 : Int32) (q3 : Int64) (uA : Addr) (uS : Addr) (uI : Addr) (cs : Int32) (v1 : Int32) (v2 : Int32) (v3 : Int32) (v5 : Int32) (hv1 : v1 = (p0 &&& (2147483647 : Int32))) (hv2 : v2 = (if (p1 &&& (1 : Int32)) = (0 : Int32) then (0 : Int32) else (1 : Int32))) (hv3 : v3 = (((p1.toUInt32 >>> ((4 : Int32) &&& 31).toUInt32).toInt32) % (3 : Int32))) (hv5 : v5 = (if (p1 &&& (4 : Int32)) = (0 : Int32) then (0 : Int32) else (if v2 = (0 : Int32) then (1 : Int32) else (0 : Int32)))) (hc28_2 : v3 = (0 : Int32)) (hc186_10 : v5 = (0 : Int32)) : ¬ v1 < 0 := by
  have m : v1.toInt = p0.toInt % 2147483648 := by rw [hv1]; exact c_mask _ _ 31 (by decide) (by decide)
  rw [Int32.lt_iff_toInt_lt]; simp only [Int32.reduceToInt]; omega
set_option maxRecDepth 65536 in
set_option maxHeartbeats 4000000 in
theorem pf0_c255_1 (p0 : Int32) (p1 : Int32) (p2 : Int32) (q3 : Int64) (uA : Addr) (uS : Addr) (uI : Addr) (cs : Int32) (v1 : Int32) (v2 : Int32) (v3 : Int32) (v5 : Int32) (v6 : Int32) (hv1 : v1 = (p0 &&& (2147483647 : Int32))) (hv2 : v2 = (if (p1 &&& (1 : Int32)) = (0 : Int32) then (0 : Int32) else (1 : Int32))) (hv3 : v3 = (((p1.toUInt32 >>> ((4 : Int32) &&& 31).toUInt32).toInt32) % (3 : Int32))) (hv5 : v5 = (if (p1 &&& (4 : Int32)) = (0 : Int32) then (0 : Int32) else (if v2 = (0 : Int32) then (1 : Int32) else (0 : Int32)))) (hv6 : v6 = ((((p2.toUInt32 >>> ((16 : Int32) &&& 31).toUInt32).toInt32) &&& (255 : Int32)).toUInt32.toUInt16.toUInt32.toInt32)) (hc28_2 : v3 = (0 : Int32)) (hc186_10 : ¬ (v5 = (0 : Int32))) : ¬ (255 : Int32) < v6 := by
  rw [hv6]; exact own_c255 _
set_option maxRecDepth 65536 in
set_option maxHeartbeats 4000000 in
theorem pf0_nn_2 (p0 : Int32) (p1 : Int32) (p2 : Int32) (q3 : Int64) (uA : Addr) (uS : Addr) (uI : Addr) (cs : Int32) (v1 : Int32) (v2 : Int32) (v3 : Int32) (v5 : Int32) (v6 : Int32) (v7 : Int64) (hv1 : v1 = (p0 &&& (2147483647 : Int32))) (hv2 : v2 = (if (p1 &&& (1 : Int32)) = (0 : Int32) then (0 : Int32) else (1 : Int32))) (hv3 : v3 = (((p1.toUInt32 >>> ((4 : Int32) &&& 31).toUInt32).toInt32) % (3 : Int32))) (hv5 : v5 = (if (p1 &&& (4 : Int32)) = (0 : Int32) then (0 : Int32) else (if v2 = (0 : Int32) then (1 : Int32) else (0 : Int32)))) (hv6 : v6 = ((((p2.toUInt32 >>> ((16 : Int32) &&& 31).toUInt32).toInt32) &&& (255 : Int32)).toUInt32.toUInt16.toUInt32.toInt32)) (hv7 : v7 = (q3 &&& (9223372036854775807 : Int64))) (hc28_2 : v3 = (0 : Int32)) (hc186_10 : ¬ (v5 = (0 : Int32))) : ¬ v1 < 0 := by
  have m : v1.toInt = p0.toInt % 2147483648 := by rw [hv1]; exact c_mask _ _ 31 (by decide) (by decide)
  rw [Int32.lt_iff_toInt_lt]; simp only [Int32.reduceToInt]; omega
set_option maxRecDepth 65536 in
set_option maxHeartbeats 4000000 in
theorem pf0_p2z_3 (p0 : Int32) (p1 : Int32) (p2 : Int32) (q3 : Int64) (uA : Addr) (uS : Addr) (uI : Addr) (cs : Int32) (v1 : Int32) (v2 : Int32) (v3 : Int32) (v5 : Int32) (v6 : Int32) (v7 : Int64) (hv1 : v1 = (p0 &&& (2147483647 : Int32))) (hv2 : v2 = (if (p1 &&& (1 : Int32)) = (0 : Int32) then (0 : Int32) else (1 : Int32))) (hv3 : v3 = (((p1.toUInt32 >>> ((4 : Int32) &&& 31).toUInt32).toInt32) % (3 : Int32))) (hv5 : v5 = (if (p1 &&& (4 : Int32)) = (0 : Int32) then (0 : Int32) else (if v2 = (0 : Int32) then (1 : Int32) else (0 : Int32)))) (hv6 : v6 = ((((p2.toUInt32 >>> ((16 : Int32) &&& 31).toUInt32).toInt32) &&& (255 : Int32)).toUInt32.toUInt16.toUInt32.toInt32)) (hv7 : v7 = (q3 &&& (9223372036854775807 : Int64))) (hc28_2 : v3 = (0 : Int32)) (hc186_10 : ¬ (v5 = (0 : Int32))) : v2 = 0 := by
  by_cases h : v2 = 0
  · exact h
  · exact absurd (show v5 = 0 by rw [hv5]; simp [h]) hc186_10
set_option maxRecDepth 65536 in
set_option maxHeartbeats 4000000 in
theorem pf0_qnn_4 (p0 : Int32) (p1 : Int32) (p2 : Int32) (q3 : Int64) (uA : Addr) (uS : Addr) (uI : Addr) (cs : Int32) (v1 : Int32) (v2 : Int32) (v3 : Int32) (v5 : Int32) (v6 : Int32) (v7 : Int64) (hv1 : v1 = (p0 &&& (2147483647 : Int32))) (hv2 : v2 = (if (p1 &&& (1 : Int32)) = (0 : Int32) then (0 : Int32) else (1 : Int32))) (hv3 : v3 = (((p1.toUInt32 >>> ((4 : Int32) &&& 31).toUInt32).toInt32) % (3 : Int32))) (hv5 : v5 = (if (p1 &&& (4 : Int32)) = (0 : Int32) then (0 : Int32) else (if v2 = (0 : Int32) then (1 : Int32) else (0 : Int32)))) (hv6 : v6 = ((((p2.toUInt32 >>> ((16 : Int32) &&& 31).toUInt32).toInt32) &&& (255 : Int32)).toUInt32.toUInt16.toUInt32.toInt32)) (hv7 : v7 = (q3 &&& (9223372036854775807 : Int64))) (hc28_2 : v3 = (0 : Int32)) (hc186_10 : ¬ (v5 = (0 : Int32))) : ¬ v7 < 0 := by
  have m : v7.toInt = q3.toInt % 9223372036854775808 := by rw [hv7]; exact c_maskL _ _ 63 (by decide) (by decide)
  rw [Int64.lt_iff_toInt_lt]; simp only [Int64.reduceToInt]; omega
set_option maxRecDepth 65536 in
set_option maxHeartbeats 4000000 in
theorem pf0_c255_5 (p0 : Int32) (p1 : Int32) (p2 : Int32) (q3 : Int64) (uA : Addr) (uS : Addr) (uI : Addr) (cs : Int32) (v1 : Int32) (v2 : Int32) (v3 : Int32) (v9 : Int32) (v10 : Int32) (hv1 : v1 = (p0 &&& (2147483647 : Int32))) (hv2 : v2 = (if (p1 &&& (1 : Int32)) = (0 : Int32) then (0 : Int32) else (1 : Int32))) (hv3 : v3 = (((p1.toUInt32 >>> ((4 : Int32) &&& 31).toUInt32).toInt32) % (3 : Int32))) (hv9 : v9 = (if (p1 &&& (2 : Int32)) = (0 : Int32) then (0 : Int32) else (if v2 = (0 : Int32) then (1 : Int32) else (0 : Int32)))) (hv10 : v10 = ((p2 &&& (255 : Int32)).toUInt32.toUInt16.toUInt32.toInt32)) (hc28_2 : ¬ (v3 = (0 : Int32))) (hc42_18 : v3 = (1 : Int32)) : ¬ (255 : Int32) < v10 := by
  rw [hv10]; exact own_c255 _
set_option maxRecDepth 65536 in
set_option maxHeartbeats 4000000 in
theorem pf0_c255_6 (p0 : Int32) (p1 : Int32) (p2 : Int32) (q3 : Int64) (uA : Addr) (uS : Addr) (uI : Addr) (cs : Int32) (v1 : Int32) (v2 : Int32) (v3 : Int32) (v9 : Int32) (v10 : Int32) (v11 : Int32) (hv1 : v1 = (p0 &&& (2147483647 : Int32))) (hv2 : v2 = (if (p1 &&& (1 : Int32)) = (0 : Int32) then (0 : Int32) else (1 : Int32))) (hv3 : v3 = (((p1.toUInt32 >>> ((4 : Int32) &&& 31).toUInt32).toInt32) % (3 : Int32))) (hv9 : v9 = (if (p1 &&& (2 : Int32)) = (0 : Int32) then (0 : Int32) else (if v2 = (0 : Int32) then (1 : Int32) else (0 : Int32)))) (hv10 : v10 = ((p2 &&& (255 : Int32)).toUInt32.toUInt16.toUInt32.toInt32)) (hv11 : v11 = ((((p2.toUInt32 >>> ((8 : Int32) &&& 31).toUInt32).toInt32) &&& (255 : Int32)).toUInt32.toUInt16.toUInt32.toInt32)) (hc28_2 : ¬ (v3 = (0 : Int32))) (hc42_18 : v3 = (1 : Int32)) : ¬ (255 : Int32) < v11 := by
  rw [hv11]; exact own_c255 _
set_option maxRecDepth 65536 in
set_option maxHeartbeats 4000000 in
theorem pf0_nn_7 (p0 : Int32) (p1 : Int32) (p2 : Int32) (q3 : Int64) (uA : Addr) (uS : Addr) (uI : Addr) (cs : Int32) (v1 : Int32) (v2 : Int32) (v3 : Int32) (v9 : Int32) (v10 : Int32) (v11 : Int32) (hv1 : v1 = (p0 &&& (2147483647 : Int32))) (hv2 : v2 = (if (p1 &&& (1 : Int32)) = (0 : Int32) then (0 : Int32) else (1 : Int32))) (hv3 : v3 = (((p1.toUInt32 >>> ((4 : Int32) &&& 31).toUInt32).toInt32) % (3 : Int32))) (hv9 : v9 = (if (p1 &&& (2 : Int32)) = (0 : Int32) then (0 : Int32) else (if v2 = (0 : Int32) then (1 : Int32) else (0 : Int32)))) (hv10 : v10 = ((p2 &&& (255 : Int32)).toUInt32.toUInt16.toUInt32.toInt32)) (hv11 : v11 = ((((p2.toUInt32 >>> ((8 : Int32) &&& 31).toUInt32).toInt32) &&& (255 : Int32)).toUInt32.toUInt16.toUInt32.toInt32)) (hc28_2 : ¬ (v3 = (0 : Int32))) (hc42_18 : v3 = (1 : Int32)) (hc225_28 : v9 = (0 : Int32)) : ¬ v1 < 0 := by
  have m : v1.toInt = p0.toInt % 2147483648 := by rw [hv1]; exact c_mask _ _ 31 (by decide) (by decide)
  rw [Int32.lt_iff_toInt_lt]; simp only [Int32.reduceToInt]; omega
set_option maxRecDepth 65536 in
set_option maxHeartbeats 4000000 in
theorem pl_0_2 (p0 : Int32) (p1 : Int32) (p2 : Int32) (q3 : Int64) (uA : Addr) (uS : Addr) (uI : Addr) (cs : Int32) (v1 : Int32) (v2 : Int32) (v3 : Int32) (v9 : Int32) (v10 : Int32) (v11 : Int32) (v12 : Int32) (hv1 : v1 = (p0 &&& (2147483647 : Int32))) (hv2 : v2 = (if (p1 &&& (1 : Int32)) = (0 : Int32) then (0 : Int32) else (1 : Int32))) (hv3 : v3 = (((p1.toUInt32 >>> ((4 : Int32) &&& 31).toUInt32).toInt32) % (3 : Int32))) (hv9 : v9 = (if (p1 &&& (2 : Int32)) = (0 : Int32) then (0 : Int32) else (if v2 = (0 : Int32) then (1 : Int32) else (0 : Int32)))) (hv10 : v10 = ((p2 &&& (255 : Int32)).toUInt32.toUInt16.toUInt32.toInt32)) (hv11 : v11 = ((((p2.toUInt32 >>> ((8 : Int32) &&& 31).toUInt32).toInt32) &&& (255 : Int32)).toUInt32.toUInt16.toUInt32.toInt32)) (hv12 : v12 = (if (0 : Int32) = v9 then (1 : Int32) else (0 : Int32))) (hc28_2 : ¬ (v3 = (0 : Int32))) (hc42_18 : v3 = (1 : Int32)) (hc225_28 : v9 = (0 : Int32)) : v12 = (1 : Int32) := by
  rw [hv12, hc225_28]; decide
set_option maxRecDepth 65536 in
set_option maxHeartbeats 4000000 in
theorem pf0_c255_9 (p0 : Int32) (p1 : Int32) (p2 : Int32) (q3 : Int64) (uA : Addr) (uS : Addr) (uI : Addr) (cs : Int32) (v1 : Int32) (v2 : Int32) (v3 : Int32) (v9 : Int32) (v10 : Int32) (v11 : Int32) (v13 : Int32) (hv1 : v1 = (p0 &&& (2147483647 : Int32))) (hv2 : v2 = (if (p1 &&& (1 : Int32)) = (0 : Int32) then (0 : Int32) else (1 : Int32))) (hv3 : v3 = (((p1.toUInt32 >>> ((4 : Int32) &&& 31).toUInt32).toInt32) % (3 : Int32))) (hv9 : v9 = (if (p1 &&& (2 : Int32)) = (0 : Int32) then (0 : Int32) else (if v2 = (0 : Int32) then (1 : Int32) else (0 : Int32)))) (hv10 : v10 = ((p2 &&& (255 : Int32)).toUInt32.toUInt16.toUInt32.toInt32)) (hv11 : v11 = ((((p2.toUInt32 >>> ((8 : Int32) &&& 31).toUInt32).toInt32) &&& (255 : Int32)).toUInt32.toUInt16.toUInt32.toInt32)) (hv13 : v13 = ((((p2.toUInt32 >>> ((24 : Int32) &&& 31).toUInt32).toInt32) &&& (255 : Int32)).toUInt32.toUInt16.toUInt32.toInt32)) (hc28_2 : ¬ (v3 = (0 : Int32))) (hc42_18 : v3 = (1 : Int32)) (hc225_28 : ¬ (v9 = (0 : Int32))) : ¬ (255 : Int32) < v13 := by
  rw [hv13]; exact own_c255 _
set_option maxRecDepth 65536 in
set_option maxHeartbeats 4000000 in
theorem pf0_nn_10 (p0 : Int32) (p1 : Int32) (p2 : Int32) (q3 : Int64) (uA : Addr) (uS : Addr) (uI : Addr) (cs : Int32) (v1 : Int32) (v2 : Int32) (v3 : Int32) (v9 : Int32) (v10 : Int32) (v11 : Int32) (v13 : Int32) (hv1 : v1 = (p0 &&& (2147483647 : Int32))) (hv2 : v2 = (if (p1 &&& (1 : Int32)) = (0 : Int32) then (0 : Int32) else (1 : Int32))) (hv3 : v3 = (((p1.toUInt32 >>> ((4 : Int32) &&& 31).toUInt32).toInt32) % (3 : Int32))) (hv9 : v9 = (if (p1 &&& (2 : Int32)) = (0 : Int32) then (0 : Int32) else (if v2 = (0 : Int32) then (1 : Int32) else (0 : Int32)))) (hv10 : v10 = ((p2 &&& (255 : Int32)).toUInt32.toUInt16.toUInt32.toInt32)) (hv11 : v11 = ((((p2.toUInt32 >>> ((8 : Int32) &&& 31).toUInt32).toInt32) &&& (255 : Int32)).toUInt32.toUInt16.toUInt32.toInt32)) (hv13 : v13 = ((((p2.toUInt32 >>> ((24 : Int32) &&& 31).toUInt32).toInt32) &&& (255 : Int32)).toUInt32.toUInt16.toUInt32.toInt32)) (hc28_2 : ¬ (v3 = (0 : Int32))) (hc42_18 : v3 = (1 : Int32)) (hc225_28 : ¬ (v9 = (0 : Int32))) : ¬ v1 < 0 := by
  have m : v1.toInt = p0.toInt % 2147483648 := by rw [hv1]; exact c_mask _ _ 31 (by decide) (by decide)
  rw [Int32.lt_iff_toInt_lt]; simp only [Int32.reduceToInt]; omega
set_option maxRecDepth 65536 in
set_option maxHeartbeats 4000000 in
theorem pf0_p2z_11 (p0 : Int32) (p1 : Int32) (p2 : Int32) (q3 : Int64) (uA : Addr) (uS : Addr) (uI : Addr) (cs : Int32) (v1 : Int32) (v2 : Int32) (v3 : Int32) (v9 : Int32) (v10 : Int32) (v11 : Int32) (v13 : Int32) (hv1 : v1 = (p0 &&& (2147483647 : Int32))) (hv2 : v2 = (if (p1 &&& (1 : Int32)) = (0 : Int32) then (0 : Int32) else (1 : Int32))) (hv3 : v3 = (((p1.toUInt32 >>> ((4 : Int32) &&& 31).toUInt32).toInt32) % (3 : Int32))) (hv9 : v9 = (if (p1 &&& (2 : Int32)) = (0 : Int32) then (0 : Int32) else (if v2 = (0 : Int32) then (1 : Int32) else (0 : Int32)))) (hv10 : v10 = ((p2 &&& (255 : Int32)).toUInt32.toUInt16.toUInt32.toInt32)) (hv11 : v11 = ((((p2.toUInt32 >>> ((8 : Int32) &&& 31).toUInt32).toInt32) &&& (255 : Int32)).toUInt32.toUInt16.toUInt32.toInt32)) (hv13 : v13 = ((((p2.toUInt32 >>> ((24 : Int32) &&& 31).toUInt32).toInt32) &&& (255 : Int32)).toUInt32.toUInt16.toUInt32.toInt32)) (hc28_2 : ¬ (v3 = (0 : Int32))) (hc42_18 : v3 = (1 : Int32)) (hc225_28 : ¬ (v9 = (0 : Int32))) : v2 = 0 := by
  by_cases h : v2 = 0
  · exact h
  · exact absurd (show v9 = 0 by rw [hv9]; simp [h]) hc225_28
set_option maxRecDepth 65536 in
set_option maxHeartbeats 4000000 in
theorem pl_0_3 (p0 : Int32) (p1 : Int32) (p2 : Int32) (q3 : Int64) (uA : Addr) (uS : Addr) (uI : Addr) (cs : Int32) (v1 : Int32) (v2 : Int32) (v3 : Int32) (v9 : Int32) (v10 : Int32) (v11 : Int32) (v13 : Int32) (v14 : Int32) (hv1 : v1 = (p0 &&& (2147483647 : Int32))) (hv2 : v2 = (if (p1 &&& (1 : Int32)) = (0 : Int32) then (0 : Int32) else (1 : Int32))) (hv3 : v3 = (((p1.toUInt32 >>> ((4 : Int32) &&& 31).toUInt32).toInt32) % (3 : Int32))) (hv9 : v9 = (if (p1 &&& (2 : Int32)) = (0 : Int32) then (0 : Int32) else (if v2 = (0 : Int32) then (1 : Int32) else (0 : Int32)))) (hv10 : v10 = ((p2 &&& (255 : Int32)).toUInt32.toUInt16.toUInt32.toInt32)) (hv11 : v11 = ((((p2.toUInt32 >>> ((8 : Int32) &&& 31).toUInt32).toInt32) &&& (255 : Int32)).toUInt32.toUInt16.toUInt32.toInt32)) (hv13 : v13 = ((((p2.toUInt32 >>> ((24 : Int32) &&& 31).toUInt32).toInt32) &&& (255 : Int32)).toUInt32.toUInt16.toUInt32.toInt32)) (hv14 : v14 = (if (1 : Int32) = v9 then (1 : Int32) else (0 : Int32))) (hc28_2 : ¬ (v3 = (0 : Int32))) (hc42_18 : v3 = (1 : Int32)) (hc225_28 : ¬ (v9 = (0 : Int32))) : v14 = (1 : Int32) := by
  have e : v9 = 1 := by
    by_cases a : (p1 &&& (2 : Int32)) = 0
    · exact absurd (by rw [hv9, if_pos a]) hc225_28
    · by_cases b : v2 = 0
      · rw [hv9, if_neg a, if_pos b]
      · exact absurd (by rw [hv9, if_neg a, if_neg b]) hc225_28
  rw [hv14, e]; decide
set_option maxRecDepth 65536 in
set_option maxHeartbeats 4000000 in
theorem pf0_k2_13 (p0 : Int32) (p1 : Int32) (p2 : Int32) (q3 : Int64) (uA : Addr) (uS : Addr) (uI : Addr) (cs : Int32) (v1 : Int32) (v2 : Int32) (v3 : Int32) (v16 : Int32) (hv1 : v1 = (p0 &&& (2147483647 : Int32))) (hv2 : v2 = (if (p1 &&& (1 : Int32)) = (0 : Int32) then (0 : Int32) else (1 : Int32))) (hv3 : v3 = (((p1.toUInt32 >>> ((4 : Int32) &&& 31).toUInt32).toInt32) % (3 : Int32))) (hv16 : v16 = (if (p1 &&& (2 : Int32)) = (0 : Int32) then (0 : Int32) else (if v2 = (0 : Int32) then (1 : Int32) else (0 : Int32)))) (hc28_2 : ¬ (v3 = (0 : Int32))) (hc42_18 : ¬ (v3 = (1 : Int32))) (hc120_43 : ¬ ((p1 &&& (8 : Int32)) = (0 : Int32))) (hc125_44 : ¬ (v2 = (0 : Int32))) : v3 = (2 : Int32) := by
  have m : ((p1.toUInt32 >>> ((4 : Int32) &&& 31).toUInt32).toInt32).toInt = (p1.toInt % 4294967296) / 16 := c_iushr p1 4 4 (by decide) (by decide)
  have e : v3.toInt = ((p1.toInt % 4294967296) / 16) % 3 := by
    rw [hv3, Int32.toInt_mod, m, Int.tmod_eq_emod_of_nonneg (by omega)]; rfl
  rw [← Int32.toInt_inj] at hc28_2 hc42_18 ⊢
  simp only [Int32.reduceToInt] at hc28_2 hc42_18 ⊢; omega
set_option maxRecDepth 65536 in
set_option maxHeartbeats 4000000 in
theorem pf0_c255_14 (p0 : Int32) (p1 : Int32) (p2 : Int32) (q3 : Int64) (uA : Addr) (uS : Addr) (uI : Addr) (cs : Int32) (v1 : Int32) (v2 : Int32) (v3 : Int32) (v16 : Int32) (v18 : Int32) (v19 : Int32) (hv1 : v1 = (p0 &&& (2147483647 : Int32))) (hv2 : v2 = (if (p1 &&& (1 : Int32)) = (0 : Int32) then (0 : Int32) else (1 : Int32))) (hv3 : v3 = (((p1.toUInt32 >>> ((4 : Int32) &&& 31).toUInt32).toInt32) % (3 : Int32))) (hv16 : v16 = (if (p1 &&& (2 : Int32)) = (0 : Int32) then (0 : Int32) else (if v2 = (0 : Int32) then (1 : Int32) else (0 : Int32)))) (hv18 : v18 = (if (p1 &&& (8 : Int32)) = (0 : Int32) then (0 : Int32) else (if v2 = (0 : Int32) then (0 : Int32) else (1 : Int32)))) (hv19 : v19 = ((p2 &&& (255 : Int32)).toUInt32.toUInt16.toUInt32.toInt32)) (hc28_2 : ¬ (v3 = (0 : Int32))) (hc42_18 : ¬ (v3 = (1 : Int32))) : ¬ (255 : Int32) < v19 := by
  rw [hv19]; exact own_c255 _
set_option maxRecDepth 65536 in
set_option maxHeartbeats 4000000 in
theorem pf0_c255_15 (p0 : Int32) (p1 : Int32) (p2 : Int32) (q3 : Int64) (uA : Addr) (uS : Addr) (uI : Addr) (cs : Int32) (v1 : Int32) (v2 : Int32) (v3 : Int32) (v16 : Int32) (v18 : Int32) (v19 : Int32) (v20 : Int32) (hv1 : v1 = (p0 &&& (2147483647 : Int32))) (hv2 : v2 = (if (p1 &&& (1 : Int32)) = (0 : Int32) then (0 : Int32) else (1 : Int32))) (hv3 : v3 = (((p1.toUInt32 >>> ((4 : Int32) &&& 31).toUInt32).toInt32) % (3 : Int32))) (hv16 : v16 = (if (p1 &&& (2 : Int32)) = (0 : Int32) then (0 : Int32) else (if v2 = (0 : Int32) then (1 : Int32) else (0 : Int32)))) (hv18 : v18 = (if (p1 &&& (8 : Int32)) = (0 : Int32) then (0 : Int32) else (if v2 = (0 : Int32) then (0 : Int32) else (1 : Int32)))) (hv19 : v19 = ((p2 &&& (255 : Int32)).toUInt32.toUInt16.toUInt32.toInt32)) (hv20 : v20 = ((((p2.toUInt32 >>> ((8 : Int32) &&& 31).toUInt32).toInt32) &&& (255 : Int32)).toUInt32.toUInt16.toUInt32.toInt32)) (hc28_2 : ¬ (v3 = (0 : Int32))) (hc42_18 : ¬ (v3 = (1 : Int32))) : ¬ (255 : Int32) < v20 := by
  rw [hv20]; exact own_c255 _
set_option maxRecDepth 65536 in
set_option maxHeartbeats 4000000 in
theorem pf0_nn_16 (p0 : Int32) (p1 : Int32) (p2 : Int32) (q3 : Int64) (uA : Addr) (uS : Addr) (uI : Addr) (cs : Int32) (v1 : Int32) (v2 : Int32) (v3 : Int32) (v16 : Int32) (v18 : Int32) (v19 : Int32) (v20 : Int32) (hv1 : v1 = (p0 &&& (2147483647 : Int32))) (hv2 : v2 = (if (p1 &&& (1 : Int32)) = (0 : Int32) then (0 : Int32) else (1 : Int32))) (hv3 : v3 = (((p1.toUInt32 >>> ((4 : Int32) &&& 31).toUInt32).toInt32) % (3 : Int32))) (hv16 : v16 = (if (p1 &&& (2 : Int32)) = (0 : Int32) then (0 : Int32) else (if v2 = (0 : Int32) then (1 : Int32) else (0 : Int32)))) (hv18 : v18 = (if (p1 &&& (8 : Int32)) = (0 : Int32) then (0 : Int32) else (if v2 = (0 : Int32) then (0 : Int32) else (1 : Int32)))) (hv19 : v19 = ((p2 &&& (255 : Int32)).toUInt32.toUInt16.toUInt32.toInt32)) (hv20 : v20 = ((((p2.toUInt32 >>> ((8 : Int32) &&& 31).toUInt32).toInt32) &&& (255 : Int32)).toUInt32.toUInt16.toUInt32.toInt32)) (hc28_2 : ¬ (v3 = (0 : Int32))) (hc42_18 : ¬ (v3 = (1 : Int32))) (hc225_47 : v16 = (0 : Int32)) (hc248_48 : v18 = (0 : Int32)) : ¬ v1 < 0 := by
  have m : v1.toInt = p0.toInt % 2147483648 := by rw [hv1]; exact c_mask _ _ 31 (by decide) (by decide)
  rw [Int32.lt_iff_toInt_lt]; simp only [Int32.reduceToInt]; omega
set_option maxRecDepth 65536 in
set_option maxHeartbeats 4000000 in
theorem pl_0_4 (p0 : Int32) (p1 : Int32) (p2 : Int32) (q3 : Int64) (uA : Addr) (uS : Addr) (uI : Addr) (cs : Int32) (v1 : Int32) (v2 : Int32) (v3 : Int32) (v16 : Int32) (v18 : Int32) (v19 : Int32) (v20 : Int32) (v21 : Int32) (hv1 : v1 = (p0 &&& (2147483647 : Int32))) (hv2 : v2 = (if (p1 &&& (1 : Int32)) = (0 : Int32) then (0 : Int32) else (1 : Int32))) (hv3 : v3 = (((p1.toUInt32 >>> ((4 : Int32) &&& 31).toUInt32).toInt32) % (3 : Int32))) (hv16 : v16 = (if (p1 &&& (2 : Int32)) = (0 : Int32) then (0 : Int32) else (if v2 = (0 : Int32) then (1 : Int32) else (0 : Int32)))) (hv18 : v18 = (if (p1 &&& (8 : Int32)) = (0 : Int32) then (0 : Int32) else (if v2 = (0 : Int32) then (0 : Int32) else (1 : Int32)))) (hv19 : v19 = ((p2 &&& (255 : Int32)).toUInt32.toUInt16.toUInt32.toInt32)) (hv20 : v20 = ((((p2.toUInt32 >>> ((8 : Int32) &&& 31).toUInt32).toInt32) &&& (255 : Int32)).toUInt32.toUInt16.toUInt32.toInt32)) (hv21 : v21 = (if (0 : Int32) = v16 then (1 : Int32) else (0 : Int32))) (hc28_2 : ¬ (v3 = (0 : Int32))) (hc42_18 : ¬ (v3 = (1 : Int32))) (hc225_47 : v16 = (0 : Int32)) (hc248_48 : v18 = (0 : Int32)) : v21 = (1 : Int32) := by
  rw [hv21, hc225_47]; decide
set_option maxRecDepth 65536 in
set_option maxHeartbeats 4000000 in
theorem pf0_c255_18 (p0 : Int32) (p1 : Int32) (p2 : Int32) (q3 : Int64) (uA : Addr) (uS : Addr) (uI : Addr) (cs : Int32) (v1 : Int32) (v2 : Int32) (v3 : Int32) (v16 : Int32) (v18 : Int32) (v19 : Int32) (v20 : Int32) (v22 : Int32) (hv1 : v1 = (p0 &&& (2147483647 : Int32))) (hv2 : v2 = (if (p1 &&& (1 : Int32)) = (0 : Int32) then (0 : Int32) else (1 : Int32))) (hv3 : v3 = (((p1.toUInt32 >>> ((4 : Int32) &&& 31).toUInt32).toInt32) % (3 : Int32))) (hv16 : v16 = (if (p1 &&& (2 : Int32)) = (0 : Int32) then (0 : Int32) else (if v2 = (0 : Int32) then (1 : Int32) else (0 : Int32)))) (hv18 : v18 = (if (p1 &&& (8 : Int32)) = (0 : Int32) then (0 : Int32) else (if v2 = (0 : Int32) then (0 : Int32) else (1 : Int32)))) (hv19 : v19 = ((p2 &&& (255 : Int32)).toUInt32.toUInt16.toUInt32.toInt32)) (hv20 : v20 = ((((p2.toUInt32 >>> ((8 : Int32) &&& 31).toUInt32).toInt32) &&& (255 : Int32)).toUInt32.toUInt16.toUInt32.toInt32)) (hv22 : v22 = ((((p2.toUInt32 >>> ((4 : Int32) &&& 31).toUInt32).toInt32) &&& (255 : Int32)).toUInt32.toUInt16.toUInt32.toInt32)) (hc28_2 : ¬ (v3 = (0 : Int32))) (hc42_18 : ¬ (v3 = (1 : Int32))) (hc225_47 : v16 = (0 : Int32)) (hc248_48 : ¬ (v18 = (0 : Int32))) : ¬ (255 : Int32) < v22 := by
  rw [hv22]; exact own_c255 _
set_option maxRecDepth 65536 in
set_option maxHeartbeats 4000000 in
theorem pf0_nn_19 (p0 : Int32) (p1 : Int32) (p2 : Int32) (q3 : Int64) (uA : Addr) (uS : Addr) (uI : Addr) (cs : Int32) (v1 : Int32) (v2 : Int32) (v3 : Int32) (v16 : Int32) (v18 : Int32) (v19 : Int32) (v20 : Int32) (v22 : Int32) (hv1 : v1 = (p0 &&& (2147483647 : Int32))) (hv2 : v2 = (if (p1 &&& (1 : Int32)) = (0 : Int32) then (0 : Int32) else (1 : Int32))) (hv3 : v3 = (((p1.toUInt32 >>> ((4 : Int32) &&& 31).toUInt32).toInt32) % (3 : Int32))) (hv16 : v16 = (if (p1 &&& (2 : Int32)) = (0 : Int32) then (0 : Int32) else (if v2 = (0 : Int32) then (1 : Int32) else (0 : Int32)))) (hv18 : v18 = (if (p1 &&& (8 : Int32)) = (0 : Int32) then (0 : Int32) else (if v2 = (0 : Int32) then (0 : Int32) else (1 : Int32)))) (hv19 : v19 = ((p2 &&& (255 : Int32)).toUInt32.toUInt16.toUInt32.toInt32)) (hv20 : v20 = ((((p2.toUInt32 >>> ((8 : Int32) &&& 31).toUInt32).toInt32) &&& (255 : Int32)).toUInt32.toUInt16.toUInt32.toInt32)) (hv22 : v22 = ((((p2.toUInt32 >>> ((4 : Int32) &&& 31).toUInt32).toInt32) &&& (255 : Int32)).toUInt32.toUInt16.toUInt32.toInt32)) (hc28_2 : ¬ (v3 = (0 : Int32))) (hc42_18 : ¬ (v3 = (1 : Int32))) (hc225_47 : v16 = (0 : Int32)) (hc248_48 : ¬ (v18 = (0 : Int32))) : ¬ v1 < 0 := by
  have m : v1.toInt = p0.toInt % 2147483648 := by rw [hv1]; exact c_mask _ _ 31 (by decide) (by decide)
  rw [Int32.lt_iff_toInt_lt]; simp only [Int32.reduceToInt]; omega
set_option maxRecDepth 65536 in
set_option maxHeartbeats 4000000 in
theorem pf0_p2nz_20 (p0 : Int32) (p1 : Int32) (p2 : Int32) (q3 : Int64) (uA : Addr) (uS : Addr) (uI : Addr) (cs : Int32) (v1 : Int32) (v2 : Int32) (v3 : Int32) (v16 : Int32) (v18 : Int32) (v19 : Int32) (v20 : Int32) (v22 : Int32) (hv1 : v1 = (p0 &&& (2147483647 : Int32))) (hv2 : v2 = (if (p1 &&& (1 : Int32)) = (0 : Int32) then (0 : Int32) else (1 : Int32))) (hv3 : v3 = (((p1.toUInt32 >>> ((4 : Int32) &&& 31).toUInt32).toInt32) % (3 : Int32))) (hv16 : v16 = (if (p1 &&& (2 : Int32)) = (0 : Int32) then (0 : Int32) else (if v2 = (0 : Int32) then (1 : Int32) else (0 : Int32)))) (hv18 : v18 = (if (p1 &&& (8 : Int32)) = (0 : Int32) then (0 : Int32) else (if v2 = (0 : Int32) then (0 : Int32) else (1 : Int32)))) (hv19 : v19 = ((p2 &&& (255 : Int32)).toUInt32.toUInt16.toUInt32.toInt32)) (hv20 : v20 = ((((p2.toUInt32 >>> ((8 : Int32) &&& 31).toUInt32).toInt32) &&& (255 : Int32)).toUInt32.toUInt16.toUInt32.toInt32)) (hv22 : v22 = ((((p2.toUInt32 >>> ((4 : Int32) &&& 31).toUInt32).toInt32) &&& (255 : Int32)).toUInt32.toUInt16.toUInt32.toInt32)) (hc28_2 : ¬ (v3 = (0 : Int32))) (hc42_18 : ¬ (v3 = (1 : Int32))) (hc225_47 : v16 = (0 : Int32)) (hc248_48 : ¬ (v18 = (0 : Int32))) : ¬ (v2 = 0) := by
  intro h; exact absurd (show v18 = 0 by rw [hv18]; simp [h]) hc248_48
set_option maxRecDepth 65536 in
set_option maxHeartbeats 4000000 in
theorem pl_0_5 (p0 : Int32) (p1 : Int32) (p2 : Int32) (q3 : Int64) (uA : Addr) (uS : Addr) (uI : Addr) (cs : Int32) (v1 : Int32) (v2 : Int32) (v3 : Int32) (v16 : Int32) (v18 : Int32) (v19 : Int32) (v20 : Int32) (v22 : Int32) (v23 : Int32) (hv1 : v1 = (p0 &&& (2147483647 : Int32))) (hv2 : v2 = (if (p1 &&& (1 : Int32)) = (0 : Int32) then (0 : Int32) else (1 : Int32))) (hv3 : v3 = (((p1.toUInt32 >>> ((4 : Int32) &&& 31).toUInt32).toInt32) % (3 : Int32))) (hv16 : v16 = (if (p1 &&& (2 : Int32)) = (0 : Int32) then (0 : Int32) else (if v2 = (0 : Int32) then (1 : Int32) else (0 : Int32)))) (hv18 : v18 = (if (p1 &&& (8 : Int32)) = (0 : Int32) then (0 : Int32) else (if v2 = (0 : Int32) then (0 : Int32) else (1 : Int32)))) (hv19 : v19 = ((p2 &&& (255 : Int32)).toUInt32.toUInt16.toUInt32.toInt32)) (hv20 : v20 = ((((p2.toUInt32 >>> ((8 : Int32) &&& 31).toUInt32).toInt32) &&& (255 : Int32)).toUInt32.toUInt16.toUInt32.toInt32)) (hv22 : v22 = ((((p2.toUInt32 >>> ((4 : Int32) &&& 31).toUInt32).toInt32) &&& (255 : Int32)).toUInt32.toUInt16.toUInt32.toInt32)) (hv23 : v23 = (if (0 : Int32) = v16 then (1 : Int32) else (0 : Int32))) (hc28_2 : ¬ (v3 = (0 : Int32))) (hc42_18 : ¬ (v3 = (1 : Int32))) (hc225_47 : v16 = (0 : Int32)) (hc248_48 : ¬ (v18 = (0 : Int32))) : v23 = (1 : Int32) := by
  rw [hv23, hc225_47]; decide
set_option maxRecDepth 65536 in
set_option maxHeartbeats 4000000 in
theorem pf0_c255_22 (p0 : Int32) (p1 : Int32) (p2 : Int32) (q3 : Int64) (uA : Addr) (uS : Addr) (uI : Addr) (cs : Int32) (v1 : Int32) (v2 : Int32) (v3 : Int32) (v16 : Int32) (v18 : Int32) (v19 : Int32) (v20 : Int32) (v24 : Int32) (hv1 : v1 = (p0 &&& (2147483647 : Int32))) (hv2 : v2 = (if (p1 &&& (1 : Int32)) = (0 : Int32) then (0 : Int32) else (1 : Int32))) (hv3 : v3 = (((p1.toUInt32 >>> ((4 : Int32) &&& 31).toUInt32).toInt32) % (3 : Int32))) (hv16 : v16 = (if (p1 &&& (2 : Int32)) = (0 : Int32) then (0 : Int32) else (if v2 = (0 : Int32) then (1 : Int32) else (0 : Int32)))) (hv18 : v18 = (if (p1 &&& (8 : Int32)) = (0 : Int32) then (0 : Int32) else (if v2 = (0 : Int32) then (0 : Int32) else (1 : Int32)))) (hv19 : v19 = ((p2 &&& (255 : Int32)).toUInt32.toUInt16.toUInt32.toInt32)) (hv20 : v20 = ((((p2.toUInt32 >>> ((8 : Int32) &&& 31).toUInt32).toInt32) &&& (255 : Int32)).toUInt32.toUInt16.toUInt32.toInt32)) (hv24 : v24 = ((((p2.toUInt32 >>> ((24 : Int32) &&& 31).toUInt32).toInt32) &&& (255 : Int32)).toUInt32.toUInt16.toUInt32.toInt32)) (hc28_2 : ¬ (v3 = (0 : Int32))) (hc42_18 : ¬ (v3 = (1 : Int32))) (hc225_47 : ¬ (v16 = (0 : Int32))) : ¬ (255 : Int32) < v24 := by
  rw [hv24]; exact own_c255 _
set_option maxRecDepth 65536 in
set_option maxHeartbeats 4000000 in
theorem pf0_nn_23 (p0 : Int32) (p1 : Int32) (p2 : Int32) (q3 : Int64) (uA : Addr) (uS : Addr) (uI : Addr) (cs : Int32) (v1 : Int32) (v2 : Int32) (v3 : Int32) (v16 : Int32) (v18 : Int32) (v19 : Int32) (v20 : Int32) (v24 : Int32) (hv1 : v1 = (p0 &&& (2147483647 : Int32))) (hv2 : v2 = (if (p1 &&& (1 : Int32)) = (0 : Int32) then (0 : Int32) else (1 : Int32))) (hv3 : v3 = (((p1.toUInt32 >>> ((4 : Int32) &&& 31).toUInt32).toInt32) % (3 : Int32))) (hv16 : v16 = (if (p1 &&& (2 : Int32)) = (0 : Int32) then (0 : Int32) else (if v2 = (0 : Int32) then (1 : Int32) else (0 : Int32)))) (hv18 : v18 = (if (p1 &&& (8 : Int32)) = (0 : Int32) then (0 : Int32) else (if v2 = (0 : Int32) then (0 : Int32) else (1 : Int32)))) (hv19 : v19 = ((p2 &&& (255 : Int32)).toUInt32.toUInt16.toUInt32.toInt32)) (hv20 : v20 = ((((p2.toUInt32 >>> ((8 : Int32) &&& 31).toUInt32).toInt32) &&& (255 : Int32)).toUInt32.toUInt16.toUInt32.toInt32)) (hv24 : v24 = ((((p2.toUInt32 >>> ((24 : Int32) &&& 31).toUInt32).toInt32) &&& (255 : Int32)).toUInt32.toUInt16.toUInt32.toInt32)) (hc28_2 : ¬ (v3 = (0 : Int32))) (hc42_18 : ¬ (v3 = (1 : Int32))) (hc225_47 : ¬ (v16 = (0 : Int32))) (hc248_59 : v18 = (0 : Int32)) : ¬ v1 < 0 := by
  have m : v1.toInt = p0.toInt % 2147483648 := by rw [hv1]; exact c_mask _ _ 31 (by decide) (by decide)
  rw [Int32.lt_iff_toInt_lt]; simp only [Int32.reduceToInt]; omega
set_option maxRecDepth 65536 in
set_option maxHeartbeats 4000000 in
theorem pf0_p2z_24 (p0 : Int32) (p1 : Int32) (p2 : Int32) (q3 : Int64) (uA : Addr) (uS : Addr) (uI : Addr) (cs : Int32) (v1 : Int32) (v2 : Int32) (v3 : Int32) (v16 : Int32) (v18 : Int32) (v19 : Int32) (v20 : Int32) (v24 : Int32) (hv1 : v1 = (p0 &&& (2147483647 : Int32))) (hv2 : v2 = (if (p1 &&& (1 : Int32)) = (0 : Int32) then (0 : Int32) else (1 : Int32))) (hv3 : v3 = (((p1.toUInt32 >>> ((4 : Int32) &&& 31).toUInt32).toInt32) % (3 : Int32))) (hv16 : v16 = (if (p1 &&& (2 : Int32)) = (0 : Int32) then (0 : Int32) else (if v2 = (0 : Int32) then (1 : Int32) else (0 : Int32)))) (hv18 : v18 = (if (p1 &&& (8 : Int32)) = (0 : Int32) then (0 : Int32) else (if v2 = (0 : Int32) then (0 : Int32) else (1 : Int32)))) (hv19 : v19 = ((p2 &&& (255 : Int32)).toUInt32.toUInt16.toUInt32.toInt32)) (hv20 : v20 = ((((p2.toUInt32 >>> ((8 : Int32) &&& 31).toUInt32).toInt32) &&& (255 : Int32)).toUInt32.toUInt16.toUInt32.toInt32)) (hv24 : v24 = ((((p2.toUInt32 >>> ((24 : Int32) &&& 31).toUInt32).toInt32) &&& (255 : Int32)).toUInt32.toUInt16.toUInt32.toInt32)) (hc28_2 : ¬ (v3 = (0 : Int32))) (hc42_18 : ¬ (v3 = (1 : Int32))) (hc225_47 : ¬ (v16 = (0 : Int32))) (hc248_59 : v18 = (0 : Int32)) : v2 = 0 := by
  by_cases h : v2 = 0
  · exact h
  · exact absurd (show v16 = 0 by rw [hv16]; simp [h]) hc225_47
set_option maxRecDepth 65536 in
set_option maxHeartbeats 4000000 in
theorem pl_0_6 (p0 : Int32) (p1 : Int32) (p2 : Int32) (q3 : Int64) (uA : Addr) (uS : Addr) (uI : Addr) (cs : Int32) (v1 : Int32) (v2 : Int32) (v3 : Int32) (v16 : Int32) (v18 : Int32) (v19 : Int32) (v20 : Int32) (v24 : Int32) (v25 : Int32) (hv1 : v1 = (p0 &&& (2147483647 : Int32))) (hv2 : v2 = (if (p1 &&& (1 : Int32)) = (0 : Int32) then (0 : Int32) else (1 : Int32))) (hv3 : v3 = (((p1.toUInt32 >>> ((4 : Int32) &&& 31).toUInt32).toInt32) % (3 : Int32))) (hv16 : v16 = (if (p1 &&& (2 : Int32)) = (0 : Int32) then (0 : Int32) else (if v2 = (0 : Int32) then (1 : Int32) else (0 : Int32)))) (hv18 : v18 = (if (p1 &&& (8 : Int32)) = (0 : Int32) then (0 : Int32) else (if v2 = (0 : Int32) then (0 : Int32) else (1 : Int32)))) (hv19 : v19 = ((p2 &&& (255 : Int32)).toUInt32.toUInt16.toUInt32.toInt32)) (hv20 : v20 = ((((p2.toUInt32 >>> ((8 : Int32) &&& 31).toUInt32).toInt32) &&& (255 : Int32)).toUInt32.toUInt16.toUInt32.toInt32)) (hv24 : v24 = ((((p2.toUInt32 >>> ((24 : Int32) &&& 31).toUInt32).toInt32) &&& (255 : Int32)).toUInt32.toUInt16.toUInt32.toInt32)) (hv25 : v25 = (if (1 : Int32) = v16 then (1 : Int32) else (0 : Int32))) (hc28_2 : ¬ (v3 = (0 : Int32))) (hc42_18 : ¬ (v3 = (1 : Int32))) (hc225_47 : ¬ (v16 = (0 : Int32))) (hc248_59 : v18 = (0 : Int32)) : v25 = (1 : Int32) := by
  have e : v16 = 1 := by
    by_cases a : (p1 &&& (2 : Int32)) = 0
    · exact absurd (by rw [hv16, if_pos a]) hc225_47
    · by_cases b : v2 = 0
      · rw [hv16, if_neg a, if_pos b]
      · exact absurd (by rw [hv16, if_neg a, if_neg b]) hc225_47
  rw [hv25, e]; decide
set_option maxRecDepth 65536 in
set_option maxHeartbeats 4000000 in
theorem pf0_dead_26 (p0 : Int32) (p1 : Int32) (p2 : Int32) (q3 : Int64) (uA : Addr) (uS : Addr) (uI : Addr) (cs : Int32) (v1 : Int32) (v2 : Int32) (v3 : Int32) (v16 : Int32) (v18 : Int32) (v19 : Int32) (v20 : Int32) (v24 : Int32) (hv1 : v1 = (p0 &&& (2147483647 : Int32))) (hv2 : v2 = (if (p1 &&& (1 : Int32)) = (0 : Int32) then (0 : Int32) else (1 : Int32))) (hv3 : v3 = (((p1.toUInt32 >>> ((4 : Int32) &&& 31).toUInt32).toInt32) % (3 : Int32))) (hv16 : v16 = (if (p1 &&& (2 : Int32)) = (0 : Int32) then (0 : Int32) else (if v2 = (0 : Int32) then (1 : Int32) else (0 : Int32)))) (hv18 : v18 = (if (p1 &&& (8 : Int32)) = (0 : Int32) then (0 : Int32) else (if v2 = (0 : Int32) then (0 : Int32) else (1 : Int32)))) (hv19 : v19 = ((p2 &&& (255 : Int32)).toUInt32.toUInt16.toUInt32.toInt32)) (hv20 : v20 = ((((p2.toUInt32 >>> ((8 : Int32) &&& 31).toUInt32).toInt32) &&& (255 : Int32)).toUInt32.toUInt16.toUInt32.toInt32)) (hv24 : v24 = ((((p2.toUInt32 >>> ((24 : Int32) &&& 31).toUInt32).toInt32) &&& (255 : Int32)).toUInt32.toUInt16.toUInt32.toInt32)) (hc28_2 : ¬ (v3 = (0 : Int32))) (hc42_18 : ¬ (v3 = (1 : Int32))) (hc225_47 : ¬ (v16 = (0 : Int32))) (hc248_59 : ¬ (v18 = (0 : Int32))) : False := by
  have h0 : v2 = 0 := Classical.byContradiction fun h => absurd (show v16 = 0 by rw [hv16]; simp [h]) hc225_47
  exact absurd (show v18 = 0 by rw [hv18]; simp [h0]) hc248_59
def Q0 (Z : State) (p0 : Int32) (p1 : Int32) (p2 : Int32) (q3 : Int64) (uA : Addr) (uS : Addr) (uI : Addr) (cs : Int32) (h0 : Heap) (n0 : Nat) (v : Option Value) (h : Heap) (L : List Loc) : Prop := v = some (.int 1) ∧ Fr n0 L
set_option maxRecDepth 65536 in
set_option maxHeartbeats 40000000 in
theorem rm0 (l : Launch) (Z : State) (aw : Array Value) (hw : ∀ d ∈ tables_1, d.before aw Z = true) (ws : List Jvm.Cond) (p0 : Int32) (p1 : Int32) (p2 : Int32) (q3 : Int64) (uA : Addr) (uS : Addr) (uI : Addr) (cs : Int32) (h0 : Heap) (n0 : Nat) (Z0 : n0 ≤ h0.size) (r0 : Sta Z Z.heap "org/shardwright/model/ShardCopy$State" "UNASSIGNED" "Lorg/shardwright/model/ShardCopy$State;" (.ref uA)) (r1 : Sta Z Z.heap "org/shardwright/model/ShardCopy$State" "STARTED" "Lorg/shardwright/model/ShardCopy$State;" (.ref uS)) (r2 : Sta Z Z.heap "org/shardwright/model/ShardCopy$State" "INITIALIZING" "Lorg/shardwright/model/ShardCopy$State;" (.ref uI)) (r3 : Sta Z Z.heap "java/lang/String" "COMPACT_STRINGS" "Z" (.int cs)) (r4 : Old Z n0 h0) (hcs : (¬ (cs = 0))) (r6 : uI ≠ uA) (r7 : uS ≠ uA) :
    MetFree l x (head1 (Jvm.Cond.code x code maxLocals ret :: ws) room_1) (fun a U => a = #[(.int p0), (.int p1), (.int p2), (.long q3)] ∧ Z.Warmed39 U.vm ∧ U.heap = h0) (fun _ _ _ _ _ => True) (fun _ U o U' => ∃ v L, o = .returned v ∧ Q0 Z p0 p1 p2 q3 uA uS uI cs h0 n0 v U'.heap L ∧ ReturnedEndW U o U' L room_1.cells room_1.slots) := by
  refine MetFree.of_bodySF (plainFor_of_name pn_0) hisR ?_
  intro p e s m args below meth c s₁ Bd hml0 hP hK
  obtain ⟨rfl, hZ, hh⟩ := hP
  have hx := Bd.exec
  have hby := Bd.bytes
  have hml : c.maxLocals = 21 := hml0
  have hown : s.vm.findClass "org/shardwright/model/ShardCopyMovedInPinLaw" = some m.cls := findClass_of_methodNamed Bd.named
  have hnm := (name_of_methodNamed Bd.named Bd.method).1
  have X0 : Stand p l e room_1 s m #[(.int p0), (.int p1), (.int p2), (.long q3)] below meth c s₁ [] 0 0 := Stand.of_body Bd
  have e0 : s₁.heap = h0 := by rw [← hh, Bd.state]; rfl
  have N0 := Fr.nil n0
  obtain ⟨A0, hA0⟩ : ∃ A0, A0 = s₁.setTop (entryFrame m #[(.int p0), (.int p1), (.int p2), (.long q3)] maxLocals) := ⟨_, rfl⟩
  have go0 : Go p e below A0 (s₁.setTop (mkF m 0 #[.val (.int p0), .val (.int p1), .val (.int p2), .val (.long q3), .second, .unset, .unset, .unset, .unset, .unset, .unset, .unset, .unset, .unset, .unset, .unset, .unset, .unset, .unset, .unset, .unset] [])) := fun t k => by rw [hA0]; exact castTop (ef_0 m p0 p1 p2 q3) k
  have go1 : Go p e below A0 (s₁.setTop (mkF m 6 #[.val (.int p0), .val (.int p1), .val (.int p2), .val (.long q3), .second, .val (.int (p0 &&& (2147483647 : Int32))), .unset, .unset, .unset, .unset, .unset, .unset, .unset, .unset, .unset, .unset, .unset, .unset, .unset, .unset, .unset] [])) := by
    intro t k
    refine go0 t ?_
    refine o_iloadN X0 hx hby at_0 1 rfl rfl ?_
    refine o_ldcInt X0 hx hby hown (mvT hZ (hw _ (List.mem_of_getElem? (i := 0) rfl))) at_1 3 rfl ?_
    refine o_iand X0 hx hby at_3 4 rfl ?_
    refine o_istore X0 hx hby at_4 6 rfl (l' := #[.val (.int p0), .val (.int p1), .val (.int p2), .val (.long q3), .second, .val (.int (p0 &&& (2147483647 : Int32))), .unset, .unset, .unset, .unset, .unset, .unset, .unset, .unset, .unset, .unset, .unset, .unset, .unset, .unset, .unset]) rfl ?_
    exact k
  obtain ⟨v1, hv1, go2⟩ : ∃ v1 : Int32, v1 = (p0 &&& (2147483647 : Int32)) ∧ Go p e below A0 (s₁.setTop (mkF m 6 #[.val (.int p0), .val (.int p1), .val (.int p2), .val (.long q3), .second, .val (.int v1), .unset, .unset, .unset, .unset, .unset, .unset, .unset, .unset, .unset, .unset, .unset, .unset, .unset, .unset, .unset] [])) := ⟨_, rfl, go1⟩
  have go3 : Go p e below A0 (s₁.setTop (mkF m 9 #[.val (.int p0), .val (.int p1), .val (.int p2), .val (.long q3), .second, .val (.int v1), .unset, .unset, .unset, .unset, .unset, .unset, .unset, .unset, .unset, .unset, .unset, .unset, .unset, .unset, .unset] [(.int (p1 &&& (1 : Int32)))])) := by
    intro t k
    refine go2 t ?_
    refine o_iloadN X0 hx hby at_6 7 rfl rfl ?_
    refine o_iconst X0 hx hby at_7 8 rfl (v := (1 : Int32)) rfl ?_
    refine o_iand X0 hx hby at_8 9 rfl ?_
    exact k
  obtain ⟨v2, hv2, go6⟩ : ∃ (v2 : Int32), v2 = (if (p1 &&& (1 : Int32)) = (0 : Int32) then (0 : Int32) else (1 : Int32)) ∧ Go p e below A0 (s₁.setTop (mkF m 17 #[.val (.int p0), .val (.int p1), .val (.int p2), .val (.long q3), .second, .val (.int v1), .unset, .unset, .unset, .unset, .unset, .unset, .unset, .unset, .unset, .unset, .unset, .unset, .unset, .unset, .unset] [(.int v2)])) := by
    by_cases hc9_1 : (p1 &&& (1 : Int32)) = (0 : Int32)
    · have go4 : Go p e below A0 (s₁.setTop (mkF m 17 #[.val (.int p0), .val (.int p1), .val (.int p2), .val (.long q3), .second, .val (.int v1), .unset, .unset, .unset, .unset, .unset, .unset, .unset, .unset, .unset, .unset, .unset, .unset, .unset, .unset, .unset] [(.int (0 : Int32))])) := by
        intro t k
        refine go3 t ?_
        refine o_ifY X0 hx hby at_9 16 rfl (teq hc9_1).1 ?_
        refine o_iconst X0 hx hby at_16 17 rfl (v := (0 : Int32)) rfl ?_
        exact k
      exact ⟨(0 : Int32), (if_pos hc9_1).symm, go4⟩
    · have go5 : Go p e below A0 (s₁.setTop (mkF m 17 #[.val (.int p0), .val (.int p1), .val (.int p2), .val (.long q3), .second, .val (.int v1), .unset, .unset, .unset, .unset, .unset, .unset, .unset, .unset, .unset, .unset, .unset, .unset, .unset, .unset, .unset] [(.int (1 : Int32))])) := by
        intro t k
        refine go3 t ?_
        refine o_ifN X0 hx hby at_9 12 rfl (feq hc9_1).1 ?_
        refine o_iconst X0 hx hby at_12 13 rfl (v := (1 : Int32)) rfl ?_
        refine o_goto X0 hx hby at_13 17 rfl ?_
        exact k
      exact ⟨(1 : Int32), (if_neg hc9_1).symm, go5⟩
  have go7 : Go p e below A0 (s₁.setTop (mkF m 19 #[.val (.int p0), .val (.int p1), .val (.int p2), .val (.long q3), .second, .val (.int v1), .val (.int v2), .unset, .unset, .unset, .unset, .unset, .unset, .unset, .unset, .unset, .unset, .unset, .unset, .unset, .unset] [])) := by
    intro t k
    refine go6 t ?_
    refine o_istore X0 hx hby at_17 19 rfl (l' := #[.val (.int p0), .val (.int p1), .val (.int p2), .val (.long q3), .second, .val (.int v1), .val (.int v2), .unset, .unset, .unset, .unset, .unset, .unset, .unset, .unset, .unset, .unset, .unset, .unset, .unset, .unset]) rfl ?_
    exact k
  have go8 : Go p e below A0 (s₁.setTop (mkF m 26 #[.val (.int p0), .val (.int p1), .val (.int p2), .val (.long q3), .second, .val (.int v1), .val (.int v2), .val (.int (((p1.toUInt32 >>> ((4 : Int32) &&& 31).toUInt32).toInt32) % (3 : Int32))), .unset, .unset, .unset, .unset, .unset, .unset, .unset, .unset, .unset, .unset, .unset, .unset, .unset] [])) := by
    intro t k
    refine go7 t ?_
    refine o_iloadN X0 hx hby at_19 20 rfl rfl ?_
    refine o_iconst X0 hx hby at_20 21 rfl (v := (4 : Int32)) rfl ?_
    refine o_iushr X0 hx hby at_21 22 rfl ?_
    refine o_iconst X0 hx hby at_22 23 rfl (v := (3 : Int32)) rfl ?_
    refine o_irem X0 hx hby at_23 24 rfl (by decide) ?_
    refine o_istore X0 hx hby at_24 26 rfl (l' := #[.val (.int p0), .val (.int p1), .val (.int p2), .val (.long q3), .second, .val (.int v1), .val (.int v2), .val (.int (((p1.toUInt32 >>> ((4 : Int32) &&& 31).toUInt32).toInt32) % (3 : Int32))), .unset, .unset, .unset, .unset, .unset, .unset, .unset, .unset, .unset, .unset, .unset, .unset, .unset]) rfl ?_
    exact k
  obtain ⟨v3, hv3, go9⟩ : ∃ v3 : Int32, v3 = (((p1.toUInt32 >>> ((4 : Int32) &&& 31).toUInt32).toInt32) % (3 : Int32)) ∧ Go p e below A0 (s₁.setTop (mkF m 26 #[.val (.int p0), .val (.int p1), .val (.int p2), .val (.long q3), .second, .val (.int v1), .val (.int v2), .val (.int v3), .unset, .unset, .unset, .unset, .unset, .unset, .unset, .unset, .unset, .unset, .unset, .unset, .unset] [])) := ⟨_, rfl, go8⟩
  have go10 : Go p e below A0 (s₁.setTop (mkF m 28 #[.val (.int p0), .val (.int p1), .val (.int p2), .val (.long q3), .second, .val (.int v1), .val (.int v2), .val (.int v3), .unset, .unset, .unset, .unset, .unset, .unset, .unset, .unset, .unset, .unset, .unset, .unset, .unset] [(.int v3)])) := by
    intro t k
    refine go9 t ?_
    refine o_iload X0 hx hby at_26 28 rfl rfl ?_
    exact k
  by_cases hc28_2 : v3 = (0 : Int32)
  · obtain ⟨T3, X3, e3, st3⟩ := getS2 X0 hx hZ hown (host := "") (Or.inl (hw _ (List.mem_of_getElem? (i := 1) rfl))) Via.refl e0 (r0.ext r4.2) (g := (mkF m 31 #[.val (.int p0), .val (.int p1), .val (.int p2), .val (.long q3), .second, .val (.int v1), .val (.int v2), .val (.int v3), .unset, .unset, .unset, .unset, .unset, .unset, .unset, .unset, .unset, .unset, .unset, .unset, .unset] [])) rfl (hb hby at_31)
    have go11 : Go p e below A0 (T3.setTop (mkF m 70 #[.val (.int p0), .val (.int p1), .val (.int p2), .val (.long q3), .second, .val (.int v1), .val (.int v2), .val (.int v3), .val (.ref uA), .val (.int (0 : Int32)), .unset, .unset, .unset, .unset, .unset, .unset, .unset, .unset, .unset, .unset, .unset] [])) := by
      intro t k
      refine go10 t ?_
      refine o_ifN X0 hx hby at_28 31 rfl (teq hc28_2).2 ?_
      refine st3 _ ?_
      show Steps p.tables e below (T3.setTop (mkF m 34 #[.val (.int p0), .val (.int p1), .val (.int p2), .val (.long q3), .second, .val (.int v1), .val (.int v2), .val (.int v3), .unset, .unset, .unset, .unset, .unset, .unset, .unset, .unset, .unset, .unset, .unset, .unset, .unset] [(.ref uA)])) _
      refine o_astore X3 hx hby at_34 36 rfl rfl (l' := #[.val (.int p0), .val (.int p1), .val (.int p2), .val (.long q3), .second, .val (.int v1), .val (.int v2), .val (.int v3), .val (.ref uA), .unset, .unset, .unset, .unset, .unset, .unset, .unset, .unset, .unset, .unset, .unset, .unset]) rfl ?_
      refine o_goto X3 hx hby at_36 58 rfl ?_
      refine o_iload X3 hx hby at_58 60 rfl rfl ?_
      refine o_ifY X3 hx hby at_60 67 rfl (teq hc28_2).1 ?_
      refine o_iconst X3 hx hby at_67 68 rfl (v := (0 : Int32)) rfl ?_
      refine o_istore X3 hx hby at_68 70 rfl (l' := #[.val (.int p0), .val (.int p1), .val (.int p2), .val (.long q3), .second, .val (.int v1), .val (.int v2), .val (.int v3), .val (.ref uA), .val (.int (0 : Int32)), .unset, .unset, .unset, .unset, .unset, .unset, .unset, .unset, .unset, .unset, .unset]) rfl ?_
      exact k
    have go12 : Go p e below A0 (T3.setTop (mkF m 73 #[.val (.int p0), .val (.int p1), .val (.int p2), .val (.long q3), .second, .val (.int v1), .val (.int v2), .val (.int v3), .val (.ref uA), .val (.int (0 : Int32)), .unset, .unset, .unset, .unset, .unset, .unset, .unset, .unset, .unset, .unset, .unset] [(.int (p1 &&& (2 : Int32)))])) := by
      intro t k
      refine go11 t ?_
      refine o_iloadN X3 hx hby at_70 71 rfl rfl ?_
      refine o_iconst X3 hx hby at_71 72 rfl (v := (2 : Int32)) rfl ?_
      refine o_iand X3 hx hby at_72 73 rfl ?_
      exact k
    have go18 : Go p e below A0 (T3.setTop (mkF m 91 #[.val (.int p0), .val (.int p1), .val (.int p2), .val (.long q3), .second, .val (.int v1), .val (.int v2), .val (.int v3), .val (.ref uA), .val (.int (0 : Int32)), .unset, .unset, .unset, .unset, .unset, .unset, .unset, .unset, .unset, .unset, .unset] [(.int (0 : Int32))])) := by
      by_cases hc73_4 : (p1 &&& (2 : Int32)) = (0 : Int32)
      · have go13 : Go p e below A0 (T3.setTop (mkF m 91 #[.val (.int p0), .val (.int p1), .val (.int p2), .val (.long q3), .second, .val (.int v1), .val (.int v2), .val (.int v3), .val (.ref uA), .val (.int (0 : Int32)), .unset, .unset, .unset, .unset, .unset, .unset, .unset, .unset, .unset, .unset, .unset] [(.int (0 : Int32))])) := by
          intro t k
          refine go12 t ?_
          refine o_ifY X3 hx hby at_73 90 rfl (teq hc73_4).1 ?_
          refine o_iconst X3 hx hby at_90 91 rfl (v := (0 : Int32)) rfl ?_
          exact k
        exact go13
      · have go14 : Go p e below A0 (T3.setTop (mkF m 78 #[.val (.int p0), .val (.int p1), .val (.int p2), .val (.long q3), .second, .val (.int v1), .val (.int v2), .val (.int v3), .val (.ref uA), .val (.int (0 : Int32)), .unset, .unset, .unset, .unset, .unset, .unset, .unset, .unset, .unset, .unset, .unset] [(.int v2)])) := by
          intro t k
          refine go12 t ?_
          refine o_ifN X3 hx hby at_73 76 rfl (feq hc73_4).1 ?_
          refine o_iload X3 hx hby at_76 78 rfl rfl ?_
          exact k
        have go17 : Go p e below A0 (T3.setTop (mkF m 91 #[.val (.int p0), .val (.int p1), .val (.int p2), .val (.long q3), .second, .val (.int v1), .val (.int v2), .val (.int v3), .val (.ref uA), .val (.int (0 : Int32)), .unset, .unset, .unset, .unset, .unset, .unset, .unset, .unset, .unset, .unset, .unset] [(.int (0 : Int32))])) := by
          by_cases hc78_5 : v2 = (0 : Int32)
          · have go15 : Go p e below A0 (T3.setTop (mkF m 91 #[.val (.int p0), .val (.int p1), .val (.int p2), .val (.long q3), .second, .val (.int v1), .val (.int v2), .val (.int v3), .val (.ref uA), .val (.int (0 : Int32)), .unset, .unset, .unset, .unset, .unset, .unset, .unset, .unset, .unset, .unset, .unset] [(.int (0 : Int32))])) := by
              intro t k
              refine go14 t ?_
              refine o_ifN X3 hx hby at_78 81 rfl (teq hc78_5).2 ?_
              refine o_iload X3 hx hby at_81 83 rfl rfl ?_
              refine o_ifY X3 hx hby at_83 90 rfl (teq (show (0 : Int32) = (0 : Int32) by decide)).1 ?_
              refine o_iconst X3 hx hby at_90 91 rfl (v := (0 : Int32)) rfl ?_
              exact k
            exact go15
          · have go16 : Go p e below A0 (T3.setTop (mkF m 91 #[.val (.int p0), .val (.int p1), .val (.int p2), .val (.long q3), .second, .val (.int v1), .val (.int v2), .val (.int v3), .val (.ref uA), .val (.int (0 : Int32)), .unset, .unset, .unset, .unset, .unset, .unset, .unset, .unset, .unset, .unset, .unset] [(.int (0 : Int32))])) := by
              intro t k
              refine go14 t ?_
              refine o_ifY X3 hx hby at_78 90 rfl (feq hc78_5).2 ?_
              refine o_iconst X3 hx hby at_90 91 rfl (v := (0 : Int32)) rfl ?_
              exact k
            exact go16
        exact go17
    have go19 : Go p e below A0 (T3.setTop (mkF m 93 #[.val (.int p0), .val (.int p1), .val (.int p2), .val (.long q3), .second, .val (.int v1), .val (.int v2), .val (.int v3), .val (.ref uA), .val (.int (0 : Int32)), .val (.int (0 : Int32)), .unset, .unset, .unset, .unset, .unset, .unset, .unset, .unset, .unset, .unset] [])) := by
      intro t k
      refine go18 t ?_
      refine o_istore X3 hx hby at_91 93 rfl (l' := #[.val (.int p0), .val (.int p1), .val (.int p2), .val (.long q3), .second, .val (.int v1), .val (.int v2), .val (.int v3), .val (.ref uA), .val (.int (0 : Int32)), .val (.int (0 : Int32)), .unset, .unset, .unset, .unset, .unset, .unset, .unset, .unset, .unset, .unset]) rfl ?_
      exact k
    have go20 : Go p e below A0 (T3.setTop (mkF m 96 #[.val (.int p0), .val (.int p1), .val (.int p2), .val (.long q3), .second, .val (.int v1), .val (.int v2), .val (.int v3), .val (.ref uA), .val (.int (0 : Int32)), .val (.int (0 : Int32)), .unset, .unset, .unset, .unset, .unset, .unset, .unset, .unset, .unset, .unset] [(.int (p1 &&& (4 : Int32)))])) := by
      intro t k
      refine go19 t ?_
      refine o_iloadN X3 hx hby at_93 94 rfl rfl ?_
      refine o_iconst X3 hx hby at_94 95 rfl (v := (4 : Int32)) rfl ?_
      refine o_iand X3 hx hby at_95 96 rfl ?_
      exact k
    obtain ⟨v5, hv5, go26⟩ : ∃ (v5 : Int32), v5 = (if (p1 &&& (4 : Int32)) = (0 : Int32) then (0 : Int32) else (if v2 = (0 : Int32) then (1 : Int32) else (0 : Int32))) ∧ Go p e below A0 (T3.setTop (mkF m 114 #[.val (.int p0), .val (.int p1), .val (.int p2), .val (.long q3), .second, .val (.int v1), .val (.int v2), .val (.int v3), .val (.ref uA), .val (.int (0 : Int32)), .val (.int (0 : Int32)), .unset, .unset, .unset, .unset, .unset, .unset, .unset, .unset, .unset, .unset] [(.int v5)])) := by
      by_cases hc96_6 : (p1 &&& (4 : Int32)) = (0 : Int32)
      · have go21 : Go p e below A0 (T3.setTop (mkF m 114 #[.val (.int p0), .val (.int p1), .val (.int p2), .val (.long q3), .second, .val (.int v1), .val (.int v2), .val (.int v3), .val (.ref uA), .val (.int (0 : Int32)), .val (.int (0 : Int32)), .unset, .unset, .unset, .unset, .unset, .unset, .unset, .unset, .unset, .unset] [(.int (0 : Int32))])) := by
          intro t k
          refine go20 t ?_
          refine o_ifY X3 hx hby at_96 113 rfl (teq hc96_6).1 ?_
          refine o_iconst X3 hx hby at_113 114 rfl (v := (0 : Int32)) rfl ?_
          exact k
        exact ⟨(0 : Int32), (if_pos hc96_6).symm, go21⟩
      · have go22 : Go p e below A0 (T3.setTop (mkF m 101 #[.val (.int p0), .val (.int p1), .val (.int p2), .val (.long q3), .second, .val (.int v1), .val (.int v2), .val (.int v3), .val (.ref uA), .val (.int (0 : Int32)), .val (.int (0 : Int32)), .unset, .unset, .unset, .unset, .unset, .unset, .unset, .unset, .unset, .unset] [(.int v2)])) := by
          intro t k
          refine go20 t ?_
          refine o_ifN X3 hx hby at_96 99 rfl (feq hc96_6).1 ?_
          refine o_iload X3 hx hby at_99 101 rfl rfl ?_
          exact k
        obtain ⟨v4, hv4, go25⟩ : ∃ (v4 : Int32), v4 = (if v2 = (0 : Int32) then (1 : Int32) else (0 : Int32)) ∧ Go p e below A0 (T3.setTop (mkF m 114 #[.val (.int p0), .val (.int p1), .val (.int p2), .val (.long q3), .second, .val (.int v1), .val (.int v2), .val (.int v3), .val (.ref uA), .val (.int (0 : Int32)), .val (.int (0 : Int32)), .unset, .unset, .unset, .unset, .unset, .unset, .unset, .unset, .unset, .unset] [(.int v4)])) := by
          by_cases hc101_7 : v2 = (0 : Int32)
          · have go23 : Go p e below A0 (T3.setTop (mkF m 114 #[.val (.int p0), .val (.int p1), .val (.int p2), .val (.long q3), .second, .val (.int v1), .val (.int v2), .val (.int v3), .val (.ref uA), .val (.int (0 : Int32)), .val (.int (0 : Int32)), .unset, .unset, .unset, .unset, .unset, .unset, .unset, .unset, .unset, .unset] [(.int (1 : Int32))])) := by
              intro t k
              refine go22 t ?_
              refine o_ifN X3 hx hby at_101 104 rfl (teq hc101_7).2 ?_
              refine o_iload X3 hx hby at_104 106 rfl rfl ?_
              refine o_ifN X3 hx hby at_106 109 rfl (teq (show (0 : Int32) = (0 : Int32) by decide)).2 ?_
              refine o_iconst X3 hx hby at_109 110 rfl (v := (1 : Int32)) rfl ?_
              refine o_goto X3 hx hby at_110 114 rfl ?_
              exact k
            exact ⟨(1 : Int32), (if_pos hc101_7).symm, go23⟩
          · have go24 : Go p e below A0 (T3.setTop (mkF m 114 #[.val (.int p0), .val (.int p1), .val (.int p2), .val (.long q3), .second, .val (.int v1), .val (.int v2), .val (.int v3), .val (.ref uA), .val (.int (0 : Int32)), .val (.int (0 : Int32)), .unset, .unset, .unset, .unset, .unset, .unset, .unset, .unset, .unset, .unset] [(.int (0 : Int32))])) := by
              intro t k
              refine go22 t ?_
              refine o_ifY X3 hx hby at_101 113 rfl (feq hc101_7).2 ?_
              refine o_iconst X3 hx hby at_113 114 rfl (v := (0 : Int32)) rfl ?_
              exact k
            exact ⟨(0 : Int32), (if_neg hc101_7).symm, go24⟩
        subst hv4
        exact ⟨(if v2 = (0 : Int32) then (1 : Int32) else (0 : Int32)), (if_neg hc96_6).symm, go25⟩
    have go27 : Go p e below A0 (T3.setTop (mkF m 116 #[.val (.int p0), .val (.int p1), .val (.int p2), .val (.long q3), .second, .val (.int v1), .val (.int v2), .val (.int v3), .val (.ref uA), .val (.int (0 : Int32)), .val (.int (0 : Int32)), .val (.int v5), .unset, .unset, .unset, .unset, .unset, .unset, .unset, .unset, .unset] [])) := by
      intro t k
      refine go26 t ?_
      refine o_istore X3 hx hby at_114 116 rfl (l' := #[.val (.int p0), .val (.int p1), .val (.int p2), .val (.long q3), .second, .val (.int v1), .val (.int v2), .val (.int v3), .val (.ref uA), .val (.int (0 : Int32)), .val (.int (0 : Int32)), .val (.int v5), .unset, .unset, .unset, .unset, .unset, .unset, .unset, .unset, .unset]) rfl ?_
      exact k
    have go28 : Go p e below A0 (T3.setTop (mkF m 120 #[.val (.int p0), .val (.int p1), .val (.int p2), .val (.long q3), .second, .val (.int v1), .val (.int v2), .val (.int v3), .val (.ref uA), .val (.int (0 : Int32)), .val (.int (0 : Int32)), .val (.int v5), .unset, .unset, .unset, .unset, .unset, .unset, .unset, .unset, .unset] [(.int (p1 &&& (8 : Int32)))])) := by
      intro t k
      refine go27 t ?_
      refine o_iloadN X3 hx hby at_116 117 rfl rfl ?_
      refine o_bipush X3 hx hby at_117 119 rfl (v := (8 : Int32)) rfl ?_
      refine o_iand X3 hx hby at_119 120 rfl ?_
      exact k
    have go34 : Go p e below A0 (T3.setTop (mkF m 139 #[.val (.int p0), .val (.int p1), .val (.int p2), .val (.long q3), .second, .val (.int v1), .val (.int v2), .val (.int v3), .val (.ref uA), .val (.int (0 : Int32)), .val (.int (0 : Int32)), .val (.int v5), .unset, .unset, .unset, .unset, .unset, .unset, .unset, .unset, .unset] [(.int (0 : Int32))])) := by
      by_cases hc120_8 : (p1 &&& (8 : Int32)) = (0 : Int32)
      · have go29 : Go p e below A0 (T3.setTop (mkF m 139 #[.val (.int p0), .val (.int p1), .val (.int p2), .val (.long q3), .second, .val (.int v1), .val (.int v2), .val (.int v3), .val (.ref uA), .val (.int (0 : Int32)), .val (.int (0 : Int32)), .val (.int v5), .unset, .unset, .unset, .unset, .unset, .unset, .unset, .unset, .unset] [(.int (0 : Int32))])) := by
          intro t k
          refine go28 t ?_
          refine o_ifY X3 hx hby at_120 138 rfl (teq hc120_8).1 ?_
          refine o_iconst X3 hx hby at_138 139 rfl (v := (0 : Int32)) rfl ?_
          exact k
        exact go29
      · have go30 : Go p e below A0 (T3.setTop (mkF m 125 #[.val (.int p0), .val (.int p1), .val (.int p2), .val (.long q3), .second, .val (.int v1), .val (.int v2), .val (.int v3), .val (.ref uA), .val (.int (0 : Int32)), .val (.int (0 : Int32)), .val (.int v5), .unset, .unset, .unset, .unset, .unset, .unset, .unset, .unset, .unset] [(.int v2)])) := by
          intro t k
          refine go28 t ?_
          refine o_ifN X3 hx hby at_120 123 rfl (feq hc120_8).1 ?_
          refine o_iload X3 hx hby at_123 125 rfl rfl ?_
          exact k
        have go33 : Go p e below A0 (T3.setTop (mkF m 139 #[.val (.int p0), .val (.int p1), .val (.int p2), .val (.long q3), .second, .val (.int v1), .val (.int v2), .val (.int v3), .val (.ref uA), .val (.int (0 : Int32)), .val (.int (0 : Int32)), .val (.int v5), .unset, .unset, .unset, .unset, .unset, .unset, .unset, .unset, .unset] [(.int (0 : Int32))])) := by
          by_cases hc125_9 : v2 = (0 : Int32)
          · have go31 : Go p e below A0 (T3.setTop (mkF m 139 #[.val (.int p0), .val (.int p1), .val (.int p2), .val (.long q3), .second, .val (.int v1), .val (.int v2), .val (.int v3), .val (.ref uA), .val (.int (0 : Int32)), .val (.int (0 : Int32)), .val (.int v5), .unset, .unset, .unset, .unset, .unset, .unset, .unset, .unset, .unset] [(.int (0 : Int32))])) := by
              intro t k
              refine go30 t ?_
              refine o_ifY X3 hx hby at_125 138 rfl (teq hc125_9).1 ?_
              refine o_iconst X3 hx hby at_138 139 rfl (v := (0 : Int32)) rfl ?_
              exact k
            exact go31
          · have go32 : Go p e below A0 (T3.setTop (mkF m 139 #[.val (.int p0), .val (.int p1), .val (.int p2), .val (.long q3), .second, .val (.int v1), .val (.int v2), .val (.int v3), .val (.ref uA), .val (.int (0 : Int32)), .val (.int (0 : Int32)), .val (.int v5), .unset, .unset, .unset, .unset, .unset, .unset, .unset, .unset, .unset] [(.int (0 : Int32))])) := by
              intro t k
              refine go30 t ?_
              refine o_ifN X3 hx hby at_125 128 rfl (feq hc125_9).1 ?_
              refine o_iload X3 hx hby at_128 130 rfl rfl ?_
              refine o_iconst X3 hx hby at_130 131 rfl (v := (2 : Int32)) rfl ?_
              refine o_icmpY X3 hx hby at_131 138 rfl (feq (by rw [hc28_2]; decide)).2 ?_
              refine o_iconst X3 hx hby at_138 139 rfl (v := (0 : Int32)) rfl ?_
              exact k
            exact go32
        exact go33
    have go35 : Go p e below A0 (T3.setTop (mkF m 141 #[.val (.int p0), .val (.int p1), .val (.int p2), .val (.long q3), .second, .val (.int v1), .val (.int v2), .val (.int v3), .val (.ref uA), .val (.int (0 : Int32)), .val (.int (0 : Int32)), .val (.int v5), .val (.int (0 : Int32)), .unset, .unset, .unset, .unset, .unset, .unset, .unset, .unset] [])) := by
      intro t k
      refine go34 t ?_
      refine o_istore X3 hx hby at_139 141 rfl (l' := #[.val (.int p0), .val (.int p1), .val (.int p2), .val (.long q3), .second, .val (.int v1), .val (.int v2), .val (.int v3), .val (.ref uA), .val (.int (0 : Int32)), .val (.int (0 : Int32)), .val (.int v5), .val (.int (0 : Int32)), .unset, .unset, .unset, .unset, .unset, .unset, .unset, .unset]) rfl ?_
      exact k
    have go36 : Go p e below A0 (T3.setTop (mkF m 186 #[.val (.int p0), .val (.int p1), .val (.int p2), .val (.long q3), .second, .val (.int v1), .val (.int v2), .val (.int v3), .val (.ref uA), .val (.int (0 : Int32)), .val (.int (0 : Int32)), .val (.int v5), .val (.int (0 : Int32)), .val .null, .val .null, .unset, .unset, .unset, .unset, .unset, .unset] [(.int v5)])) := by
      intro t k
      refine go35 t ?_
      refine o_iload X3 hx hby at_141 143 rfl rfl ?_
      refine o_ifY X3 hx hby at_143 158 rfl (teq (show (0 : Int32) = (0 : Int32) by decide)).1 ?_
      refine o_aconstNull X3 hx hby at_158 159 rfl ?_
      refine o_astore X3 hx hby at_159 161 rfl rfl (l' := #[.val (.int p0), .val (.int p1), .val (.int p2), .val (.long q3), .second, .val (.int v1), .val (.int v2), .val (.int v3), .val (.ref uA), .val (.int (0 : Int32)), .val (.int (0 : Int32)), .val (.int v5), .val (.int (0 : Int32)), .val .null, .unset, .unset, .unset, .unset, .unset, .unset, .unset]) rfl ?_
      refine o_iload X3 hx hby at_161 163 rfl rfl ?_
      refine o_ifY X3 hx hby at_163 181 rfl (teq (show (0 : Int32) = (0 : Int32) by decide)).1 ?_
      refine o_aconstNull X3 hx hby at_181 182 rfl ?_
      refine o_astore X3 hx hby at_182 184 rfl rfl (l' := #[.val (.int p0), .val (.int p1), .val (.int p2), .val (.long q3), .second, .val (.int v1), .val (.int v2), .val (.int v3), .val (.ref uA), .val (.int (0 : Int32)), .val (.int (0 : Int32)), .val (.int v5), .val (.int (0 : Int32)), .val .null, .val .null, .unset, .unset, .unset, .unset, .unset, .unset]) rfl ?_
      refine o_iload X3 hx hby at_184 186 rfl rfl ?_
      exact k
    by_cases hc186_10 : v5 = (0 : Int32)
    · have go37 : Go p e below A0 (T3.setTop (mkF m 223 #[.val (.int p0), .val (.int p1), .val (.int p2), .val (.long q3), .second, .val (.int v1), .val (.int v2), .val (.int v3), .val (.ref uA), .val (.int (0 : Int32)), .val (.int (0 : Int32)), .val (.int v5), .val (.int (0 : Int32)), .val .null, .val .null, .val .null, .val (.long (0 : Int64)), .second, .unset, .unset, .unset] [])) := by
        intro t k
        refine go36 t ?_
        refine o_ifY X3 hx hby at_186 204 rfl (teq hc186_10).1 ?_
        refine o_aconstNull X3 hx hby at_204 205 rfl ?_
        refine o_astore X3 hx hby at_205 207 rfl rfl (l' := #[.val (.int p0), .val (.int p1), .val (.int p2), .val (.long q3), .second, .val (.int v1), .val (.int v2), .val (.int v3), .val (.ref uA), .val (.int (0 : Int32)), .val (.int (0 : Int32)), .val (.int v5), .val (.int (0 : Int32)), .val .null, .val .null, .val .null, .unset, .unset, .unset, .unset, .unset]) rfl ?_
        refine o_iload X3 hx hby at_207 209 rfl rfl ?_
        refine o_ifY X3 hx hby at_209 220 rfl (teq hc186_10).1 ?_
        refine o_lconst X3 hx hby at_220 221 rfl (v := (0 : Int64)) rfl ?_
        refine o_lstore X3 hx hby at_221 223 rfl (l' := #[.val (.int p0), .val (.int p1), .val (.int p2), .val (.long q3), .second, .val (.int v1), .val (.int v2), .val (.int v3), .val (.ref uA), .val (.int (0 : Int32)), .val (.int (0 : Int32)), .val (.int v5), .val (.int (0 : Int32)), .val .null, .val .null, .val .null, .val (.long (0 : Int64)), .second, .unset, .unset, .unset]) rfl ?_
        exact k
      obtain ⟨T11, h11, X11, e11, E11, A11, D11, -, st11⟩ := newO X3 hx hZ hown (hw _ (List.mem_of_getElem? (i := 4) rfl)) (hw _ (List.mem_of_getElem? (i := 5) rfl)) (hw _ (List.mem_of_getElem? (i := 6) rfl)) e3 (g := (mkF m 268 #[.val (.int p0), .val (.int p1), .val (.int p2), .val (.long q3), .second, .val (.int v1), .val (.int v2), .val (.int v3), .val (.ref uA), .val (.int (0 : Int32)), .val (.int (0 : Int32)), .val (.int v5), .val (.int (0 : Int32)), .val .null, .val .null, .val .null, .val (.long (0 : Int64)), .second, .val .null, .val .null, .unset] [])) rfl (hb hby at_268) (by decide) (by decide)
      obtain ⟨b11, g11⟩ : ∃ z, z = h0.size := ⟨_, rfl⟩
      rw [← g11] at A11 D11 st11
      have g_b11 : n0 ≤ b11 := Nat.le_trans Z0 (Nat.le_of_eq g11.symm)
      have f1 : Old Z n0 h11 := r4.ext E11
      have Zp11 : n0 ≤ h11.size := Nat.le_trans Z0 E11.1
      have f2 : Exa Z h11 b11 "org/shardwright/model/ShardCopy" := A11
      have f3 : Fld Z h11 b11 "org/shardwright/model/ShardCopy" "shard" "I" (.int (0 : Int32)) := D11 (Or.inr (hw _ (List.mem_of_getElem? (i := 32) rfl))) (ty := .int) (by decide)
      have f4 : Fld Z h11 b11 "org/shardwright/model/ShardCopy" "primary" "Z" (.int (0 : Int32)) := D11 (Or.inr (hw _ (List.mem_of_getElem? (i := 34) rfl))) (ty := .boolean) (by decide)
      have f5 : Fld Z h11 b11 "org/shardwright/model/ShardCopy" "state" "Lorg/shardwright/model/ShardCopy$State;" .null := D11 (Or.inr (hw _ (List.mem_of_getElem? (i := 36) rfl))) (ty := (.object "org/shardwright/model/ShardCopy$State")) (by decide)
      have f6 : Fld Z h11 b11 "org/shardwright/model/ShardCopy" "nodeId" "Ljava/lang/String;" .null := D11 (Or.inr (hw _ (List.mem_of_getElem? (i := 38) rfl))) (ty := (.object "java/lang/String")) (by decide)
      have f7 : Fld Z h11 b11 "org/shardwright/model/ShardCopy" "allocationId" "Ljava/lang/String;" .null := D11 (Or.inr (hw _ (List.mem_of_getElem? (i := 40) rfl))) (ty := (.object "java/lang/String")) (by decide)
      have f8 : Fld Z h11 b11 "org/shardwright/model/ShardCopy" "lastNodeId" "Ljava/lang/String;" .null := D11 (Or.inr (hw _ (List.mem_of_getElem? (i := 42) rfl))) (ty := (.object "java/lang/String")) (by decide)
      have f9 : Fld Z h11 b11 "org/shardwright/model/ShardCopy" "unassignedAtMillis" "J" (.long (0 : Int64)) := D11 (Or.inr (hw _ (List.mem_of_getElem? (i := 44) rfl))) (ty := .long) (by decide)
      have f10 : Fld Z h11 b11 "org/shardwright/model/ShardCopy" "replaces" "Ljava/lang/String;" .null := D11 (Or.inr (hw _ (List.mem_of_getElem? (i := 46) rfl))) (ty := (.object "java/lang/String")) (by decide)
      have f11 : Fld Z h11 b11 "org/shardwright/model/ShardCopy" "handsOverTo" "Ljava/lang/String;" .null := D11 (Or.inr (hw _ (List.mem_of_getElem? (i := 48) rfl))) (ty := (.object "java/lang/String")) (by decide)
      have go38 : Go p e below A0 (T11.setTop (mkF m 290 #[.val (.int p0), .val (.int p1), .val (.int p2), .val (.long q3), .second, .val (.int v1), .val (.int v2), .val (.int v3), .val (.ref uA), .val (.int (0 : Int32)), .val (.int (0 : Int32)), .val (.int v5), .val (.int (0 : Int32)), .val .null, .val .null, .val .null, .val (.long (0 : Int64)), .second, .val .null, .val .null, .unset] [.null, .null, (.long (0 : Int64)), .null, .null, .null, (.ref uA), (.int v2), (.int v1), (.ref b11), (.ref b11)])) := by
        intro t k
        refine go37 t ?_
        refine o_iload X3 hx hby at_223 225 rfl rfl ?_
        refine o_ifY X3 hx hby at_225 243 rfl (teq (show (0 : Int32) = (0 : Int32) by decide)).1 ?_
        refine o_aconstNull X3 hx hby at_243 244 rfl ?_
        refine o_astore X3 hx hby at_244 246 rfl rfl (l' := #[.val (.int p0), .val (.int p1), .val (.int p2), .val (.long q3), .second, .val (.int v1), .val (.int v2), .val (.int v3), .val (.ref uA), .val (.int (0 : Int32)), .val (.int (0 : Int32)), .val (.int v5), .val (.int (0 : Int32)), .val .null, .val .null, .val .null, .val (.long (0 : Int64)), .second, .val .null, .unset, .unset]) rfl ?_
        refine o_iload X3 hx hby at_246 248 rfl rfl ?_
        refine o_ifY X3 hx hby at_248 265 rfl (teq (show (0 : Int32) = (0 : Int32) by decide)).1 ?_
        refine o_aconstNull X3 hx hby at_265 266 rfl ?_
        refine o_astore X3 hx hby at_266 268 rfl rfl (l' := #[.val (.int p0), .val (.int p1), .val (.int p2), .val (.long q3), .second, .val (.int v1), .val (.int v2), .val (.int v3), .val (.ref uA), .val (.int (0 : Int32)), .val (.int (0 : Int32)), .val (.int v5), .val (.int (0 : Int32)), .val .null, .val .null, .val .null, .val (.long (0 : Int64)), .second, .val .null, .val .null, .unset]) rfl ?_
        refine st11 _ ?_
        show Steps p.tables e below (T11.setTop (mkF m 271 #[.val (.int p0), .val (.int p1), .val (.int p2), .val (.long q3), .second, .val (.int v1), .val (.int v2), .val (.int v3), .val (.ref uA), .val (.int (0 : Int32)), .val (.int (0 : Int32)), .val (.int v5), .val (.int (0 : Int32)), .val .null, .val .null, .val .null, .val (.long (0 : Int64)), .second, .val .null, .val .null, .unset] [(.ref b11)])) _
        refine o_dup X11 hx hby at_271 272 rfl rfl ?_
        refine o_iload X11 hx hby at_272 274 rfl rfl ?_
        refine o_iload X11 hx hby at_274 276 rfl rfl ?_
        refine o_aload X11 hx hby at_276 278 rfl rfl rfl ?_
        refine o_aload X11 hx hby at_278 280 rfl rfl rfl ?_
        refine o_aload X11 hx hby at_280 282 rfl rfl rfl ?_
        refine o_aload X11 hx hby at_282 284 rfl rfl rfl ?_
        refine o_lload X11 hx hby at_284 286 rfl rfl ?_
        refine o_aload X11 hx hby at_286 288 rfl rfl rfl ?_
        refine o_aload X11 hx hby at_288 290 rfl rfl rfl ?_
        exact k
      have f_nn_1 : ¬ v1 < 0 := pf0_nn_0 p0 p1 p2 q3 uA uS uI cs v1 v2 v3 v5 hv1 hv2 hv3 hv5 hc28_2 hc186_10
      obtain ⟨_, _, ⟨T12, L12, k12, n12⟩, -, X12, S12, gr12, ⟨Lc12, hQ12, l12, y12, z12⟩, st12⟩ := X11.specialBackS hx (y := (⟨"org/shardwright/model/ShardCopy", "<init>", "(IZLorg/shardwright/model/ShardCopy$State;Ljava/lang/String;Ljava/lang/String;Ljava/lang/String;JLjava/lang/String;Ljava/lang/String;)V"⟩ : MethodName)) rfl hown (mvT hZ (hw _ (List.mem_of_getElem? (i := 7) rfl))) (mvT hZ (hw _ (List.mem_of_getElem? (i := 8) rfl))) (mvT hZ (hw _ (List.mem_of_getElem? (i := 9) rfl))) (by decide) (backOfS (W := 1) (rm1A l Z aw hw [] b11 v1 v2 uA h11 n0 Zp11 (f2) (g_b11) (f3) (f4) (f5) (f6) (f7) (f8) (f9) (f10) (f11) (r0) (f1) ((by rw [hv2]; repeat' (first | exact Or.inl rfl | exact Or.inr rfl | split))) (f_nn_1)) hZ (hw _ (List.mem_of_getElem? (i := 9) rfl)) (hw _ (List.mem_of_getElem? (i := 6) rfl)) (by decide) (by decide)) (g := (mkF m 290 #[.val (.int p0), .val (.int p1), .val (.int p2), .val (.long q3), .second, .val (.int v1), .val (.int v2), .val (.int v3), .val (.ref uA), .val (.int (0 : Int32)), .val (.int (0 : Int32)), .val (.int v5), .val (.int (0 : Int32)), .val .null, .val .null, .val .null, .val (.long (0 : Int64)), .second, .val .null, .val .null, .unset] [.null, .null, (.long (0 : Int64)), .null, .null, .null, (.ref uA), (.int v2), (.int v1), (.ref b11), (.ref b11)])) rfl (by rw [hml]; rfl) (Steps.refl _) (a := b11) (argsL := [(.int v1), (.int v2), (.ref uA), .null, .null, .null, (.long (0 : Int64)), .null, .null]) (rest := [(.ref b11)]) (lenOf pd_11 rfl) rfl (by show 2 * 0 + _ ≤ _; exact Nat.le_of_eq rfl) (hb hby at_290) (fun _ _ => ⟨rfl, e11, (by decide : 1 + 2 ≤ _), (by decide : 9 + 24 ≤ _)⟩)
      dsimp only [Pt.U, Pt.locs, Pt.cells, Pt.slots] at X12 l12 y12 z12 st12 hQ12 S12 gr12
      subst l12 y12 z12
      have hZ12q := State.Warmed39.trans hZ S12.1
      have hown12q : (s.setVm T12.vm).vm.findClass "org/shardwright/model/ShardCopyMovedInPinLaw" = some m.cls := by rw [show (s.setVm T12.vm).vm = T12.vm from rfl, S12.1.alike.findClass]; exact hown
      clear hZ hown
      obtain ⟨hZ, hown⟩ := And.intro hZ12q hown12q
      obtain ⟨rfl, N12q, K12q, qf12_0, -⟩ := hQ12
      have f12 : Old Z n0 T12.heap := f1.keep K12q (allS g_b11 all0)
      have f13 : Exa Z T12.heap b11 "org/shardwright/model/ShardCopy" := f2.keep K12q
      have Zp12 : n0 ≤ T12.heap.size := Nat.le_trans Zp11 K12q.1
      have f14 : Fld Z T12.heap b11 "org/shardwright/model/ShardCopy" "replaces" "Ljava/lang/String;" .null := qf12_0
      have N12 := Fr.app N0 N12q
      obtain ⟨cq13, kq13, q13a, q13b, q13c⟩ := isOf hZ rfl f13
      obtain ⟨_, _, ⟨T13, L13, k13, n13⟩, -, X13, ⟨Lc13, hQ13, l13, y13, z13⟩, st13⟩ := X12.virtualBack hx (y := (⟨"org/shardwright/model/ShardCopy", "movedIn", "()Z"⟩ : MethodName)) (z := (⟨"org/shardwright/model/ShardCopy", "movedIn", "()Z"⟩ : MethodName)) hown (mvT hZ (hw _ (List.mem_of_getElem? (i := 49) rfl))) (mvT hZ (hw _ (List.mem_of_getElem? (i := 50) rfl))) (notFace_of_selects (args := #[]) (mvT hZ (hw _ (List.mem_of_getElem? (i := 52) rfl)))) (mvT hZ (hw _ (List.mem_of_getElem? (i := 52) rfl))) (mvT hZ (hw _ (List.mem_of_getElem? (i := 51) rfl))) (by decide) (backOf (W := 0) (rm5n l Z aw hw [] b11 T12.heap n0 Zp12 (f14)) hZ (hw _ (List.mem_of_getElem? (i := 53) rfl)) (hw _ (List.mem_of_getElem? (i := 6) rfl)) (by decide) (by decide)) q13a q13c (g := (mkF m 297 #[.val (.int p0), .val (.int p1), .val (.int p2), .val (.long q3), .second, .val (.int v1), .val (.int v2), .val (.int v3), .val (.ref uA), .val (.int (0 : Int32)), .val (.int (0 : Int32)), .val (.int v5), .val (.int (0 : Int32)), .val .null, .val .null, .val .null, .val (.long (0 : Int64)), .second, .val .null, .val .null, .val (.ref b11)] [(.ref b11)])) rfl (by rw [hml]; rfl) (Steps.refl _) (argsL := []) (rest := []) (lenOf pd_12 rfl) rfl (by show 2 * 0 + _ ≤ _; exact Nat.le_of_eq rfl) (hb hby at_297) (fun _ _ => ⟨rfl, rfl, (by decide : 3 + 0 ≤ _), (by decide : 33 + 0 ≤ _)⟩)
      dsimp only [Pt.U, Pt.locs, Pt.cells, Pt.slots] at X13 l13 y13 z13 st13 hQ13
      subst l13 y13 z13
      obtain ⟨rfl, N13q, e13⟩ := hQ13
      have N13 := Fr.app N12 N13q
      have go39 : Go p e below A0 (T13.setTop (mkF m 300 #[.val (.int p0), .val (.int p1), .val (.int p2), .val (.long q3), .second, .val (.int v1), .val (.int v2), .val (.int v3), .val (.ref uA), .val (.int (0 : Int32)), .val (.int (0 : Int32)), .val (.int v5), .val (.int (0 : Int32)), .val .null, .val .null, .val .null, .val (.long (0 : Int64)), .second, .val .null, .val .null, .val (.ref b11)] [(.int (0 : Int32))])) := by
        intro t k
        refine go38 t ?_
        refine st12.trans ?_
        show Steps p.tables e below (T12.setTop (mkF m 293 #[.val (.int p0), .val (.int p1), .val (.int p2), .val (.long q3), .second, .val (.int v1), .val (.int v2), .val (.int v3), .val (.ref uA), .val (.int (0 : Int32)), .val (.int (0 : Int32)), .val (.int v5), .val (.int (0 : Int32)), .val .null, .val .null, .val .null, .val (.long (0 : Int64)), .second, .val .null, .val .null, .unset] [(.ref b11)])) _
        refine o_astore X12 hx hby at_293 295 rfl rfl (l' := #[.val (.int p0), .val (.int p1), .val (.int p2), .val (.long q3), .second, .val (.int v1), .val (.int v2), .val (.int v3), .val (.ref uA), .val (.int (0 : Int32)), .val (.int (0 : Int32)), .val (.int v5), .val (.int (0 : Int32)), .val .null, .val .null, .val .null, .val (.long (0 : Int64)), .second, .val .null, .val .null, .val (.ref b11)]) rfl ?_
        refine o_aload X12 hx hby at_295 297 rfl rfl rfl ?_
        refine st13.trans ?_
        show Steps p.tables e below (T13.setTop (mkF m 300 #[.val (.int p0), .val (.int p1), .val (.int p2), .val (.long q3), .second, .val (.int v1), .val (.int v2), .val (.int v3), .val (.ref uA), .val (.int (0 : Int32)), .val (.int (0 : Int32)), .val (.int v5), .val (.int (0 : Int32)), .val .null, .val .null, .val .null, .val (.long (0 : Int64)), .second, .val .null, .val .null, .val (.ref b11)] [(.int (0 : Int32))])) _
        exact k
      have go40 : Go p e below A0 (T13.setTop (mkF m 310 #[.val (.int p0), .val (.int p1), .val (.int p2), .val (.long q3), .second, .val (.int v1), .val (.int v2), .val (.int v3), .val (.ref uA), .val (.int (0 : Int32)), .val (.int (0 : Int32)), .val (.int v5), .val (.int (0 : Int32)), .val .null, .val .null, .val .null, .val (.long (0 : Int64)), .second, .val .null, .val .null, .val (.ref b11)] [(.int (1 : Int32))])) := by
        intro t k
        refine go39 t ?_
        refine o_iload X13 hx hby at_300 302 rfl rfl ?_
        refine o_icmpN X13 hx hby at_302 305 rfl (teq (show (0 : Int32) = (0 : Int32) by decide)).2 ?_
        refine o_iconst X13 hx hby at_305 306 rfl (v := (1 : Int32)) rfl ?_
        refine o_goto X13 hx hby at_306 310 rfl ?_
        exact k
      subst hA0
      obtain ⟨fs, hr, hrun, hended, hRW⟩ := X13.leaveW (s := s) S12 (by rw [e13]; exact (Nat.le_refl _)) (v := some (.int (1 : Int32))) (fun h => by rw [Bd.returns] at h; cases h)
      refine ⟨_, _, go40 _ (o_retZ X13 hx Bd.returns (hb hby at_310) (Or.inr rfl) hr), hrun, hended, _, _, rfl, ?_, hRW.1, hRW.2.1, hRW.2.2.1, hRW.2.2.2.mono (by decide) (by decide)⟩
      show Q0 Z p0 p1 p2 q3 uA uS uI cs h0 n0 _ T13.heap _
      rw [e13]
      exact ⟨rfl, N13⟩
    · have go41 : Go p e below A0 (T3.setTop (mkF m 198 #[.val (.int p0), .val (.int p1), .val (.int p2), .val (.long q3), .second, .val (.int v1), .val (.int v2), .val (.int v3), .val (.ref uA), .val (.int (0 : Int32)), .val (.int (0 : Int32)), .val (.int v5), .val (.int (0 : Int32)), .val .null, .val .null, .unset, .unset, .unset, .unset, .unset, .unset] [(.int ((((p2.toUInt32 >>> ((16 : Int32) &&& 31).toUInt32).toInt32) &&& (255 : Int32)).toUInt32.toUInt16.toUInt32.toInt32))])) := by
        intro t k
        refine go36 t ?_
        refine o_ifN X3 hx hby at_186 189 rfl (feq hc186_10).1 ?_
        refine o_iloadN X3 hx hby at_189 190 rfl rfl ?_
        refine o_bipush X3 hx hby at_190 192 rfl (v := (16 : Int32)) rfl ?_
        refine o_iushr X3 hx hby at_192 193 rfl ?_
        refine o_sipush X3 hx hby at_193 196 rfl (v := (255 : Int32)) rfl ?_
        refine o_iand X3 hx hby at_196 197 rfl ?_
        refine o_i2c X3 hx hby at_197 198 rfl ?_
        exact k
      obtain ⟨v6, hv6, go42⟩ : ∃ v6 : Int32, v6 = ((((p2.toUInt32 >>> ((16 : Int32) &&& 31).toUInt32).toInt32) &&& (255 : Int32)).toUInt32.toUInt16.toUInt32.toInt32) ∧ Go p e below A0 (T3.setTop (mkF m 198 #[.val (.int p0), .val (.int p1), .val (.int p2), .val (.long q3), .second, .val (.int v1), .val (.int v2), .val (.int v3), .val (.ref uA), .val (.int (0 : Int32)), .val (.int (0 : Int32)), .val (.int v5), .val (.int (0 : Int32)), .val .null, .val .null, .unset, .unset, .unset, .unset, .unset, .unset] [(.int v6)])) := ⟨_, rfl, go41⟩
      have f_c255_2 : ¬ (255 : Int32) < v6 := pf0_c255_1 p0 p1 p2 q3 uA uS uI cs v1 v2 v3 v5 v6 hv1 hv2 hv3 hv5 hv6 hc28_2 hc186_10
      obtain ⟨_, _, ⟨T14, L14, k14, n14⟩, -, X14, ⟨Lc14, hQ14, l14, y14, z14⟩, st14⟩ := Jvm.LawKit.callS X3 hx (y := (⟨"java/lang/String", "valueOf", "(C)Ljava/lang/String;"⟩ : MethodName)) hown (mvT hZ (hw _ (List.mem_of_getElem? (i := 56) rfl))) (mvT hZ (hw _ (List.mem_of_getElem? (i := 57) rfl))) (mvT hZ (hw _ (List.mem_of_getElem? (i := 19) rfl))) (mvT hZ (hw _ (List.mem_of_getElem? (i := 58) rfl))) (by decide) (backOf (W := 0) (rm6 l Z aw hw [] v6 cs h0 n0 Z0 (r3) (r4) (hcs) (f_c255_2)) hZ (hw _ (List.mem_of_getElem? (i := 58) rfl)) (hw _ (List.mem_of_getElem? (i := 19) rfl)) (by decide) (by decide)) (g := (mkF m 198 #[.val (.int p0), .val (.int p1), .val (.int p2), .val (.long q3), .second, .val (.int v1), .val (.int v2), .val (.int v3), .val (.ref uA), .val (.int (0 : Int32)), .val (.int (0 : Int32)), .val (.int v5), .val (.int (0 : Int32)), .val .null, .val .null, .unset, .unset, .unset, .unset, .unset, .unset] [(.int v6)])) rfl (by rw [hml]; rfl) (argsL := [(.int v6)]) (rest := []) (lenOf pd_13 rfl) rfl (by show 2 * 0 + _ ≤ _; exact Nat.le_of_eq rfl) (hb hby at_198) (fun _ _ => ⟨rfl, e3, (by decide : 0 + 2 ≤ _), (by decide : 0 + 5 ≤ _)⟩)
      dsimp only [Pt.U, Pt.locs, Pt.cells, Pt.slots] at X14 l14 y14 z14 st14 hQ14
      subst l14 y14 z14
      obtain ⟨b14_b, rfl, N14q, K14q, sz_b14_bq, -⟩ := hQ14
      have g_b14_b : n0 ≤ b14_b := Nat.le_trans Z0 sz_b14_bq
      have f15 : Old Z n0 T14.heap := r4.keep K14q all0
      have Zp14 : n0 ≤ T14.heap.size := Nat.le_trans Z0 K14q.1
      have N14 := Fr.app N0 N14q
      have go43 : Go p e below A0 (T14.setTop (mkF m 201 #[.val (.int p0), .val (.int p1), .val (.int p2), .val (.long q3), .second, .val (.int v1), .val (.int v2), .val (.int v3), .val (.ref uA), .val (.int (0 : Int32)), .val (.int (0 : Int32)), .val (.int v5), .val (.int (0 : Int32)), .val .null, .val .null, .unset, .unset, .unset, .unset, .unset, .unset] [(.ref b14_b)])) := by
        intro t k
        refine go42 t ?_
        refine st14 _ ?_
        show Steps p.tables e below (T14.setTop (mkF m 201 #[.val (.int p0), .val (.int p1), .val (.int p2), .val (.long q3), .second, .val (.int v1), .val (.int v2), .val (.int v3), .val (.ref uA), .val (.int (0 : Int32)), .val (.int (0 : Int32)), .val (.int v5), .val (.int (0 : Int32)), .val .null, .val .null, .unset, .unset, .unset, .unset, .unset, .unset] [(.ref b14_b)])) _
        exact k
      have go44 : Go p e below A0 (T14.setTop (mkF m 223 #[.val (.int p0), .val (.int p1), .val (.int p2), .val (.long q3), .second, .val (.int v1), .val (.int v2), .val (.int v3), .val (.ref uA), .val (.int (0 : Int32)), .val (.int (0 : Int32)), .val (.int v5), .val (.int (0 : Int32)), .val .null, .val .null, .val (.ref b14_b), .val (.long (q3 &&& (9223372036854775807 : Int64))), .second, .unset, .unset, .unset] [])) := by
        intro t k
        refine go43 t ?_
        refine o_goto X14 hx hby at_201 205 rfl ?_
        refine o_astore X14 hx hby at_205 207 rfl rfl (l' := #[.val (.int p0), .val (.int p1), .val (.int p2), .val (.long q3), .second, .val (.int v1), .val (.int v2), .val (.int v3), .val (.ref uA), .val (.int (0 : Int32)), .val (.int (0 : Int32)), .val (.int v5), .val (.int (0 : Int32)), .val .null, .val .null, .val (.ref b14_b), .unset, .unset, .unset, .unset, .unset]) rfl ?_
        refine o_iload X14 hx hby at_207 209 rfl rfl ?_
        refine o_ifN X14 hx hby at_209 212 rfl (feq hc186_10).1 ?_
        refine o_lloadN X14 hx hby at_212 213 rfl rfl ?_
        refine o_ldc2Long X14 hx hby hown (mvT hZ (hw _ (List.mem_of_getElem? (i := 78) rfl))) at_213 216 rfl ?_
        refine o_land X14 hx hby at_216 217 rfl ?_
        refine o_goto X14 hx hby at_217 221 rfl ?_
        refine o_lstore X14 hx hby at_221 223 rfl (l' := #[.val (.int p0), .val (.int p1), .val (.int p2), .val (.long q3), .second, .val (.int v1), .val (.int v2), .val (.int v3), .val (.ref uA), .val (.int (0 : Int32)), .val (.int (0 : Int32)), .val (.int v5), .val (.int (0 : Int32)), .val .null, .val .null, .val (.ref b14_b), .val (.long (q3 &&& (9223372036854775807 : Int64))), .second, .unset, .unset, .unset]) rfl ?_
        exact k
      obtain ⟨v7, hv7, go45⟩ : ∃ v7 : Int64, v7 = (q3 &&& (9223372036854775807 : Int64)) ∧ Go p e below A0 (T14.setTop (mkF m 223 #[.val (.int p0), .val (.int p1), .val (.int p2), .val (.long q3), .second, .val (.int v1), .val (.int v2), .val (.int v3), .val (.ref uA), .val (.int (0 : Int32)), .val (.int (0 : Int32)), .val (.int v5), .val (.int (0 : Int32)), .val .null, .val .null, .val (.ref b14_b), .val (.long v7), .second, .unset, .unset, .unset] [])) := ⟨_, rfl, go44⟩
      obtain ⟨T15, h15, X15, e15, E15, A15, D15, -, st15⟩ := newO X14 hx hZ hown (hw _ (List.mem_of_getElem? (i := 4) rfl)) (hw _ (List.mem_of_getElem? (i := 5) rfl)) (hw _ (List.mem_of_getElem? (i := 6) rfl)) rfl (g := (mkF m 268 #[.val (.int p0), .val (.int p1), .val (.int p2), .val (.long q3), .second, .val (.int v1), .val (.int v2), .val (.int v3), .val (.ref uA), .val (.int (0 : Int32)), .val (.int (0 : Int32)), .val (.int v5), .val (.int (0 : Int32)), .val .null, .val .null, .val (.ref b14_b), .val (.long v7), .second, .val .null, .val .null, .unset] [])) rfl (hb hby at_268) (by decide) (by decide)
      obtain ⟨b15, g15⟩ : ∃ z, z = T14.heap.size := ⟨_, rfl⟩
      rw [← g15] at A15 D15 st15
      have g_b15 : n0 ≤ b15 := Nat.le_trans Zp14 (Nat.le_of_eq g15.symm)
      have f16 : Old Z n0 h15 := f15.ext E15
      have Zp15 : n0 ≤ h15.size := Nat.le_trans Zp14 E15.1
      have f17 : Exa Z h15 b15 "org/shardwright/model/ShardCopy" := A15
      have f18 : Fld Z h15 b15 "org/shardwright/model/ShardCopy" "shard" "I" (.int (0 : Int32)) := D15 (Or.inr (hw _ (List.mem_of_getElem? (i := 32) rfl))) (ty := .int) (by decide)
      have f19 : Fld Z h15 b15 "org/shardwright/model/ShardCopy" "primary" "Z" (.int (0 : Int32)) := D15 (Or.inr (hw _ (List.mem_of_getElem? (i := 34) rfl))) (ty := .boolean) (by decide)
      have f20 : Fld Z h15 b15 "org/shardwright/model/ShardCopy" "state" "Lorg/shardwright/model/ShardCopy$State;" .null := D15 (Or.inr (hw _ (List.mem_of_getElem? (i := 36) rfl))) (ty := (.object "org/shardwright/model/ShardCopy$State")) (by decide)
      have f21 : Fld Z h15 b15 "org/shardwright/model/ShardCopy" "nodeId" "Ljava/lang/String;" .null := D15 (Or.inr (hw _ (List.mem_of_getElem? (i := 38) rfl))) (ty := (.object "java/lang/String")) (by decide)
      have f22 : Fld Z h15 b15 "org/shardwright/model/ShardCopy" "allocationId" "Ljava/lang/String;" .null := D15 (Or.inr (hw _ (List.mem_of_getElem? (i := 40) rfl))) (ty := (.object "java/lang/String")) (by decide)
      have f23 : Fld Z h15 b15 "org/shardwright/model/ShardCopy" "lastNodeId" "Ljava/lang/String;" .null := D15 (Or.inr (hw _ (List.mem_of_getElem? (i := 42) rfl))) (ty := (.object "java/lang/String")) (by decide)
      have f24 : Fld Z h15 b15 "org/shardwright/model/ShardCopy" "unassignedAtMillis" "J" (.long (0 : Int64)) := D15 (Or.inr (hw _ (List.mem_of_getElem? (i := 44) rfl))) (ty := .long) (by decide)
      have f25 : Fld Z h15 b15 "org/shardwright/model/ShardCopy" "replaces" "Ljava/lang/String;" .null := D15 (Or.inr (hw _ (List.mem_of_getElem? (i := 46) rfl))) (ty := (.object "java/lang/String")) (by decide)
      have f26 : Fld Z h15 b15 "org/shardwright/model/ShardCopy" "handsOverTo" "Ljava/lang/String;" .null := D15 (Or.inr (hw _ (List.mem_of_getElem? (i := 48) rfl))) (ty := (.object "java/lang/String")) (by decide)
      have go46 : Go p e below A0 (T15.setTop (mkF m 290 #[.val (.int p0), .val (.int p1), .val (.int p2), .val (.long q3), .second, .val (.int v1), .val (.int v2), .val (.int v3), .val (.ref uA), .val (.int (0 : Int32)), .val (.int (0 : Int32)), .val (.int v5), .val (.int (0 : Int32)), .val .null, .val .null, .val (.ref b14_b), .val (.long v7), .second, .val .null, .val .null, .unset] [.null, .null, (.long v7), (.ref b14_b), .null, .null, (.ref uA), (.int v2), (.int v1), (.ref b15), (.ref b15)])) := by
        intro t k
        refine go45 t ?_
        refine o_iload X14 hx hby at_223 225 rfl rfl ?_
        refine o_ifY X14 hx hby at_225 243 rfl (teq (show (0 : Int32) = (0 : Int32) by decide)).1 ?_
        refine o_aconstNull X14 hx hby at_243 244 rfl ?_
        refine o_astore X14 hx hby at_244 246 rfl rfl (l' := #[.val (.int p0), .val (.int p1), .val (.int p2), .val (.long q3), .second, .val (.int v1), .val (.int v2), .val (.int v3), .val (.ref uA), .val (.int (0 : Int32)), .val (.int (0 : Int32)), .val (.int v5), .val (.int (0 : Int32)), .val .null, .val .null, .val (.ref b14_b), .val (.long v7), .second, .val .null, .unset, .unset]) rfl ?_
        refine o_iload X14 hx hby at_246 248 rfl rfl ?_
        refine o_ifY X14 hx hby at_248 265 rfl (teq (show (0 : Int32) = (0 : Int32) by decide)).1 ?_
        refine o_aconstNull X14 hx hby at_265 266 rfl ?_
        refine o_astore X14 hx hby at_266 268 rfl rfl (l' := #[.val (.int p0), .val (.int p1), .val (.int p2), .val (.long q3), .second, .val (.int v1), .val (.int v2), .val (.int v3), .val (.ref uA), .val (.int (0 : Int32)), .val (.int (0 : Int32)), .val (.int v5), .val (.int (0 : Int32)), .val .null, .val .null, .val (.ref b14_b), .val (.long v7), .second, .val .null, .val .null, .unset]) rfl ?_
        refine st15 _ ?_
        show Steps p.tables e below (T15.setTop (mkF m 271 #[.val (.int p0), .val (.int p1), .val (.int p2), .val (.long q3), .second, .val (.int v1), .val (.int v2), .val (.int v3), .val (.ref uA), .val (.int (0 : Int32)), .val (.int (0 : Int32)), .val (.int v5), .val (.int (0 : Int32)), .val .null, .val .null, .val (.ref b14_b), .val (.long v7), .second, .val .null, .val .null, .unset] [(.ref b15)])) _
        refine o_dup X15 hx hby at_271 272 rfl rfl ?_
        refine o_iload X15 hx hby at_272 274 rfl rfl ?_
        refine o_iload X15 hx hby at_274 276 rfl rfl ?_
        refine o_aload X15 hx hby at_276 278 rfl rfl rfl ?_
        refine o_aload X15 hx hby at_278 280 rfl rfl rfl ?_
        refine o_aload X15 hx hby at_280 282 rfl rfl rfl ?_
        refine o_aload X15 hx hby at_282 284 rfl rfl rfl ?_
        refine o_lload X15 hx hby at_284 286 rfl rfl ?_
        refine o_aload X15 hx hby at_286 288 rfl rfl rfl ?_
        refine o_aload X15 hx hby at_288 290 rfl rfl rfl ?_
        exact k
      have f_nn_3 : ¬ v1 < 0 := pf0_nn_2 p0 p1 p2 q3 uA uS uI cs v1 v2 v3 v5 v6 v7 hv1 hv2 hv3 hv5 hv6 hv7 hc28_2 hc186_10
      have f_p2z_4 : v2 = 0 := pf0_p2z_3 p0 p1 p2 q3 uA uS uI cs v1 v2 v3 v5 v6 v7 hv1 hv2 hv3 hv5 hv6 hv7 hc28_2 hc186_10
      have f_qnn_5 : ¬ v7 < 0 := pf0_qnn_4 p0 p1 p2 q3 uA uS uI cs v1 v2 v3 v5 v6 v7 hv1 hv2 hv3 hv5 hv6 hv7 hc28_2 hc186_10
      obtain ⟨_, _, ⟨T16, L16, k16, n16⟩, -, X16, S16, gr16, ⟨Lc16, hQ16, l16, y16, z16⟩, st16⟩ := X15.specialBackS hx (y := (⟨"org/shardwright/model/ShardCopy", "<init>", "(IZLorg/shardwright/model/ShardCopy$State;Ljava/lang/String;Ljava/lang/String;Ljava/lang/String;JLjava/lang/String;Ljava/lang/String;)V"⟩ : MethodName)) rfl hown (mvT hZ (hw _ (List.mem_of_getElem? (i := 7) rfl))) (mvT hZ (hw _ (List.mem_of_getElem? (i := 8) rfl))) (mvT hZ (hw _ (List.mem_of_getElem? (i := 9) rfl))) (by decide) (backOfS (W := 1) (rm1B l Z aw hw [] b15 v1 v2 uA b14_b v7 h15 n0 Zp15 (f17) (g_b15) (f18) (f19) (f20) (f21) (f22) (f23) (f24) (f25) (f26) (r0) (f16) ((by rw [hv2]; repeat' (first | exact Or.inl rfl | exact Or.inr rfl | split))) (f_nn_3) (f_p2z_4) (f_qnn_5)) hZ (hw _ (List.mem_of_getElem? (i := 9) rfl)) (hw _ (List.mem_of_getElem? (i := 6) rfl)) (by decide) (by decide)) (g := (mkF m 290 #[.val (.int p0), .val (.int p1), .val (.int p2), .val (.long q3), .second, .val (.int v1), .val (.int v2), .val (.int v3), .val (.ref uA), .val (.int (0 : Int32)), .val (.int (0 : Int32)), .val (.int v5), .val (.int (0 : Int32)), .val .null, .val .null, .val (.ref b14_b), .val (.long v7), .second, .val .null, .val .null, .unset] [.null, .null, (.long v7), (.ref b14_b), .null, .null, (.ref uA), (.int v2), (.int v1), (.ref b15), (.ref b15)])) rfl (by rw [hml]; rfl) (Steps.refl _) (a := b15) (argsL := [(.int v1), (.int v2), (.ref uA), .null, .null, (.ref b14_b), (.long v7), .null, .null]) (rest := [(.ref b15)]) (lenOf pd_11 rfl) rfl (by show 2 * 0 + _ ≤ _; exact Nat.le_of_eq rfl) (hb hby at_290) (fun _ _ => ⟨rfl, e15, (by decide : 3 + 2 ≤ _), (by decide : 14 + 24 ≤ _)⟩)
      dsimp only [Pt.U, Pt.locs, Pt.cells, Pt.slots] at X16 l16 y16 z16 st16 hQ16 S16 gr16
      subst l16 y16 z16
      have hZ16q := State.Warmed39.trans hZ S16.1
      have hown16q : (s.setVm T16.vm).vm.findClass "org/shardwright/model/ShardCopyMovedInPinLaw" = some m.cls := by rw [show (s.setVm T16.vm).vm = T16.vm from rfl, S16.1.alike.findClass]; exact hown
      clear hZ hown
      obtain ⟨hZ, hown⟩ := And.intro hZ16q hown16q
      obtain ⟨rfl, N16q, K16q, qf16_0, -⟩ := hQ16
      have f27 : Old Z n0 T16.heap := f16.keep K16q (allS g_b15 all0)
      have f28 : Exa Z T16.heap b15 "org/shardwright/model/ShardCopy" := f17.keep K16q
      have Zp16 : n0 ≤ T16.heap.size := Nat.le_trans Zp15 K16q.1
      have f29 : Fld Z T16.heap b15 "org/shardwright/model/ShardCopy" "replaces" "Ljava/lang/String;" .null := qf16_0
      have N16 := Fr.app N14 N16q
      obtain ⟨cq17, kq17, q17a, q17b, q17c⟩ := isOf hZ rfl f28
      obtain ⟨_, _, ⟨T17, L17, k17, n17⟩, -, X17, ⟨Lc17, hQ17, l17, y17, z17⟩, st17⟩ := X16.virtualBack hx (y := (⟨"org/shardwright/model/ShardCopy", "movedIn", "()Z"⟩ : MethodName)) (z := (⟨"org/shardwright/model/ShardCopy", "movedIn", "()Z"⟩ : MethodName)) hown (mvT hZ (hw _ (List.mem_of_getElem? (i := 49) rfl))) (mvT hZ (hw _ (List.mem_of_getElem? (i := 50) rfl))) (notFace_of_selects (args := #[]) (mvT hZ (hw _ (List.mem_of_getElem? (i := 52) rfl)))) (mvT hZ (hw _ (List.mem_of_getElem? (i := 52) rfl))) (mvT hZ (hw _ (List.mem_of_getElem? (i := 51) rfl))) (by decide) (backOf (W := 0) (rm5n l Z aw hw [] b15 T16.heap n0 Zp16 (f29)) hZ (hw _ (List.mem_of_getElem? (i := 53) rfl)) (hw _ (List.mem_of_getElem? (i := 6) rfl)) (by decide) (by decide)) q17a q17c (g := (mkF m 297 #[.val (.int p0), .val (.int p1), .val (.int p2), .val (.long q3), .second, .val (.int v1), .val (.int v2), .val (.int v3), .val (.ref uA), .val (.int (0 : Int32)), .val (.int (0 : Int32)), .val (.int v5), .val (.int (0 : Int32)), .val .null, .val .null, .val (.ref b14_b), .val (.long v7), .second, .val .null, .val .null, .val (.ref b15)] [(.ref b15)])) rfl (by rw [hml]; rfl) (Steps.refl _) (argsL := []) (rest := []) (lenOf pd_12 rfl) rfl (by show 2 * 0 + _ ≤ _; exact Nat.le_of_eq rfl) (hb hby at_297) (fun _ _ => ⟨rfl, rfl, (by decide : 5 + 0 ≤ _), (by decide : 38 + 0 ≤ _)⟩)
      dsimp only [Pt.U, Pt.locs, Pt.cells, Pt.slots] at X17 l17 y17 z17 st17 hQ17
      subst l17 y17 z17
      obtain ⟨rfl, N17q, e17⟩ := hQ17
      have N17 := Fr.app N16 N17q
      have go47 : Go p e below A0 (T17.setTop (mkF m 300 #[.val (.int p0), .val (.int p1), .val (.int p2), .val (.long q3), .second, .val (.int v1), .val (.int v2), .val (.int v3), .val (.ref uA), .val (.int (0 : Int32)), .val (.int (0 : Int32)), .val (.int v5), .val (.int (0 : Int32)), .val .null, .val .null, .val (.ref b14_b), .val (.long v7), .second, .val .null, .val .null, .val (.ref b15)] [(.int (0 : Int32))])) := by
        intro t k
        refine go46 t ?_
        refine st16.trans ?_
        show Steps p.tables e below (T16.setTop (mkF m 293 #[.val (.int p0), .val (.int p1), .val (.int p2), .val (.long q3), .second, .val (.int v1), .val (.int v2), .val (.int v3), .val (.ref uA), .val (.int (0 : Int32)), .val (.int (0 : Int32)), .val (.int v5), .val (.int (0 : Int32)), .val .null, .val .null, .val (.ref b14_b), .val (.long v7), .second, .val .null, .val .null, .unset] [(.ref b15)])) _
        refine o_astore X16 hx hby at_293 295 rfl rfl (l' := #[.val (.int p0), .val (.int p1), .val (.int p2), .val (.long q3), .second, .val (.int v1), .val (.int v2), .val (.int v3), .val (.ref uA), .val (.int (0 : Int32)), .val (.int (0 : Int32)), .val (.int v5), .val (.int (0 : Int32)), .val .null, .val .null, .val (.ref b14_b), .val (.long v7), .second, .val .null, .val .null, .val (.ref b15)]) rfl ?_
        refine o_aload X16 hx hby at_295 297 rfl rfl rfl ?_
        refine st17.trans ?_
        show Steps p.tables e below (T17.setTop (mkF m 300 #[.val (.int p0), .val (.int p1), .val (.int p2), .val (.long q3), .second, .val (.int v1), .val (.int v2), .val (.int v3), .val (.ref uA), .val (.int (0 : Int32)), .val (.int (0 : Int32)), .val (.int v5), .val (.int (0 : Int32)), .val .null, .val .null, .val (.ref b14_b), .val (.long v7), .second, .val .null, .val .null, .val (.ref b15)] [(.int (0 : Int32))])) _
        exact k
      have go48 : Go p e below A0 (T17.setTop (mkF m 310 #[.val (.int p0), .val (.int p1), .val (.int p2), .val (.long q3), .second, .val (.int v1), .val (.int v2), .val (.int v3), .val (.ref uA), .val (.int (0 : Int32)), .val (.int (0 : Int32)), .val (.int v5), .val (.int (0 : Int32)), .val .null, .val .null, .val (.ref b14_b), .val (.long v7), .second, .val .null, .val .null, .val (.ref b15)] [(.int (1 : Int32))])) := by
        intro t k
        refine go47 t ?_
        refine o_iload X17 hx hby at_300 302 rfl rfl ?_
        refine o_icmpN X17 hx hby at_302 305 rfl (teq (show (0 : Int32) = (0 : Int32) by decide)).2 ?_
        refine o_iconst X17 hx hby at_305 306 rfl (v := (1 : Int32)) rfl ?_
        refine o_goto X17 hx hby at_306 310 rfl ?_
        exact k
      subst hA0
      obtain ⟨fs, hr, hrun, hended, hRW⟩ := X17.leaveW (s := s) S16 (by rw [e17]; exact (Nat.le_refl _)) (v := some (.int (1 : Int32))) (fun h => by rw [Bd.returns] at h; cases h)
      refine ⟨_, _, go48 _ (o_retZ X17 hx Bd.returns (hb hby at_310) (Or.inr rfl) hr), hrun, hended, _, _, rfl, ?_, hRW.1, hRW.2.1, hRW.2.2.1, hRW.2.2.2.mono (by decide) (by decide)⟩
      show Q0 Z p0 p1 p2 q3 uA uS uI cs h0 n0 _ T17.heap _
      rw [e17]
      exact ⟨rfl, N17⟩
  · have go49 : Go p e below A0 (s₁.setTop (mkF m 42 #[.val (.int p0), .val (.int p1), .val (.int p2), .val (.long q3), .second, .val (.int v1), .val (.int v2), .val (.int v3), .unset, .unset, .unset, .unset, .unset, .unset, .unset, .unset, .unset, .unset, .unset, .unset, .unset] [(.int (1 : Int32)), (.int v3)])) := by
      intro t k
      refine go10 t ?_
      refine o_ifY X0 hx hby at_28 39 rfl (feq hc28_2).2 ?_
      refine o_iload X0 hx hby at_39 41 rfl rfl ?_
      refine o_iconst X0 hx hby at_41 42 rfl (v := (1 : Int32)) rfl ?_
      exact k
    by_cases hc42_18 : v3 = (1 : Int32)
    · obtain ⟨T19, X19, e19, st19⟩ := getS2 X0 hx hZ hown (host := "") (Or.inl (hw _ (List.mem_of_getElem? (i := 76) rfl))) Via.refl e0 (r2.ext r4.2) (g := (mkF m 45 #[.val (.int p0), .val (.int p1), .val (.int p2), .val (.long q3), .second, .val (.int v1), .val (.int v2), .val (.int v3), .unset, .unset, .unset, .unset, .unset, .unset, .unset, .unset, .unset, .unset, .unset, .unset, .unset] [])) rfl (hb hby at_45)
      have go50 : Go p e below A0 (T19.setTop (mkF m 70 #[.val (.int p0), .val (.int p1), .val (.int p2), .val (.long q3), .second, .val (.int v1), .val (.int v2), .val (.int v3), .val (.ref uI), .val (.int (1 : Int32)), .unset, .unset, .unset, .unset, .unset, .unset, .unset, .unset, .unset, .unset, .unset] [])) := by
        intro t k
        refine go49 t ?_
        refine o_icmpN X0 hx hby at_42 45 rfl (teq hc42_18).2 ?_
        refine st19 _ ?_
        show Steps p.tables e below (T19.setTop (mkF m 48 #[.val (.int p0), .val (.int p1), .val (.int p2), .val (.long q3), .second, .val (.int v1), .val (.int v2), .val (.int v3), .unset, .unset, .unset, .unset, .unset, .unset, .unset, .unset, .unset, .unset, .unset, .unset, .unset] [(.ref uI)])) _
        refine o_astore X19 hx hby at_48 50 rfl rfl (l' := #[.val (.int p0), .val (.int p1), .val (.int p2), .val (.long q3), .second, .val (.int v1), .val (.int v2), .val (.int v3), .val (.ref uI), .unset, .unset, .unset, .unset, .unset, .unset, .unset, .unset, .unset, .unset, .unset, .unset]) rfl ?_
        refine o_goto X19 hx hby at_50 58 rfl ?_
        refine o_iload X19 hx hby at_58 60 rfl rfl ?_
        refine o_ifN X19 hx hby at_60 63 rfl (feq hc28_2).1 ?_
        refine o_iconst X19 hx hby at_63 64 rfl (v := (1 : Int32)) rfl ?_
        refine o_goto X19 hx hby at_64 68 rfl ?_
        refine o_istore X19 hx hby at_68 70 rfl (l' := #[.val (.int p0), .val (.int p1), .val (.int p2), .val (.long q3), .second, .val (.int v1), .val (.int v2), .val (.int v3), .val (.ref uI), .val (.int (1 : Int32)), .unset, .unset, .unset, .unset, .unset, .unset, .unset, .unset, .unset, .unset, .unset]) rfl ?_
        exact k
      have go51 : Go p e below A0 (T19.setTop (mkF m 73 #[.val (.int p0), .val (.int p1), .val (.int p2), .val (.long q3), .second, .val (.int v1), .val (.int v2), .val (.int v3), .val (.ref uI), .val (.int (1 : Int32)), .unset, .unset, .unset, .unset, .unset, .unset, .unset, .unset, .unset, .unset, .unset] [(.int (p1 &&& (2 : Int32)))])) := by
        intro t k
        refine go50 t ?_
        refine o_iloadN X19 hx hby at_70 71 rfl rfl ?_
        refine o_iconst X19 hx hby at_71 72 rfl (v := (2 : Int32)) rfl ?_
        refine o_iand X19 hx hby at_72 73 rfl ?_
        exact k
      obtain ⟨v9, hv9, go57⟩ : ∃ (v9 : Int32), v9 = (if (p1 &&& (2 : Int32)) = (0 : Int32) then (0 : Int32) else (if v2 = (0 : Int32) then (1 : Int32) else (0 : Int32))) ∧ Go p e below A0 (T19.setTop (mkF m 91 #[.val (.int p0), .val (.int p1), .val (.int p2), .val (.long q3), .second, .val (.int v1), .val (.int v2), .val (.int v3), .val (.ref uI), .val (.int (1 : Int32)), .unset, .unset, .unset, .unset, .unset, .unset, .unset, .unset, .unset, .unset, .unset] [(.int v9)])) := by
        by_cases hc73_20 : (p1 &&& (2 : Int32)) = (0 : Int32)
        · have go52 : Go p e below A0 (T19.setTop (mkF m 91 #[.val (.int p0), .val (.int p1), .val (.int p2), .val (.long q3), .second, .val (.int v1), .val (.int v2), .val (.int v3), .val (.ref uI), .val (.int (1 : Int32)), .unset, .unset, .unset, .unset, .unset, .unset, .unset, .unset, .unset, .unset, .unset] [(.int (0 : Int32))])) := by
            intro t k
            refine go51 t ?_
            refine o_ifY X19 hx hby at_73 90 rfl (teq hc73_20).1 ?_
            refine o_iconst X19 hx hby at_90 91 rfl (v := (0 : Int32)) rfl ?_
            exact k
          exact ⟨(0 : Int32), (if_pos hc73_20).symm, go52⟩
        · have go53 : Go p e below A0 (T19.setTop (mkF m 78 #[.val (.int p0), .val (.int p1), .val (.int p2), .val (.long q3), .second, .val (.int v1), .val (.int v2), .val (.int v3), .val (.ref uI), .val (.int (1 : Int32)), .unset, .unset, .unset, .unset, .unset, .unset, .unset, .unset, .unset, .unset, .unset] [(.int v2)])) := by
            intro t k
            refine go51 t ?_
            refine o_ifN X19 hx hby at_73 76 rfl (feq hc73_20).1 ?_
            refine o_iload X19 hx hby at_76 78 rfl rfl ?_
            exact k
          obtain ⟨v8, hv8, go56⟩ : ∃ (v8 : Int32), v8 = (if v2 = (0 : Int32) then (1 : Int32) else (0 : Int32)) ∧ Go p e below A0 (T19.setTop (mkF m 91 #[.val (.int p0), .val (.int p1), .val (.int p2), .val (.long q3), .second, .val (.int v1), .val (.int v2), .val (.int v3), .val (.ref uI), .val (.int (1 : Int32)), .unset, .unset, .unset, .unset, .unset, .unset, .unset, .unset, .unset, .unset, .unset] [(.int v8)])) := by
            by_cases hc78_21 : v2 = (0 : Int32)
            · have go54 : Go p e below A0 (T19.setTop (mkF m 91 #[.val (.int p0), .val (.int p1), .val (.int p2), .val (.long q3), .second, .val (.int v1), .val (.int v2), .val (.int v3), .val (.ref uI), .val (.int (1 : Int32)), .unset, .unset, .unset, .unset, .unset, .unset, .unset, .unset, .unset, .unset, .unset] [(.int (1 : Int32))])) := by
                intro t k
                refine go53 t ?_
                refine o_ifN X19 hx hby at_78 81 rfl (teq hc78_21).2 ?_
                refine o_iload X19 hx hby at_81 83 rfl rfl ?_
                refine o_ifN X19 hx hby at_83 86 rfl (feq (show ¬ ((1 : Int32) = (0 : Int32)) by decide)).1 ?_
                refine o_iconst X19 hx hby at_86 87 rfl (v := (1 : Int32)) rfl ?_
                refine o_goto X19 hx hby at_87 91 rfl ?_
                exact k
              exact ⟨(1 : Int32), (if_pos hc78_21).symm, go54⟩
            · have go55 : Go p e below A0 (T19.setTop (mkF m 91 #[.val (.int p0), .val (.int p1), .val (.int p2), .val (.long q3), .second, .val (.int v1), .val (.int v2), .val (.int v3), .val (.ref uI), .val (.int (1 : Int32)), .unset, .unset, .unset, .unset, .unset, .unset, .unset, .unset, .unset, .unset, .unset] [(.int (0 : Int32))])) := by
                intro t k
                refine go53 t ?_
                refine o_ifY X19 hx hby at_78 90 rfl (feq hc78_21).2 ?_
                refine o_iconst X19 hx hby at_90 91 rfl (v := (0 : Int32)) rfl ?_
                exact k
              exact ⟨(0 : Int32), (if_neg hc78_21).symm, go55⟩
          subst hv8
          exact ⟨(if v2 = (0 : Int32) then (1 : Int32) else (0 : Int32)), (if_neg hc73_20).symm, go56⟩
      have go58 : Go p e below A0 (T19.setTop (mkF m 93 #[.val (.int p0), .val (.int p1), .val (.int p2), .val (.long q3), .second, .val (.int v1), .val (.int v2), .val (.int v3), .val (.ref uI), .val (.int (1 : Int32)), .val (.int v9), .unset, .unset, .unset, .unset, .unset, .unset, .unset, .unset, .unset, .unset] [])) := by
        intro t k
        refine go57 t ?_
        refine o_istore X19 hx hby at_91 93 rfl (l' := #[.val (.int p0), .val (.int p1), .val (.int p2), .val (.long q3), .second, .val (.int v1), .val (.int v2), .val (.int v3), .val (.ref uI), .val (.int (1 : Int32)), .val (.int v9), .unset, .unset, .unset, .unset, .unset, .unset, .unset, .unset, .unset, .unset]) rfl ?_
        exact k
      have go59 : Go p e below A0 (T19.setTop (mkF m 96 #[.val (.int p0), .val (.int p1), .val (.int p2), .val (.long q3), .second, .val (.int v1), .val (.int v2), .val (.int v3), .val (.ref uI), .val (.int (1 : Int32)), .val (.int v9), .unset, .unset, .unset, .unset, .unset, .unset, .unset, .unset, .unset, .unset] [(.int (p1 &&& (4 : Int32)))])) := by
        intro t k
        refine go58 t ?_
        refine o_iloadN X19 hx hby at_93 94 rfl rfl ?_
        refine o_iconst X19 hx hby at_94 95 rfl (v := (4 : Int32)) rfl ?_
        refine o_iand X19 hx hby at_95 96 rfl ?_
        exact k
      have go65 : Go p e below A0 (T19.setTop (mkF m 114 #[.val (.int p0), .val (.int p1), .val (.int p2), .val (.long q3), .second, .val (.int v1), .val (.int v2), .val (.int v3), .val (.ref uI), .val (.int (1 : Int32)), .val (.int v9), .unset, .unset, .unset, .unset, .unset, .unset, .unset, .unset, .unset, .unset] [(.int (0 : Int32))])) := by
        by_cases hc96_22 : (p1 &&& (4 : Int32)) = (0 : Int32)
        · have go60 : Go p e below A0 (T19.setTop (mkF m 114 #[.val (.int p0), .val (.int p1), .val (.int p2), .val (.long q3), .second, .val (.int v1), .val (.int v2), .val (.int v3), .val (.ref uI), .val (.int (1 : Int32)), .val (.int v9), .unset, .unset, .unset, .unset, .unset, .unset, .unset, .unset, .unset, .unset] [(.int (0 : Int32))])) := by
            intro t k
            refine go59 t ?_
            refine o_ifY X19 hx hby at_96 113 rfl (teq hc96_22).1 ?_
            refine o_iconst X19 hx hby at_113 114 rfl (v := (0 : Int32)) rfl ?_
            exact k
          exact go60
        · have go61 : Go p e below A0 (T19.setTop (mkF m 101 #[.val (.int p0), .val (.int p1), .val (.int p2), .val (.long q3), .second, .val (.int v1), .val (.int v2), .val (.int v3), .val (.ref uI), .val (.int (1 : Int32)), .val (.int v9), .unset, .unset, .unset, .unset, .unset, .unset, .unset, .unset, .unset, .unset] [(.int v2)])) := by
            intro t k
            refine go59 t ?_
            refine o_ifN X19 hx hby at_96 99 rfl (feq hc96_22).1 ?_
            refine o_iload X19 hx hby at_99 101 rfl rfl ?_
            exact k
          have go64 : Go p e below A0 (T19.setTop (mkF m 114 #[.val (.int p0), .val (.int p1), .val (.int p2), .val (.long q3), .second, .val (.int v1), .val (.int v2), .val (.int v3), .val (.ref uI), .val (.int (1 : Int32)), .val (.int v9), .unset, .unset, .unset, .unset, .unset, .unset, .unset, .unset, .unset, .unset] [(.int (0 : Int32))])) := by
            by_cases hc101_23 : v2 = (0 : Int32)
            · have go62 : Go p e below A0 (T19.setTop (mkF m 114 #[.val (.int p0), .val (.int p1), .val (.int p2), .val (.long q3), .second, .val (.int v1), .val (.int v2), .val (.int v3), .val (.ref uI), .val (.int (1 : Int32)), .val (.int v9), .unset, .unset, .unset, .unset, .unset, .unset, .unset, .unset, .unset, .unset] [(.int (0 : Int32))])) := by
                intro t k
                refine go61 t ?_
                refine o_ifN X19 hx hby at_101 104 rfl (teq hc101_23).2 ?_
                refine o_iload X19 hx hby at_104 106 rfl rfl ?_
                refine o_ifY X19 hx hby at_106 113 rfl (feq (show ¬ ((1 : Int32) = (0 : Int32)) by decide)).2 ?_
                refine o_iconst X19 hx hby at_113 114 rfl (v := (0 : Int32)) rfl ?_
                exact k
              exact go62
            · have go63 : Go p e below A0 (T19.setTop (mkF m 114 #[.val (.int p0), .val (.int p1), .val (.int p2), .val (.long q3), .second, .val (.int v1), .val (.int v2), .val (.int v3), .val (.ref uI), .val (.int (1 : Int32)), .val (.int v9), .unset, .unset, .unset, .unset, .unset, .unset, .unset, .unset, .unset, .unset] [(.int (0 : Int32))])) := by
                intro t k
                refine go61 t ?_
                refine o_ifY X19 hx hby at_101 113 rfl (feq hc101_23).2 ?_
                refine o_iconst X19 hx hby at_113 114 rfl (v := (0 : Int32)) rfl ?_
                exact k
              exact go63
          exact go64
      have go66 : Go p e below A0 (T19.setTop (mkF m 116 #[.val (.int p0), .val (.int p1), .val (.int p2), .val (.long q3), .second, .val (.int v1), .val (.int v2), .val (.int v3), .val (.ref uI), .val (.int (1 : Int32)), .val (.int v9), .val (.int (0 : Int32)), .unset, .unset, .unset, .unset, .unset, .unset, .unset, .unset, .unset] [])) := by
        intro t k
        refine go65 t ?_
        refine o_istore X19 hx hby at_114 116 rfl (l' := #[.val (.int p0), .val (.int p1), .val (.int p2), .val (.long q3), .second, .val (.int v1), .val (.int v2), .val (.int v3), .val (.ref uI), .val (.int (1 : Int32)), .val (.int v9), .val (.int (0 : Int32)), .unset, .unset, .unset, .unset, .unset, .unset, .unset, .unset, .unset]) rfl ?_
        exact k
      have go67 : Go p e below A0 (T19.setTop (mkF m 120 #[.val (.int p0), .val (.int p1), .val (.int p2), .val (.long q3), .second, .val (.int v1), .val (.int v2), .val (.int v3), .val (.ref uI), .val (.int (1 : Int32)), .val (.int v9), .val (.int (0 : Int32)), .unset, .unset, .unset, .unset, .unset, .unset, .unset, .unset, .unset] [(.int (p1 &&& (8 : Int32)))])) := by
        intro t k
        refine go66 t ?_
        refine o_iloadN X19 hx hby at_116 117 rfl rfl ?_
        refine o_bipush X19 hx hby at_117 119 rfl (v := (8 : Int32)) rfl ?_
        refine o_iand X19 hx hby at_119 120 rfl ?_
        exact k
      have go73 : Go p e below A0 (T19.setTop (mkF m 139 #[.val (.int p0), .val (.int p1), .val (.int p2), .val (.long q3), .second, .val (.int v1), .val (.int v2), .val (.int v3), .val (.ref uI), .val (.int (1 : Int32)), .val (.int v9), .val (.int (0 : Int32)), .unset, .unset, .unset, .unset, .unset, .unset, .unset, .unset, .unset] [(.int (0 : Int32))])) := by
        by_cases hc120_24 : (p1 &&& (8 : Int32)) = (0 : Int32)
        · have go68 : Go p e below A0 (T19.setTop (mkF m 139 #[.val (.int p0), .val (.int p1), .val (.int p2), .val (.long q3), .second, .val (.int v1), .val (.int v2), .val (.int v3), .val (.ref uI), .val (.int (1 : Int32)), .val (.int v9), .val (.int (0 : Int32)), .unset, .unset, .unset, .unset, .unset, .unset, .unset, .unset, .unset] [(.int (0 : Int32))])) := by
            intro t k
            refine go67 t ?_
            refine o_ifY X19 hx hby at_120 138 rfl (teq hc120_24).1 ?_
            refine o_iconst X19 hx hby at_138 139 rfl (v := (0 : Int32)) rfl ?_
            exact k
          exact go68
        · have go69 : Go p e below A0 (T19.setTop (mkF m 125 #[.val (.int p0), .val (.int p1), .val (.int p2), .val (.long q3), .second, .val (.int v1), .val (.int v2), .val (.int v3), .val (.ref uI), .val (.int (1 : Int32)), .val (.int v9), .val (.int (0 : Int32)), .unset, .unset, .unset, .unset, .unset, .unset, .unset, .unset, .unset] [(.int v2)])) := by
            intro t k
            refine go67 t ?_
            refine o_ifN X19 hx hby at_120 123 rfl (feq hc120_24).1 ?_
            refine o_iload X19 hx hby at_123 125 rfl rfl ?_
            exact k
          have go72 : Go p e below A0 (T19.setTop (mkF m 139 #[.val (.int p0), .val (.int p1), .val (.int p2), .val (.long q3), .second, .val (.int v1), .val (.int v2), .val (.int v3), .val (.ref uI), .val (.int (1 : Int32)), .val (.int v9), .val (.int (0 : Int32)), .unset, .unset, .unset, .unset, .unset, .unset, .unset, .unset, .unset] [(.int (0 : Int32))])) := by
            by_cases hc125_25 : v2 = (0 : Int32)
            · have go70 : Go p e below A0 (T19.setTop (mkF m 139 #[.val (.int p0), .val (.int p1), .val (.int p2), .val (.long q3), .second, .val (.int v1), .val (.int v2), .val (.int v3), .val (.ref uI), .val (.int (1 : Int32)), .val (.int v9), .val (.int (0 : Int32)), .unset, .unset, .unset, .unset, .unset, .unset, .unset, .unset, .unset] [(.int (0 : Int32))])) := by
                intro t k
                refine go69 t ?_
                refine o_ifY X19 hx hby at_125 138 rfl (teq hc125_25).1 ?_
                refine o_iconst X19 hx hby at_138 139 rfl (v := (0 : Int32)) rfl ?_
                exact k
              exact go70
            · have go71 : Go p e below A0 (T19.setTop (mkF m 139 #[.val (.int p0), .val (.int p1), .val (.int p2), .val (.long q3), .second, .val (.int v1), .val (.int v2), .val (.int v3), .val (.ref uI), .val (.int (1 : Int32)), .val (.int v9), .val (.int (0 : Int32)), .unset, .unset, .unset, .unset, .unset, .unset, .unset, .unset, .unset] [(.int (0 : Int32))])) := by
                intro t k
                refine go69 t ?_
                refine o_ifN X19 hx hby at_125 128 rfl (feq hc125_25).1 ?_
                refine o_iload X19 hx hby at_128 130 rfl rfl ?_
                refine o_iconst X19 hx hby at_130 131 rfl (v := (2 : Int32)) rfl ?_
                refine o_icmpY X19 hx hby at_131 138 rfl (feq (by rw [hc42_18]; decide)).2 ?_
                refine o_iconst X19 hx hby at_138 139 rfl (v := (0 : Int32)) rfl ?_
                exact k
              exact go71
          exact go72
      have go74 : Go p e below A0 (T19.setTop (mkF m 141 #[.val (.int p0), .val (.int p1), .val (.int p2), .val (.long q3), .second, .val (.int v1), .val (.int v2), .val (.int v3), .val (.ref uI), .val (.int (1 : Int32)), .val (.int v9), .val (.int (0 : Int32)), .val (.int (0 : Int32)), .unset, .unset, .unset, .unset, .unset, .unset, .unset, .unset] [])) := by
        intro t k
        refine go73 t ?_
        refine o_istore X19 hx hby at_139 141 rfl (l' := #[.val (.int p0), .val (.int p1), .val (.int p2), .val (.long q3), .second, .val (.int v1), .val (.int v2), .val (.int v3), .val (.ref uI), .val (.int (1 : Int32)), .val (.int v9), .val (.int (0 : Int32)), .val (.int (0 : Int32)), .unset, .unset, .unset, .unset, .unset, .unset, .unset, .unset]) rfl ?_
        exact k
      have go75 : Go p e below A0 (T19.setTop (mkF m 152 #[.val (.int p0), .val (.int p1), .val (.int p2), .val (.long q3), .second, .val (.int v1), .val (.int v2), .val (.int v3), .val (.ref uI), .val (.int (1 : Int32)), .val (.int v9), .val (.int (0 : Int32)), .val (.int (0 : Int32)), .unset, .unset, .unset, .unset, .unset, .unset, .unset, .unset] [(.int ((p2 &&& (255 : Int32)).toUInt32.toUInt16.toUInt32.toInt32))])) := by
        intro t k
        refine go74 t ?_
        refine o_iload X19 hx hby at_141 143 rfl rfl ?_
        refine o_ifN X19 hx hby at_143 146 rfl (feq (show ¬ ((1 : Int32) = (0 : Int32)) by decide)).1 ?_
        refine o_iloadN X19 hx hby at_146 147 rfl rfl ?_
        refine o_sipush X19 hx hby at_147 150 rfl (v := (255 : Int32)) rfl ?_
        refine o_iand X19 hx hby at_150 151 rfl ?_
        refine o_i2c X19 hx hby at_151 152 rfl ?_
        exact k
      obtain ⟨v10, hv10, go76⟩ : ∃ v10 : Int32, v10 = ((p2 &&& (255 : Int32)).toUInt32.toUInt16.toUInt32.toInt32) ∧ Go p e below A0 (T19.setTop (mkF m 152 #[.val (.int p0), .val (.int p1), .val (.int p2), .val (.long q3), .second, .val (.int v1), .val (.int v2), .val (.int v3), .val (.ref uI), .val (.int (1 : Int32)), .val (.int v9), .val (.int (0 : Int32)), .val (.int (0 : Int32)), .unset, .unset, .unset, .unset, .unset, .unset, .unset, .unset] [(.int v10)])) := ⟨_, rfl, go75⟩
      have f_c255_6 : ¬ (255 : Int32) < v10 := pf0_c255_5 p0 p1 p2 q3 uA uS uI cs v1 v2 v3 v9 v10 hv1 hv2 hv3 hv9 hv10 hc28_2 hc42_18
      obtain ⟨_, _, ⟨T26, L26, k26, n26⟩, -, X26, ⟨Lc26, hQ26, l26, y26, z26⟩, st26⟩ := Jvm.LawKit.callS X19 hx (y := (⟨"java/lang/String", "valueOf", "(C)Ljava/lang/String;"⟩ : MethodName)) hown (mvT hZ (hw _ (List.mem_of_getElem? (i := 56) rfl))) (mvT hZ (hw _ (List.mem_of_getElem? (i := 57) rfl))) (mvT hZ (hw _ (List.mem_of_getElem? (i := 19) rfl))) (mvT hZ (hw _ (List.mem_of_getElem? (i := 58) rfl))) (by decide) (backOf (W := 0) (rm6 l Z aw hw [] v10 cs h0 n0 Z0 (r3) (r4) (hcs) (f_c255_6)) hZ (hw _ (List.mem_of_getElem? (i := 58) rfl)) (hw _ (List.mem_of_getElem? (i := 19) rfl)) (by decide) (by decide)) (g := (mkF m 152 #[.val (.int p0), .val (.int p1), .val (.int p2), .val (.long q3), .second, .val (.int v1), .val (.int v2), .val (.int v3), .val (.ref uI), .val (.int (1 : Int32)), .val (.int v9), .val (.int (0 : Int32)), .val (.int (0 : Int32)), .unset, .unset, .unset, .unset, .unset, .unset, .unset, .unset] [(.int v10)])) rfl (by rw [hml]; rfl) (argsL := [(.int v10)]) (rest := []) (lenOf pd_13 rfl) rfl (by show 2 * 0 + _ ≤ _; exact Nat.le_of_eq rfl) (hb hby at_152) (fun _ _ => ⟨rfl, e19, (by decide : 0 + 2 ≤ _), (by decide : 0 + 5 ≤ _)⟩)
      dsimp only [Pt.U, Pt.locs, Pt.cells, Pt.slots] at X26 l26 y26 z26 st26 hQ26
      subst l26 y26 z26
      obtain ⟨b26_b, rfl, N26q, K26q, sz_b26_bq, -⟩ := hQ26
      have g_b26_b : n0 ≤ b26_b := Nat.le_trans Z0 sz_b26_bq
      have f30 : Old Z n0 T26.heap := r4.keep K26q all0
      have Zp26 : n0 ≤ T26.heap.size := Nat.le_trans Z0 K26q.1
      have N26 := Fr.app N0 N26q
      have go77 : Go p e below A0 (T26.setTop (mkF m 155 #[.val (.int p0), .val (.int p1), .val (.int p2), .val (.long q3), .second, .val (.int v1), .val (.int v2), .val (.int v3), .val (.ref uI), .val (.int (1 : Int32)), .val (.int v9), .val (.int (0 : Int32)), .val (.int (0 : Int32)), .unset, .unset, .unset, .unset, .unset, .unset, .unset, .unset] [(.ref b26_b)])) := by
        intro t k
        refine go76 t ?_
        refine st26 _ ?_
        show Steps p.tables e below (T26.setTop (mkF m 155 #[.val (.int p0), .val (.int p1), .val (.int p2), .val (.long q3), .second, .val (.int v1), .val (.int v2), .val (.int v3), .val (.ref uI), .val (.int (1 : Int32)), .val (.int v9), .val (.int (0 : Int32)), .val (.int (0 : Int32)), .unset, .unset, .unset, .unset, .unset, .unset, .unset, .unset] [(.ref b26_b)])) _
        exact k
      have go78 : Go p e below A0 (T26.setTop (mkF m 175 #[.val (.int p0), .val (.int p1), .val (.int p2), .val (.long q3), .second, .val (.int v1), .val (.int v2), .val (.int v3), .val (.ref uI), .val (.int (1 : Int32)), .val (.int v9), .val (.int (0 : Int32)), .val (.int (0 : Int32)), .val (.ref b26_b), .unset, .unset, .unset, .unset, .unset, .unset, .unset] [(.int ((((p2.toUInt32 >>> ((8 : Int32) &&& 31).toUInt32).toInt32) &&& (255 : Int32)).toUInt32.toUInt16.toUInt32.toInt32))])) := by
        intro t k
        refine go77 t ?_
        refine o_goto X26 hx hby at_155 159 rfl ?_
        refine o_astore X26 hx hby at_159 161 rfl rfl (l' := #[.val (.int p0), .val (.int p1), .val (.int p2), .val (.long q3), .second, .val (.int v1), .val (.int v2), .val (.int v3), .val (.ref uI), .val (.int (1 : Int32)), .val (.int v9), .val (.int (0 : Int32)), .val (.int (0 : Int32)), .val (.ref b26_b), .unset, .unset, .unset, .unset, .unset, .unset, .unset]) rfl ?_
        refine o_iload X26 hx hby at_161 163 rfl rfl ?_
        refine o_ifN X26 hx hby at_163 166 rfl (feq (show ¬ ((1 : Int32) = (0 : Int32)) by decide)).1 ?_
        refine o_iloadN X26 hx hby at_166 167 rfl rfl ?_
        refine o_bipush X26 hx hby at_167 169 rfl (v := (8 : Int32)) rfl ?_
        refine o_iushr X26 hx hby at_169 170 rfl ?_
        refine o_sipush X26 hx hby at_170 173 rfl (v := (255 : Int32)) rfl ?_
        refine o_iand X26 hx hby at_173 174 rfl ?_
        refine o_i2c X26 hx hby at_174 175 rfl ?_
        exact k
      obtain ⟨v11, hv11, go79⟩ : ∃ v11 : Int32, v11 = ((((p2.toUInt32 >>> ((8 : Int32) &&& 31).toUInt32).toInt32) &&& (255 : Int32)).toUInt32.toUInt16.toUInt32.toInt32) ∧ Go p e below A0 (T26.setTop (mkF m 175 #[.val (.int p0), .val (.int p1), .val (.int p2), .val (.long q3), .second, .val (.int v1), .val (.int v2), .val (.int v3), .val (.ref uI), .val (.int (1 : Int32)), .val (.int v9), .val (.int (0 : Int32)), .val (.int (0 : Int32)), .val (.ref b26_b), .unset, .unset, .unset, .unset, .unset, .unset, .unset] [(.int v11)])) := ⟨_, rfl, go78⟩
      have f_c255_7 : ¬ (255 : Int32) < v11 := pf0_c255_6 p0 p1 p2 q3 uA uS uI cs v1 v2 v3 v9 v10 v11 hv1 hv2 hv3 hv9 hv10 hv11 hc28_2 hc42_18
      obtain ⟨_, _, ⟨T27, L27, k27, n27⟩, -, X27, ⟨Lc27, hQ27, l27, y27, z27⟩, st27⟩ := Jvm.LawKit.callS X26 hx (y := (⟨"java/lang/String", "valueOf", "(C)Ljava/lang/String;"⟩ : MethodName)) hown (mvT hZ (hw _ (List.mem_of_getElem? (i := 56) rfl))) (mvT hZ (hw _ (List.mem_of_getElem? (i := 57) rfl))) (mvT hZ (hw _ (List.mem_of_getElem? (i := 19) rfl))) (mvT hZ (hw _ (List.mem_of_getElem? (i := 58) rfl))) (by decide) (backOf (W := 0) (rm6 l Z aw hw [] v11 cs T26.heap n0 Zp26 (r3) (f30) (hcs) (f_c255_7)) hZ (hw _ (List.mem_of_getElem? (i := 58) rfl)) (hw _ (List.mem_of_getElem? (i := 19) rfl)) (by decide) (by decide)) (g := (mkF m 175 #[.val (.int p0), .val (.int p1), .val (.int p2), .val (.long q3), .second, .val (.int v1), .val (.int v2), .val (.int v3), .val (.ref uI), .val (.int (1 : Int32)), .val (.int v9), .val (.int (0 : Int32)), .val (.int (0 : Int32)), .val (.ref b26_b), .unset, .unset, .unset, .unset, .unset, .unset, .unset] [(.int v11)])) rfl (by rw [hml]; rfl) (argsL := [(.int v11)]) (rest := []) (lenOf pd_13 rfl) rfl (by show 2 * 0 + _ ≤ _; exact Nat.le_of_eq rfl) (hb hby at_175) (fun _ _ => ⟨rfl, rfl, (by decide : 2 + 2 ≤ _), (by decide : 5 + 5 ≤ _)⟩)
      dsimp only [Pt.U, Pt.locs, Pt.cells, Pt.slots] at X27 l27 y27 z27 st27 hQ27
      subst l27 y27 z27
      obtain ⟨b27_b, rfl, N27q, K27q, sz_b27_bq, -⟩ := hQ27
      have g_b27_b : n0 ≤ b27_b := Nat.le_trans Zp26 sz_b27_bq
      have f31 : Old Z n0 T27.heap := f30.keep K27q all0
      have Zp27 : n0 ≤ T27.heap.size := Nat.le_trans Zp26 K27q.1
      have N27 := Fr.app N26 N27q
      have go80 : Go p e below A0 (T27.setTop (mkF m 178 #[.val (.int p0), .val (.int p1), .val (.int p2), .val (.long q3), .second, .val (.int v1), .val (.int v2), .val (.int v3), .val (.ref uI), .val (.int (1 : Int32)), .val (.int v9), .val (.int (0 : Int32)), .val (.int (0 : Int32)), .val (.ref b26_b), .unset, .unset, .unset, .unset, .unset, .unset, .unset] [(.ref b27_b)])) := by
        intro t k
        refine go79 t ?_
        refine st27 _ ?_
        show Steps p.tables e below (T27.setTop (mkF m 178 #[.val (.int p0), .val (.int p1), .val (.int p2), .val (.long q3), .second, .val (.int v1), .val (.int v2), .val (.int v3), .val (.ref uI), .val (.int (1 : Int32)), .val (.int v9), .val (.int (0 : Int32)), .val (.int (0 : Int32)), .val (.ref b26_b), .unset, .unset, .unset, .unset, .unset, .unset, .unset] [(.ref b27_b)])) _
        exact k
      have go81 : Go p e below A0 (T27.setTop (mkF m 223 #[.val (.int p0), .val (.int p1), .val (.int p2), .val (.long q3), .second, .val (.int v1), .val (.int v2), .val (.int v3), .val (.ref uI), .val (.int (1 : Int32)), .val (.int v9), .val (.int (0 : Int32)), .val (.int (0 : Int32)), .val (.ref b26_b), .val (.ref b27_b), .val .null, .val (.long (0 : Int64)), .second, .unset, .unset, .unset] [])) := by
        intro t k
        refine go80 t ?_
        refine o_goto X27 hx hby at_178 182 rfl ?_
        refine o_astore X27 hx hby at_182 184 rfl rfl (l' := #[.val (.int p0), .val (.int p1), .val (.int p2), .val (.long q3), .second, .val (.int v1), .val (.int v2), .val (.int v3), .val (.ref uI), .val (.int (1 : Int32)), .val (.int v9), .val (.int (0 : Int32)), .val (.int (0 : Int32)), .val (.ref b26_b), .val (.ref b27_b), .unset, .unset, .unset, .unset, .unset, .unset]) rfl ?_
        refine o_iload X27 hx hby at_184 186 rfl rfl ?_
        refine o_ifY X27 hx hby at_186 204 rfl (teq (show (0 : Int32) = (0 : Int32) by decide)).1 ?_
        refine o_aconstNull X27 hx hby at_204 205 rfl ?_
        refine o_astore X27 hx hby at_205 207 rfl rfl (l' := #[.val (.int p0), .val (.int p1), .val (.int p2), .val (.long q3), .second, .val (.int v1), .val (.int v2), .val (.int v3), .val (.ref uI), .val (.int (1 : Int32)), .val (.int v9), .val (.int (0 : Int32)), .val (.int (0 : Int32)), .val (.ref b26_b), .val (.ref b27_b), .val .null, .unset, .unset, .unset, .unset, .unset]) rfl ?_
        refine o_iload X27 hx hby at_207 209 rfl rfl ?_
        refine o_ifY X27 hx hby at_209 220 rfl (teq (show (0 : Int32) = (0 : Int32) by decide)).1 ?_
        refine o_lconst X27 hx hby at_220 221 rfl (v := (0 : Int64)) rfl ?_
        refine o_lstore X27 hx hby at_221 223 rfl (l' := #[.val (.int p0), .val (.int p1), .val (.int p2), .val (.long q3), .second, .val (.int v1), .val (.int v2), .val (.int v3), .val (.ref uI), .val (.int (1 : Int32)), .val (.int v9), .val (.int (0 : Int32)), .val (.int (0 : Int32)), .val (.ref b26_b), .val (.ref b27_b), .val .null, .val (.long (0 : Int64)), .second, .unset, .unset, .unset]) rfl ?_
        exact k
      have go82 : Go p e below A0 (T27.setTop (mkF m 225 #[.val (.int p0), .val (.int p1), .val (.int p2), .val (.long q3), .second, .val (.int v1), .val (.int v2), .val (.int v3), .val (.ref uI), .val (.int (1 : Int32)), .val (.int v9), .val (.int (0 : Int32)), .val (.int (0 : Int32)), .val (.ref b26_b), .val (.ref b27_b), .val .null, .val (.long (0 : Int64)), .second, .unset, .unset, .unset] [(.int v9)])) := by
        intro t k
        refine go81 t ?_
        refine o_iload X27 hx hby at_223 225 rfl rfl ?_
        exact k
      by_cases hc225_28 : v9 = (0 : Int32)
      · obtain ⟨T29, h29, X29, e29, E29, A29, D29, -, st29⟩ := newO X27 hx hZ hown (hw _ (List.mem_of_getElem? (i := 4) rfl)) (hw _ (List.mem_of_getElem? (i := 5) rfl)) (hw _ (List.mem_of_getElem? (i := 6) rfl)) rfl (g := (mkF m 268 #[.val (.int p0), .val (.int p1), .val (.int p2), .val (.long q3), .second, .val (.int v1), .val (.int v2), .val (.int v3), .val (.ref uI), .val (.int (1 : Int32)), .val (.int v9), .val (.int (0 : Int32)), .val (.int (0 : Int32)), .val (.ref b26_b), .val (.ref b27_b), .val .null, .val (.long (0 : Int64)), .second, .val .null, .val .null, .unset] [])) rfl (hb hby at_268) (by decide) (by decide)
        obtain ⟨b29, g29⟩ : ∃ z, z = T27.heap.size := ⟨_, rfl⟩
        rw [← g29] at A29 D29 st29
        have g_b29 : n0 ≤ b29 := Nat.le_trans Zp27 (Nat.le_of_eq g29.symm)
        have f32 : Old Z n0 h29 := f31.ext E29
        have Zp29 : n0 ≤ h29.size := Nat.le_trans Zp27 E29.1
        have f33 : Exa Z h29 b29 "org/shardwright/model/ShardCopy" := A29
        have f34 : Fld Z h29 b29 "org/shardwright/model/ShardCopy" "shard" "I" (.int (0 : Int32)) := D29 (Or.inr (hw _ (List.mem_of_getElem? (i := 32) rfl))) (ty := .int) (by decide)
        have f35 : Fld Z h29 b29 "org/shardwright/model/ShardCopy" "primary" "Z" (.int (0 : Int32)) := D29 (Or.inr (hw _ (List.mem_of_getElem? (i := 34) rfl))) (ty := .boolean) (by decide)
        have f36 : Fld Z h29 b29 "org/shardwright/model/ShardCopy" "state" "Lorg/shardwright/model/ShardCopy$State;" .null := D29 (Or.inr (hw _ (List.mem_of_getElem? (i := 36) rfl))) (ty := (.object "org/shardwright/model/ShardCopy$State")) (by decide)
        have f37 : Fld Z h29 b29 "org/shardwright/model/ShardCopy" "nodeId" "Ljava/lang/String;" .null := D29 (Or.inr (hw _ (List.mem_of_getElem? (i := 38) rfl))) (ty := (.object "java/lang/String")) (by decide)
        have f38 : Fld Z h29 b29 "org/shardwright/model/ShardCopy" "allocationId" "Ljava/lang/String;" .null := D29 (Or.inr (hw _ (List.mem_of_getElem? (i := 40) rfl))) (ty := (.object "java/lang/String")) (by decide)
        have f39 : Fld Z h29 b29 "org/shardwright/model/ShardCopy" "lastNodeId" "Ljava/lang/String;" .null := D29 (Or.inr (hw _ (List.mem_of_getElem? (i := 42) rfl))) (ty := (.object "java/lang/String")) (by decide)
        have f40 : Fld Z h29 b29 "org/shardwright/model/ShardCopy" "unassignedAtMillis" "J" (.long (0 : Int64)) := D29 (Or.inr (hw _ (List.mem_of_getElem? (i := 44) rfl))) (ty := .long) (by decide)
        have f41 : Fld Z h29 b29 "org/shardwright/model/ShardCopy" "replaces" "Ljava/lang/String;" .null := D29 (Or.inr (hw _ (List.mem_of_getElem? (i := 46) rfl))) (ty := (.object "java/lang/String")) (by decide)
        have f42 : Fld Z h29 b29 "org/shardwright/model/ShardCopy" "handsOverTo" "Ljava/lang/String;" .null := D29 (Or.inr (hw _ (List.mem_of_getElem? (i := 48) rfl))) (ty := (.object "java/lang/String")) (by decide)
        have go83 : Go p e below A0 (T29.setTop (mkF m 290 #[.val (.int p0), .val (.int p1), .val (.int p2), .val (.long q3), .second, .val (.int v1), .val (.int v2), .val (.int v3), .val (.ref uI), .val (.int (1 : Int32)), .val (.int v9), .val (.int (0 : Int32)), .val (.int (0 : Int32)), .val (.ref b26_b), .val (.ref b27_b), .val .null, .val (.long (0 : Int64)), .second, .val .null, .val .null, .unset] [.null, .null, (.long (0 : Int64)), .null, (.ref b27_b), (.ref b26_b), (.ref uI), (.int v2), (.int v1), (.ref b29), (.ref b29)])) := by
          intro t k
          refine go82 t ?_
          refine o_ifY X27 hx hby at_225 243 rfl (teq hc225_28).1 ?_
          refine o_aconstNull X27 hx hby at_243 244 rfl ?_
          refine o_astore X27 hx hby at_244 246 rfl rfl (l' := #[.val (.int p0), .val (.int p1), .val (.int p2), .val (.long q3), .second, .val (.int v1), .val (.int v2), .val (.int v3), .val (.ref uI), .val (.int (1 : Int32)), .val (.int v9), .val (.int (0 : Int32)), .val (.int (0 : Int32)), .val (.ref b26_b), .val (.ref b27_b), .val .null, .val (.long (0 : Int64)), .second, .val .null, .unset, .unset]) rfl ?_
          refine o_iload X27 hx hby at_246 248 rfl rfl ?_
          refine o_ifY X27 hx hby at_248 265 rfl (teq (show (0 : Int32) = (0 : Int32) by decide)).1 ?_
          refine o_aconstNull X27 hx hby at_265 266 rfl ?_
          refine o_astore X27 hx hby at_266 268 rfl rfl (l' := #[.val (.int p0), .val (.int p1), .val (.int p2), .val (.long q3), .second, .val (.int v1), .val (.int v2), .val (.int v3), .val (.ref uI), .val (.int (1 : Int32)), .val (.int v9), .val (.int (0 : Int32)), .val (.int (0 : Int32)), .val (.ref b26_b), .val (.ref b27_b), .val .null, .val (.long (0 : Int64)), .second, .val .null, .val .null, .unset]) rfl ?_
          refine st29 _ ?_
          show Steps p.tables e below (T29.setTop (mkF m 271 #[.val (.int p0), .val (.int p1), .val (.int p2), .val (.long q3), .second, .val (.int v1), .val (.int v2), .val (.int v3), .val (.ref uI), .val (.int (1 : Int32)), .val (.int v9), .val (.int (0 : Int32)), .val (.int (0 : Int32)), .val (.ref b26_b), .val (.ref b27_b), .val .null, .val (.long (0 : Int64)), .second, .val .null, .val .null, .unset] [(.ref b29)])) _
          refine o_dup X29 hx hby at_271 272 rfl rfl ?_
          refine o_iload X29 hx hby at_272 274 rfl rfl ?_
          refine o_iload X29 hx hby at_274 276 rfl rfl ?_
          refine o_aload X29 hx hby at_276 278 rfl rfl rfl ?_
          refine o_aload X29 hx hby at_278 280 rfl rfl rfl ?_
          refine o_aload X29 hx hby at_280 282 rfl rfl rfl ?_
          refine o_aload X29 hx hby at_282 284 rfl rfl rfl ?_
          refine o_lload X29 hx hby at_284 286 rfl rfl ?_
          refine o_aload X29 hx hby at_286 288 rfl rfl rfl ?_
          refine o_aload X29 hx hby at_288 290 rfl rfl rfl ?_
          exact k
        have f_nn_8 : ¬ v1 < 0 := pf0_nn_7 p0 p1 p2 q3 uA uS uI cs v1 v2 v3 v9 v10 v11 hv1 hv2 hv3 hv9 hv10 hv11 hc28_2 hc42_18 hc225_28
        obtain ⟨_, _, ⟨T30, L30, k30, n30⟩, -, X30, S30, gr30, ⟨Lc30, hQ30, l30, y30, z30⟩, st30⟩ := X29.specialBackS hx (y := (⟨"org/shardwright/model/ShardCopy", "<init>", "(IZLorg/shardwright/model/ShardCopy$State;Ljava/lang/String;Ljava/lang/String;Ljava/lang/String;JLjava/lang/String;Ljava/lang/String;)V"⟩ : MethodName)) rfl hown (mvT hZ (hw _ (List.mem_of_getElem? (i := 7) rfl))) (mvT hZ (hw _ (List.mem_of_getElem? (i := 8) rfl))) (mvT hZ (hw _ (List.mem_of_getElem? (i := 9) rfl))) (by decide) (backOfS (W := 1) (rm1C l Z aw hw [] b29 v1 v2 uI b26_b b27_b uA h29 n0 Zp29 (f33) (g_b29) (f34) (f35) (f36) (f37) (f38) (f39) (f40) (f41) (f42) (r0) (f32) ((by rw [hv2]; repeat' (first | exact Or.inl rfl | exact Or.inr rfl | split))) (f_nn_8) (r6)) hZ (hw _ (List.mem_of_getElem? (i := 9) rfl)) (hw _ (List.mem_of_getElem? (i := 6) rfl)) (by decide) (by decide)) (g := (mkF m 290 #[.val (.int p0), .val (.int p1), .val (.int p2), .val (.long q3), .second, .val (.int v1), .val (.int v2), .val (.int v3), .val (.ref uI), .val (.int (1 : Int32)), .val (.int v9), .val (.int (0 : Int32)), .val (.int (0 : Int32)), .val (.ref b26_b), .val (.ref b27_b), .val .null, .val (.long (0 : Int64)), .second, .val .null, .val .null, .unset] [.null, .null, (.long (0 : Int64)), .null, (.ref b27_b), (.ref b26_b), (.ref uI), (.int v2), (.int v1), (.ref b29), (.ref b29)])) rfl (by rw [hml]; rfl) (Steps.refl _) (a := b29) (argsL := [(.int v1), (.int v2), (.ref uI), (.ref b26_b), (.ref b27_b), .null, (.long (0 : Int64)), .null, .null]) (rest := [(.ref b29)]) (lenOf pd_11 rfl) rfl (by show 2 * 0 + _ ≤ _; exact Nat.le_of_eq rfl) (hb hby at_290) (fun _ _ => ⟨rfl, e29, (by decide : 5 + 2 ≤ _), (by decide : 19 + 24 ≤ _)⟩)
        dsimp only [Pt.U, Pt.locs, Pt.cells, Pt.slots] at X30 l30 y30 z30 st30 hQ30 S30 gr30
        subst l30 y30 z30
        have hZ30q := State.Warmed39.trans hZ S30.1
        have hown30q : (s.setVm T30.vm).vm.findClass "org/shardwright/model/ShardCopyMovedInPinLaw" = some m.cls := by rw [show (s.setVm T30.vm).vm = T30.vm from rfl, S30.1.alike.findClass]; exact hown
        clear hZ hown
        obtain ⟨hZ, hown⟩ := And.intro hZ30q hown30q
        obtain ⟨rfl, N30q, K30q, qf30_0, -⟩ := hQ30
        have f43 : Old Z n0 T30.heap := f32.keep K30q (allS g_b29 all0)
        have f44 : Exa Z T30.heap b29 "org/shardwright/model/ShardCopy" := f33.keep K30q
        have Zp30 : n0 ≤ T30.heap.size := Nat.le_trans Zp29 K30q.1
        have f45 : Fld Z T30.heap b29 "org/shardwright/model/ShardCopy" "replaces" "Ljava/lang/String;" .null := qf30_0
        have N30 := Fr.app N27 N30q
        obtain ⟨cq31, kq31, q31a, q31b, q31c⟩ := isOf hZ rfl f44
        obtain ⟨_, _, ⟨T31, L31, k31, n31⟩, -, X31, ⟨Lc31, hQ31, l31, y31, z31⟩, st31⟩ := X30.virtualBack hx (y := (⟨"org/shardwright/model/ShardCopy", "movedIn", "()Z"⟩ : MethodName)) (z := (⟨"org/shardwright/model/ShardCopy", "movedIn", "()Z"⟩ : MethodName)) hown (mvT hZ (hw _ (List.mem_of_getElem? (i := 49) rfl))) (mvT hZ (hw _ (List.mem_of_getElem? (i := 50) rfl))) (notFace_of_selects (args := #[]) (mvT hZ (hw _ (List.mem_of_getElem? (i := 52) rfl)))) (mvT hZ (hw _ (List.mem_of_getElem? (i := 52) rfl))) (mvT hZ (hw _ (List.mem_of_getElem? (i := 51) rfl))) (by decide) (backOf (W := 0) (rm5n l Z aw hw [] b29 T30.heap n0 Zp30 (f45)) hZ (hw _ (List.mem_of_getElem? (i := 53) rfl)) (hw _ (List.mem_of_getElem? (i := 6) rfl)) (by decide) (by decide)) q31a q31c (g := (mkF m 297 #[.val (.int p0), .val (.int p1), .val (.int p2), .val (.long q3), .second, .val (.int v1), .val (.int v2), .val (.int v3), .val (.ref uI), .val (.int (1 : Int32)), .val (.int v9), .val (.int (0 : Int32)), .val (.int (0 : Int32)), .val (.ref b26_b), .val (.ref b27_b), .val .null, .val (.long (0 : Int64)), .second, .val .null, .val .null, .val (.ref b29)] [(.ref b29)])) rfl (by rw [hml]; rfl) (Steps.refl _) (argsL := []) (rest := []) (lenOf pd_12 rfl) rfl (by show 2 * 0 + _ ≤ _; exact Nat.le_of_eq rfl) (hb hby at_297) (fun _ _ => ⟨rfl, rfl, (by decide : 7 + 0 ≤ _), (by decide : 43 + 0 ≤ _)⟩)
        dsimp only [Pt.U, Pt.locs, Pt.cells, Pt.slots] at X31 l31 y31 z31 st31 hQ31
        subst l31 y31 z31
        obtain ⟨rfl, N31q, e31⟩ := hQ31
        have N31 := Fr.app N30 N31q
        have go84 : Go p e below A0 (T31.setTop (mkF m 300 #[.val (.int p0), .val (.int p1), .val (.int p2), .val (.long q3), .second, .val (.int v1), .val (.int v2), .val (.int v3), .val (.ref uI), .val (.int (1 : Int32)), .val (.int v9), .val (.int (0 : Int32)), .val (.int (0 : Int32)), .val (.ref b26_b), .val (.ref b27_b), .val .null, .val (.long (0 : Int64)), .second, .val .null, .val .null, .val (.ref b29)] [(.int (0 : Int32))])) := by
          intro t k
          refine go83 t ?_
          refine st30.trans ?_
          show Steps p.tables e below (T30.setTop (mkF m 293 #[.val (.int p0), .val (.int p1), .val (.int p2), .val (.long q3), .second, .val (.int v1), .val (.int v2), .val (.int v3), .val (.ref uI), .val (.int (1 : Int32)), .val (.int v9), .val (.int (0 : Int32)), .val (.int (0 : Int32)), .val (.ref b26_b), .val (.ref b27_b), .val .null, .val (.long (0 : Int64)), .second, .val .null, .val .null, .unset] [(.ref b29)])) _
          refine o_astore X30 hx hby at_293 295 rfl rfl (l' := #[.val (.int p0), .val (.int p1), .val (.int p2), .val (.long q3), .second, .val (.int v1), .val (.int v2), .val (.int v3), .val (.ref uI), .val (.int (1 : Int32)), .val (.int v9), .val (.int (0 : Int32)), .val (.int (0 : Int32)), .val (.ref b26_b), .val (.ref b27_b), .val .null, .val (.long (0 : Int64)), .second, .val .null, .val .null, .val (.ref b29)]) rfl ?_
          refine o_aload X30 hx hby at_295 297 rfl rfl rfl ?_
          refine st31.trans ?_
          show Steps p.tables e below (T31.setTop (mkF m 300 #[.val (.int p0), .val (.int p1), .val (.int p2), .val (.long q3), .second, .val (.int v1), .val (.int v2), .val (.int v3), .val (.ref uI), .val (.int (1 : Int32)), .val (.int v9), .val (.int (0 : Int32)), .val (.int (0 : Int32)), .val (.ref b26_b), .val (.ref b27_b), .val .null, .val (.long (0 : Int64)), .second, .val .null, .val .null, .val (.ref b29)] [(.int (0 : Int32))])) _
          exact k
        have go85 : Go p e below A0 (T31.setTop (mkF m 302 #[.val (.int p0), .val (.int p1), .val (.int p2), .val (.long q3), .second, .val (.int v1), .val (.int v2), .val (.int v3), .val (.ref uI), .val (.int (1 : Int32)), .val (.int v9), .val (.int (0 : Int32)), .val (.int (0 : Int32)), .val (.ref b26_b), .val (.ref b27_b), .val .null, .val (.long (0 : Int64)), .second, .val .null, .val .null, .val (.ref b29)] [(.int v9), (.int (0 : Int32))])) := by
          intro t k
          refine go84 t ?_
          refine o_iload X31 hx hby at_300 302 rfl rfl ?_
          exact k
        obtain ⟨v12, hv12, go88⟩ : ∃ (v12 : Int32), v12 = (if (0 : Int32) = v9 then (1 : Int32) else (0 : Int32)) ∧ Go p e below A0 (T31.setTop (mkF m 310 #[.val (.int p0), .val (.int p1), .val (.int p2), .val (.long q3), .second, .val (.int v1), .val (.int v2), .val (.int v3), .val (.ref uI), .val (.int (1 : Int32)), .val (.int v9), .val (.int (0 : Int32)), .val (.int (0 : Int32)), .val (.ref b26_b), .val (.ref b27_b), .val .null, .val (.long (0 : Int64)), .second, .val .null, .val .null, .val (.ref b29)] [(.int v12)])) := by
          by_cases hc302_32 : (0 : Int32) = v9
          · have go86 : Go p e below A0 (T31.setTop (mkF m 310 #[.val (.int p0), .val (.int p1), .val (.int p2), .val (.long q3), .second, .val (.int v1), .val (.int v2), .val (.int v3), .val (.ref uI), .val (.int (1 : Int32)), .val (.int v9), .val (.int (0 : Int32)), .val (.int (0 : Int32)), .val (.ref b26_b), .val (.ref b27_b), .val .null, .val (.long (0 : Int64)), .second, .val .null, .val .null, .val (.ref b29)] [(.int (1 : Int32))])) := by
              intro t k
              refine go85 t ?_
              refine o_icmpN X31 hx hby at_302 305 rfl (teq hc302_32).2 ?_
              refine o_iconst X31 hx hby at_305 306 rfl (v := (1 : Int32)) rfl ?_
              refine o_goto X31 hx hby at_306 310 rfl ?_
              exact k
            exact ⟨(1 : Int32), (if_pos hc302_32).symm, go86⟩
          · have go87 : Go p e below A0 (T31.setTop (mkF m 310 #[.val (.int p0), .val (.int p1), .val (.int p2), .val (.long q3), .second, .val (.int v1), .val (.int v2), .val (.int v3), .val (.ref uI), .val (.int (1 : Int32)), .val (.int v9), .val (.int (0 : Int32)), .val (.int (0 : Int32)), .val (.ref b26_b), .val (.ref b27_b), .val .null, .val (.long (0 : Int64)), .second, .val .null, .val .null, .val (.ref b29)] [(.int (0 : Int32))])) := by
              intro t k
              refine go85 t ?_
              refine o_icmpY X31 hx hby at_302 309 rfl (feq hc302_32).2 ?_
              refine o_iconst X31 hx hby at_309 310 rfl (v := (0 : Int32)) rfl ?_
              exact k
            exact ⟨(0 : Int32), (if_neg hc302_32).symm, go87⟩
        obtain rfl : v12 = (1 : Int32) := pl_0_2 p0 p1 p2 q3 uA uS uI cs v1 v2 v3 v9 v10 v11 v12 hv1 hv2 hv3 hv9 hv10 hv11 hv12 hc28_2 hc42_18 hc225_28
        subst hA0
        obtain ⟨fs, hr, hrun, hended, hRW⟩ := X31.leaveW (s := s) S30 (by rw [e31]; exact (Nat.le_refl _)) (v := some (.int (1 : Int32))) (fun h => by rw [Bd.returns] at h; cases h)
        refine ⟨_, _, go88 _ (o_retZ X31 hx Bd.returns (hb hby at_310) (Or.inr rfl) hr), hrun, hended, _, _, rfl, ?_, hRW.1, hRW.2.1, hRW.2.2.1, hRW.2.2.2.mono (by decide) (by decide)⟩
        show Q0 Z p0 p1 p2 q3 uA uS uI cs h0 n0 _ T31.heap _
        rw [e31]
        exact ⟨rfl, N31⟩
      · have go89 : Go p e below A0 (T27.setTop (mkF m 237 #[.val (.int p0), .val (.int p1), .val (.int p2), .val (.long q3), .second, .val (.int v1), .val (.int v2), .val (.int v3), .val (.ref uI), .val (.int (1 : Int32)), .val (.int v9), .val (.int (0 : Int32)), .val (.int (0 : Int32)), .val (.ref b26_b), .val (.ref b27_b), .val .null, .val (.long (0 : Int64)), .second, .unset, .unset, .unset] [(.int ((((p2.toUInt32 >>> ((24 : Int32) &&& 31).toUInt32).toInt32) &&& (255 : Int32)).toUInt32.toUInt16.toUInt32.toInt32))])) := by
          intro t k
          refine go82 t ?_
          refine o_ifN X27 hx hby at_225 228 rfl (feq hc225_28).1 ?_
          refine o_iloadN X27 hx hby at_228 229 rfl rfl ?_
          refine o_bipush X27 hx hby at_229 231 rfl (v := (24 : Int32)) rfl ?_
          refine o_iushr X27 hx hby at_231 232 rfl ?_
          refine o_sipush X27 hx hby at_232 235 rfl (v := (255 : Int32)) rfl ?_
          refine o_iand X27 hx hby at_235 236 rfl ?_
          refine o_i2c X27 hx hby at_236 237 rfl ?_
          exact k
        obtain ⟨v13, hv13, go90⟩ : ∃ v13 : Int32, v13 = ((((p2.toUInt32 >>> ((24 : Int32) &&& 31).toUInt32).toInt32) &&& (255 : Int32)).toUInt32.toUInt16.toUInt32.toInt32) ∧ Go p e below A0 (T27.setTop (mkF m 237 #[.val (.int p0), .val (.int p1), .val (.int p2), .val (.long q3), .second, .val (.int v1), .val (.int v2), .val (.int v3), .val (.ref uI), .val (.int (1 : Int32)), .val (.int v9), .val (.int (0 : Int32)), .val (.int (0 : Int32)), .val (.ref b26_b), .val (.ref b27_b), .val .null, .val (.long (0 : Int64)), .second, .unset, .unset, .unset] [(.int v13)])) := ⟨_, rfl, go89⟩
        have f_c255_10 : ¬ (255 : Int32) < v13 := pf0_c255_9 p0 p1 p2 q3 uA uS uI cs v1 v2 v3 v9 v10 v11 v13 hv1 hv2 hv3 hv9 hv10 hv11 hv13 hc28_2 hc42_18 hc225_28
        obtain ⟨_, _, ⟨T33, L33, k33, n33⟩, -, X33, ⟨Lc33, hQ33, l33, y33, z33⟩, st33⟩ := Jvm.LawKit.callS X27 hx (y := (⟨"java/lang/String", "valueOf", "(C)Ljava/lang/String;"⟩ : MethodName)) hown (mvT hZ (hw _ (List.mem_of_getElem? (i := 56) rfl))) (mvT hZ (hw _ (List.mem_of_getElem? (i := 57) rfl))) (mvT hZ (hw _ (List.mem_of_getElem? (i := 19) rfl))) (mvT hZ (hw _ (List.mem_of_getElem? (i := 58) rfl))) (by decide) (backOf (W := 0) (rm6 l Z aw hw [] v13 cs T27.heap n0 Zp27 (r3) (f31) (hcs) (f_c255_10)) hZ (hw _ (List.mem_of_getElem? (i := 58) rfl)) (hw _ (List.mem_of_getElem? (i := 19) rfl)) (by decide) (by decide)) (g := (mkF m 237 #[.val (.int p0), .val (.int p1), .val (.int p2), .val (.long q3), .second, .val (.int v1), .val (.int v2), .val (.int v3), .val (.ref uI), .val (.int (1 : Int32)), .val (.int v9), .val (.int (0 : Int32)), .val (.int (0 : Int32)), .val (.ref b26_b), .val (.ref b27_b), .val .null, .val (.long (0 : Int64)), .second, .unset, .unset, .unset] [(.int v13)])) rfl (by rw [hml]; rfl) (argsL := [(.int v13)]) (rest := []) (lenOf pd_13 rfl) rfl (by show 2 * 0 + _ ≤ _; exact Nat.le_of_eq rfl) (hb hby at_237) (fun _ _ => ⟨rfl, rfl, (by decide : 4 + 2 ≤ _), (by decide : 10 + 5 ≤ _)⟩)
        dsimp only [Pt.U, Pt.locs, Pt.cells, Pt.slots] at X33 l33 y33 z33 st33 hQ33
        subst l33 y33 z33
        obtain ⟨b33_b, rfl, N33q, K33q, sz_b33_bq, -⟩ := hQ33
        have g_b33_b : n0 ≤ b33_b := Nat.le_trans Zp27 sz_b33_bq
        have f46 : Old Z n0 T33.heap := f31.keep K33q all0
        have Zp33 : n0 ≤ T33.heap.size := Nat.le_trans Zp27 K33q.1
        have N33 := Fr.app N27 N33q
        have go91 : Go p e below A0 (T33.setTop (mkF m 240 #[.val (.int p0), .val (.int p1), .val (.int p2), .val (.long q3), .second, .val (.int v1), .val (.int v2), .val (.int v3), .val (.ref uI), .val (.int (1 : Int32)), .val (.int v9), .val (.int (0 : Int32)), .val (.int (0 : Int32)), .val (.ref b26_b), .val (.ref b27_b), .val .null, .val (.long (0 : Int64)), .second, .unset, .unset, .unset] [(.ref b33_b)])) := by
          intro t k
          refine go90 t ?_
          refine st33 _ ?_
          show Steps p.tables e below (T33.setTop (mkF m 240 #[.val (.int p0), .val (.int p1), .val (.int p2), .val (.long q3), .second, .val (.int v1), .val (.int v2), .val (.int v3), .val (.ref uI), .val (.int (1 : Int32)), .val (.int v9), .val (.int (0 : Int32)), .val (.int (0 : Int32)), .val (.ref b26_b), .val (.ref b27_b), .val .null, .val (.long (0 : Int64)), .second, .unset, .unset, .unset] [(.ref b33_b)])) _
          exact k
        obtain ⟨T34, h34, X34, e34, E34, A34, D34, -, st34⟩ := newO X33 hx hZ hown (hw _ (List.mem_of_getElem? (i := 4) rfl)) (hw _ (List.mem_of_getElem? (i := 5) rfl)) (hw _ (List.mem_of_getElem? (i := 6) rfl)) rfl (g := (mkF m 268 #[.val (.int p0), .val (.int p1), .val (.int p2), .val (.long q3), .second, .val (.int v1), .val (.int v2), .val (.int v3), .val (.ref uI), .val (.int (1 : Int32)), .val (.int v9), .val (.int (0 : Int32)), .val (.int (0 : Int32)), .val (.ref b26_b), .val (.ref b27_b), .val .null, .val (.long (0 : Int64)), .second, .val (.ref b33_b), .val .null, .unset] [])) rfl (hb hby at_268) (by decide) (by decide)
        obtain ⟨b34, g34⟩ : ∃ z, z = T33.heap.size := ⟨_, rfl⟩
        rw [← g34] at A34 D34 st34
        have g_b34 : n0 ≤ b34 := Nat.le_trans Zp33 (Nat.le_of_eq g34.symm)
        have f47 : Old Z n0 h34 := f46.ext E34
        have Zp34 : n0 ≤ h34.size := Nat.le_trans Zp33 E34.1
        have f48 : Exa Z h34 b34 "org/shardwright/model/ShardCopy" := A34
        have f49 : Fld Z h34 b34 "org/shardwright/model/ShardCopy" "shard" "I" (.int (0 : Int32)) := D34 (Or.inr (hw _ (List.mem_of_getElem? (i := 32) rfl))) (ty := .int) (by decide)
        have f50 : Fld Z h34 b34 "org/shardwright/model/ShardCopy" "primary" "Z" (.int (0 : Int32)) := D34 (Or.inr (hw _ (List.mem_of_getElem? (i := 34) rfl))) (ty := .boolean) (by decide)
        have f51 : Fld Z h34 b34 "org/shardwright/model/ShardCopy" "state" "Lorg/shardwright/model/ShardCopy$State;" .null := D34 (Or.inr (hw _ (List.mem_of_getElem? (i := 36) rfl))) (ty := (.object "org/shardwright/model/ShardCopy$State")) (by decide)
        have f52 : Fld Z h34 b34 "org/shardwright/model/ShardCopy" "nodeId" "Ljava/lang/String;" .null := D34 (Or.inr (hw _ (List.mem_of_getElem? (i := 38) rfl))) (ty := (.object "java/lang/String")) (by decide)
        have f53 : Fld Z h34 b34 "org/shardwright/model/ShardCopy" "allocationId" "Ljava/lang/String;" .null := D34 (Or.inr (hw _ (List.mem_of_getElem? (i := 40) rfl))) (ty := (.object "java/lang/String")) (by decide)
        have f54 : Fld Z h34 b34 "org/shardwright/model/ShardCopy" "lastNodeId" "Ljava/lang/String;" .null := D34 (Or.inr (hw _ (List.mem_of_getElem? (i := 42) rfl))) (ty := (.object "java/lang/String")) (by decide)
        have f55 : Fld Z h34 b34 "org/shardwright/model/ShardCopy" "unassignedAtMillis" "J" (.long (0 : Int64)) := D34 (Or.inr (hw _ (List.mem_of_getElem? (i := 44) rfl))) (ty := .long) (by decide)
        have f56 : Fld Z h34 b34 "org/shardwright/model/ShardCopy" "replaces" "Ljava/lang/String;" .null := D34 (Or.inr (hw _ (List.mem_of_getElem? (i := 46) rfl))) (ty := (.object "java/lang/String")) (by decide)
        have f57 : Fld Z h34 b34 "org/shardwright/model/ShardCopy" "handsOverTo" "Ljava/lang/String;" .null := D34 (Or.inr (hw _ (List.mem_of_getElem? (i := 48) rfl))) (ty := (.object "java/lang/String")) (by decide)
        have go92 : Go p e below A0 (T34.setTop (mkF m 290 #[.val (.int p0), .val (.int p1), .val (.int p2), .val (.long q3), .second, .val (.int v1), .val (.int v2), .val (.int v3), .val (.ref uI), .val (.int (1 : Int32)), .val (.int v9), .val (.int (0 : Int32)), .val (.int (0 : Int32)), .val (.ref b26_b), .val (.ref b27_b), .val .null, .val (.long (0 : Int64)), .second, .val (.ref b33_b), .val .null, .unset] [.null, (.ref b33_b), (.long (0 : Int64)), .null, (.ref b27_b), (.ref b26_b), (.ref uI), (.int v2), (.int v1), (.ref b34), (.ref b34)])) := by
          intro t k
          refine go91 t ?_
          refine o_goto X33 hx hby at_240 244 rfl ?_
          refine o_astore X33 hx hby at_244 246 rfl rfl (l' := #[.val (.int p0), .val (.int p1), .val (.int p2), .val (.long q3), .second, .val (.int v1), .val (.int v2), .val (.int v3), .val (.ref uI), .val (.int (1 : Int32)), .val (.int v9), .val (.int (0 : Int32)), .val (.int (0 : Int32)), .val (.ref b26_b), .val (.ref b27_b), .val .null, .val (.long (0 : Int64)), .second, .val (.ref b33_b), .unset, .unset]) rfl ?_
          refine o_iload X33 hx hby at_246 248 rfl rfl ?_
          refine o_ifY X33 hx hby at_248 265 rfl (teq (show (0 : Int32) = (0 : Int32) by decide)).1 ?_
          refine o_aconstNull X33 hx hby at_265 266 rfl ?_
          refine o_astore X33 hx hby at_266 268 rfl rfl (l' := #[.val (.int p0), .val (.int p1), .val (.int p2), .val (.long q3), .second, .val (.int v1), .val (.int v2), .val (.int v3), .val (.ref uI), .val (.int (1 : Int32)), .val (.int v9), .val (.int (0 : Int32)), .val (.int (0 : Int32)), .val (.ref b26_b), .val (.ref b27_b), .val .null, .val (.long (0 : Int64)), .second, .val (.ref b33_b), .val .null, .unset]) rfl ?_
          refine st34 _ ?_
          show Steps p.tables e below (T34.setTop (mkF m 271 #[.val (.int p0), .val (.int p1), .val (.int p2), .val (.long q3), .second, .val (.int v1), .val (.int v2), .val (.int v3), .val (.ref uI), .val (.int (1 : Int32)), .val (.int v9), .val (.int (0 : Int32)), .val (.int (0 : Int32)), .val (.ref b26_b), .val (.ref b27_b), .val .null, .val (.long (0 : Int64)), .second, .val (.ref b33_b), .val .null, .unset] [(.ref b34)])) _
          refine o_dup X34 hx hby at_271 272 rfl rfl ?_
          refine o_iload X34 hx hby at_272 274 rfl rfl ?_
          refine o_iload X34 hx hby at_274 276 rfl rfl ?_
          refine o_aload X34 hx hby at_276 278 rfl rfl rfl ?_
          refine o_aload X34 hx hby at_278 280 rfl rfl rfl ?_
          refine o_aload X34 hx hby at_280 282 rfl rfl rfl ?_
          refine o_aload X34 hx hby at_282 284 rfl rfl rfl ?_
          refine o_lload X34 hx hby at_284 286 rfl rfl ?_
          refine o_aload X34 hx hby at_286 288 rfl rfl rfl ?_
          refine o_aload X34 hx hby at_288 290 rfl rfl rfl ?_
          exact k
        have f_nn_11 : ¬ v1 < 0 := pf0_nn_10 p0 p1 p2 q3 uA uS uI cs v1 v2 v3 v9 v10 v11 v13 hv1 hv2 hv3 hv9 hv10 hv11 hv13 hc28_2 hc42_18 hc225_28
        have f_p2z_12 : v2 = 0 := pf0_p2z_11 p0 p1 p2 q3 uA uS uI cs v1 v2 v3 v9 v10 v11 v13 hv1 hv2 hv3 hv9 hv10 hv11 hv13 hc28_2 hc42_18 hc225_28
        obtain ⟨_, _, ⟨T35, L35, k35, n35⟩, -, X35, S35, gr35, ⟨Lc35, hQ35, l35, y35, z35⟩, st35⟩ := X34.specialBackS hx (y := (⟨"org/shardwright/model/ShardCopy", "<init>", "(IZLorg/shardwright/model/ShardCopy$State;Ljava/lang/String;Ljava/lang/String;Ljava/lang/String;JLjava/lang/String;Ljava/lang/String;)V"⟩ : MethodName)) rfl hown (mvT hZ (hw _ (List.mem_of_getElem? (i := 7) rfl))) (mvT hZ (hw _ (List.mem_of_getElem? (i := 8) rfl))) (mvT hZ (hw _ (List.mem_of_getElem? (i := 9) rfl))) (by decide) (backOfS (W := 1) (rm1D l Z aw hw [] b34 v1 v2 uI b26_b b27_b b33_b uA h34 n0 Zp34 (f48) (g_b34) (f49) (f50) (f51) (f52) (f53) (f54) (f55) (f56) (f57) (r0) (f47) ((by rw [hv2]; repeat' (first | exact Or.inl rfl | exact Or.inr rfl | split))) (f_nn_11) (r6) (f_p2z_12)) hZ (hw _ (List.mem_of_getElem? (i := 9) rfl)) (hw _ (List.mem_of_getElem? (i := 6) rfl)) (by decide) (by decide)) (g := (mkF m 290 #[.val (.int p0), .val (.int p1), .val (.int p2), .val (.long q3), .second, .val (.int v1), .val (.int v2), .val (.int v3), .val (.ref uI), .val (.int (1 : Int32)), .val (.int v9), .val (.int (0 : Int32)), .val (.int (0 : Int32)), .val (.ref b26_b), .val (.ref b27_b), .val .null, .val (.long (0 : Int64)), .second, .val (.ref b33_b), .val .null, .unset] [.null, (.ref b33_b), (.long (0 : Int64)), .null, (.ref b27_b), (.ref b26_b), (.ref uI), (.int v2), (.int v1), (.ref b34), (.ref b34)])) rfl (by rw [hml]; rfl) (Steps.refl _) (a := b34) (argsL := [(.int v1), (.int v2), (.ref uI), (.ref b26_b), (.ref b27_b), .null, (.long (0 : Int64)), (.ref b33_b), .null]) (rest := [(.ref b34)]) (lenOf pd_11 rfl) rfl (by show 2 * 0 + _ ≤ _; exact Nat.le_of_eq rfl) (hb hby at_290) (fun _ _ => ⟨rfl, e34, (by decide : 7 + 2 ≤ _), (by decide : 24 + 24 ≤ _)⟩)
        dsimp only [Pt.U, Pt.locs, Pt.cells, Pt.slots] at X35 l35 y35 z35 st35 hQ35 S35 gr35
        subst l35 y35 z35
        have hZ35q := State.Warmed39.trans hZ S35.1
        have hown35q : (s.setVm T35.vm).vm.findClass "org/shardwright/model/ShardCopyMovedInPinLaw" = some m.cls := by rw [show (s.setVm T35.vm).vm = T35.vm from rfl, S35.1.alike.findClass]; exact hown
        clear hZ hown
        obtain ⟨hZ, hown⟩ := And.intro hZ35q hown35q
        obtain ⟨rfl, N35q, K35q, qf35_0, -⟩ := hQ35
        have f58 : Old Z n0 T35.heap := f47.keep K35q (allS g_b34 all0)
        have f59 : Exa Z T35.heap b34 "org/shardwright/model/ShardCopy" := f48.keep K35q
        have Zp35 : n0 ≤ T35.heap.size := Nat.le_trans Zp34 K35q.1
        have f60 : Fld Z T35.heap b34 "org/shardwright/model/ShardCopy" "replaces" "Ljava/lang/String;" (.ref b33_b) := qf35_0
        have N35 := Fr.app N33 N35q
        obtain ⟨cq36, kq36, q36a, q36b, q36c⟩ := isOf hZ rfl f59
        obtain ⟨_, _, ⟨T36, L36, k36, n36⟩, -, X36, ⟨Lc36, hQ36, l36, y36, z36⟩, st36⟩ := X35.virtualBack hx (y := (⟨"org/shardwright/model/ShardCopy", "movedIn", "()Z"⟩ : MethodName)) (z := (⟨"org/shardwright/model/ShardCopy", "movedIn", "()Z"⟩ : MethodName)) hown (mvT hZ (hw _ (List.mem_of_getElem? (i := 49) rfl))) (mvT hZ (hw _ (List.mem_of_getElem? (i := 50) rfl))) (notFace_of_selects (args := #[]) (mvT hZ (hw _ (List.mem_of_getElem? (i := 52) rfl)))) (mvT hZ (hw _ (List.mem_of_getElem? (i := 52) rfl))) (mvT hZ (hw _ (List.mem_of_getElem? (i := 51) rfl))) (by decide) (backOf (W := 0) (rm5r l Z aw hw [] b34 b33_b T35.heap n0 Zp35 (f60)) hZ (hw _ (List.mem_of_getElem? (i := 53) rfl)) (hw _ (List.mem_of_getElem? (i := 6) rfl)) (by decide) (by decide)) q36a q36c (g := (mkF m 297 #[.val (.int p0), .val (.int p1), .val (.int p2), .val (.long q3), .second, .val (.int v1), .val (.int v2), .val (.int v3), .val (.ref uI), .val (.int (1 : Int32)), .val (.int v9), .val (.int (0 : Int32)), .val (.int (0 : Int32)), .val (.ref b26_b), .val (.ref b27_b), .val .null, .val (.long (0 : Int64)), .second, .val (.ref b33_b), .val .null, .val (.ref b34)] [(.ref b34)])) rfl (by rw [hml]; rfl) (Steps.refl _) (argsL := []) (rest := []) (lenOf pd_12 rfl) rfl (by show 2 * 0 + _ ≤ _; exact Nat.le_of_eq rfl) (hb hby at_297) (fun _ _ => ⟨rfl, rfl, (by decide : 9 + 0 ≤ _), (by decide : 48 + 0 ≤ _)⟩)
        dsimp only [Pt.U, Pt.locs, Pt.cells, Pt.slots] at X36 l36 y36 z36 st36 hQ36
        subst l36 y36 z36
        obtain ⟨rfl, N36q, e36⟩ := hQ36
        have N36 := Fr.app N35 N36q
        have go93 : Go p e below A0 (T36.setTop (mkF m 300 #[.val (.int p0), .val (.int p1), .val (.int p2), .val (.long q3), .second, .val (.int v1), .val (.int v2), .val (.int v3), .val (.ref uI), .val (.int (1 : Int32)), .val (.int v9), .val (.int (0 : Int32)), .val (.int (0 : Int32)), .val (.ref b26_b), .val (.ref b27_b), .val .null, .val (.long (0 : Int64)), .second, .val (.ref b33_b), .val .null, .val (.ref b34)] [(.int (1 : Int32))])) := by
          intro t k
          refine go92 t ?_
          refine st35.trans ?_
          show Steps p.tables e below (T35.setTop (mkF m 293 #[.val (.int p0), .val (.int p1), .val (.int p2), .val (.long q3), .second, .val (.int v1), .val (.int v2), .val (.int v3), .val (.ref uI), .val (.int (1 : Int32)), .val (.int v9), .val (.int (0 : Int32)), .val (.int (0 : Int32)), .val (.ref b26_b), .val (.ref b27_b), .val .null, .val (.long (0 : Int64)), .second, .val (.ref b33_b), .val .null, .unset] [(.ref b34)])) _
          refine o_astore X35 hx hby at_293 295 rfl rfl (l' := #[.val (.int p0), .val (.int p1), .val (.int p2), .val (.long q3), .second, .val (.int v1), .val (.int v2), .val (.int v3), .val (.ref uI), .val (.int (1 : Int32)), .val (.int v9), .val (.int (0 : Int32)), .val (.int (0 : Int32)), .val (.ref b26_b), .val (.ref b27_b), .val .null, .val (.long (0 : Int64)), .second, .val (.ref b33_b), .val .null, .val (.ref b34)]) rfl ?_
          refine o_aload X35 hx hby at_295 297 rfl rfl rfl ?_
          refine st36.trans ?_
          show Steps p.tables e below (T36.setTop (mkF m 300 #[.val (.int p0), .val (.int p1), .val (.int p2), .val (.long q3), .second, .val (.int v1), .val (.int v2), .val (.int v3), .val (.ref uI), .val (.int (1 : Int32)), .val (.int v9), .val (.int (0 : Int32)), .val (.int (0 : Int32)), .val (.ref b26_b), .val (.ref b27_b), .val .null, .val (.long (0 : Int64)), .second, .val (.ref b33_b), .val .null, .val (.ref b34)] [(.int (1 : Int32))])) _
          exact k
        have go94 : Go p e below A0 (T36.setTop (mkF m 302 #[.val (.int p0), .val (.int p1), .val (.int p2), .val (.long q3), .second, .val (.int v1), .val (.int v2), .val (.int v3), .val (.ref uI), .val (.int (1 : Int32)), .val (.int v9), .val (.int (0 : Int32)), .val (.int (0 : Int32)), .val (.ref b26_b), .val (.ref b27_b), .val .null, .val (.long (0 : Int64)), .second, .val (.ref b33_b), .val .null, .val (.ref b34)] [(.int v9), (.int (1 : Int32))])) := by
          intro t k
          refine go93 t ?_
          refine o_iload X36 hx hby at_300 302 rfl rfl ?_
          exact k
        obtain ⟨v14, hv14, go97⟩ : ∃ (v14 : Int32), v14 = (if (1 : Int32) = v9 then (1 : Int32) else (0 : Int32)) ∧ Go p e below A0 (T36.setTop (mkF m 310 #[.val (.int p0), .val (.int p1), .val (.int p2), .val (.long q3), .second, .val (.int v1), .val (.int v2), .val (.int v3), .val (.ref uI), .val (.int (1 : Int32)), .val (.int v9), .val (.int (0 : Int32)), .val (.int (0 : Int32)), .val (.ref b26_b), .val (.ref b27_b), .val .null, .val (.long (0 : Int64)), .second, .val (.ref b33_b), .val .null, .val (.ref b34)] [(.int v14)])) := by
          by_cases hc302_37 : (1 : Int32) = v9
          · have go95 : Go p e below A0 (T36.setTop (mkF m 310 #[.val (.int p0), .val (.int p1), .val (.int p2), .val (.long q3), .second, .val (.int v1), .val (.int v2), .val (.int v3), .val (.ref uI), .val (.int (1 : Int32)), .val (.int v9), .val (.int (0 : Int32)), .val (.int (0 : Int32)), .val (.ref b26_b), .val (.ref b27_b), .val .null, .val (.long (0 : Int64)), .second, .val (.ref b33_b), .val .null, .val (.ref b34)] [(.int (1 : Int32))])) := by
              intro t k
              refine go94 t ?_
              refine o_icmpN X36 hx hby at_302 305 rfl (teq hc302_37).2 ?_
              refine o_iconst X36 hx hby at_305 306 rfl (v := (1 : Int32)) rfl ?_
              refine o_goto X36 hx hby at_306 310 rfl ?_
              exact k
            exact ⟨(1 : Int32), (if_pos hc302_37).symm, go95⟩
          · have go96 : Go p e below A0 (T36.setTop (mkF m 310 #[.val (.int p0), .val (.int p1), .val (.int p2), .val (.long q3), .second, .val (.int v1), .val (.int v2), .val (.int v3), .val (.ref uI), .val (.int (1 : Int32)), .val (.int v9), .val (.int (0 : Int32)), .val (.int (0 : Int32)), .val (.ref b26_b), .val (.ref b27_b), .val .null, .val (.long (0 : Int64)), .second, .val (.ref b33_b), .val .null, .val (.ref b34)] [(.int (0 : Int32))])) := by
              intro t k
              refine go94 t ?_
              refine o_icmpY X36 hx hby at_302 309 rfl (feq hc302_37).2 ?_
              refine o_iconst X36 hx hby at_309 310 rfl (v := (0 : Int32)) rfl ?_
              exact k
            exact ⟨(0 : Int32), (if_neg hc302_37).symm, go96⟩
        obtain rfl : v14 = (1 : Int32) := pl_0_3 p0 p1 p2 q3 uA uS uI cs v1 v2 v3 v9 v10 v11 v13 v14 hv1 hv2 hv3 hv9 hv10 hv11 hv13 hv14 hc28_2 hc42_18 hc225_28
        subst hA0
        obtain ⟨fs, hr, hrun, hended, hRW⟩ := X36.leaveW (s := s) S35 (by rw [e36]; exact (Nat.le_refl _)) (v := some (.int (1 : Int32))) (fun h => by rw [Bd.returns] at h; cases h)
        refine ⟨_, _, go97 _ (o_retZ X36 hx Bd.returns (hb hby at_310) (Or.inr rfl) hr), hrun, hended, _, _, rfl, ?_, hRW.1, hRW.2.1, hRW.2.2.1, hRW.2.2.2.mono (by decide) (by decide)⟩
        show Q0 Z p0 p1 p2 q3 uA uS uI cs h0 n0 _ T36.heap _
        rw [e36]
        exact ⟨rfl, N36⟩
    · obtain ⟨T38, X38, e38, st38⟩ := getS2 X0 hx hZ hown (host := "") (Or.inl (hw _ (List.mem_of_getElem? (i := 54) rfl))) Via.refl e0 (r1.ext r4.2) (g := (mkF m 53 #[.val (.int p0), .val (.int p1), .val (.int p2), .val (.long q3), .second, .val (.int v1), .val (.int v2), .val (.int v3), .unset, .unset, .unset, .unset, .unset, .unset, .unset, .unset, .unset, .unset, .unset, .unset, .unset] [])) rfl (hb hby at_53)
      have go98 : Go p e below A0 (T38.setTop (mkF m 70 #[.val (.int p0), .val (.int p1), .val (.int p2), .val (.long q3), .second, .val (.int v1), .val (.int v2), .val (.int v3), .val (.ref uS), .val (.int (1 : Int32)), .unset, .unset, .unset, .unset, .unset, .unset, .unset, .unset, .unset, .unset, .unset] [])) := by
        intro t k
        refine go49 t ?_
        refine o_icmpY X0 hx hby at_42 53 rfl (feq hc42_18).2 ?_
        refine st38 _ ?_
        show Steps p.tables e below (T38.setTop (mkF m 56 #[.val (.int p0), .val (.int p1), .val (.int p2), .val (.long q3), .second, .val (.int v1), .val (.int v2), .val (.int v3), .unset, .unset, .unset, .unset, .unset, .unset, .unset, .unset, .unset, .unset, .unset, .unset, .unset] [(.ref uS)])) _
        refine o_astore X38 hx hby at_56 58 rfl rfl (l' := #[.val (.int p0), .val (.int p1), .val (.int p2), .val (.long q3), .second, .val (.int v1), .val (.int v2), .val (.int v3), .val (.ref uS), .unset, .unset, .unset, .unset, .unset, .unset, .unset, .unset, .unset, .unset, .unset, .unset]) rfl ?_
        refine o_iload X38 hx hby at_58 60 rfl rfl ?_
        refine o_ifN X38 hx hby at_60 63 rfl (feq hc28_2).1 ?_
        refine o_iconst X38 hx hby at_63 64 rfl (v := (1 : Int32)) rfl ?_
        refine o_goto X38 hx hby at_64 68 rfl ?_
        refine o_istore X38 hx hby at_68 70 rfl (l' := #[.val (.int p0), .val (.int p1), .val (.int p2), .val (.long q3), .second, .val (.int v1), .val (.int v2), .val (.int v3), .val (.ref uS), .val (.int (1 : Int32)), .unset, .unset, .unset, .unset, .unset, .unset, .unset, .unset, .unset, .unset, .unset]) rfl ?_
        exact k
      have go99 : Go p e below A0 (T38.setTop (mkF m 73 #[.val (.int p0), .val (.int p1), .val (.int p2), .val (.long q3), .second, .val (.int v1), .val (.int v2), .val (.int v3), .val (.ref uS), .val (.int (1 : Int32)), .unset, .unset, .unset, .unset, .unset, .unset, .unset, .unset, .unset, .unset, .unset] [(.int (p1 &&& (2 : Int32)))])) := by
        intro t k
        refine go98 t ?_
        refine o_iloadN X38 hx hby at_70 71 rfl rfl ?_
        refine o_iconst X38 hx hby at_71 72 rfl (v := (2 : Int32)) rfl ?_
        refine o_iand X38 hx hby at_72 73 rfl ?_
        exact k
      obtain ⟨v16, hv16, go105⟩ : ∃ (v16 : Int32), v16 = (if (p1 &&& (2 : Int32)) = (0 : Int32) then (0 : Int32) else (if v2 = (0 : Int32) then (1 : Int32) else (0 : Int32))) ∧ Go p e below A0 (T38.setTop (mkF m 91 #[.val (.int p0), .val (.int p1), .val (.int p2), .val (.long q3), .second, .val (.int v1), .val (.int v2), .val (.int v3), .val (.ref uS), .val (.int (1 : Int32)), .unset, .unset, .unset, .unset, .unset, .unset, .unset, .unset, .unset, .unset, .unset] [(.int v16)])) := by
        by_cases hc73_39 : (p1 &&& (2 : Int32)) = (0 : Int32)
        · have go100 : Go p e below A0 (T38.setTop (mkF m 91 #[.val (.int p0), .val (.int p1), .val (.int p2), .val (.long q3), .second, .val (.int v1), .val (.int v2), .val (.int v3), .val (.ref uS), .val (.int (1 : Int32)), .unset, .unset, .unset, .unset, .unset, .unset, .unset, .unset, .unset, .unset, .unset] [(.int (0 : Int32))])) := by
            intro t k
            refine go99 t ?_
            refine o_ifY X38 hx hby at_73 90 rfl (teq hc73_39).1 ?_
            refine o_iconst X38 hx hby at_90 91 rfl (v := (0 : Int32)) rfl ?_
            exact k
          exact ⟨(0 : Int32), (if_pos hc73_39).symm, go100⟩
        · have go101 : Go p e below A0 (T38.setTop (mkF m 78 #[.val (.int p0), .val (.int p1), .val (.int p2), .val (.long q3), .second, .val (.int v1), .val (.int v2), .val (.int v3), .val (.ref uS), .val (.int (1 : Int32)), .unset, .unset, .unset, .unset, .unset, .unset, .unset, .unset, .unset, .unset, .unset] [(.int v2)])) := by
            intro t k
            refine go99 t ?_
            refine o_ifN X38 hx hby at_73 76 rfl (feq hc73_39).1 ?_
            refine o_iload X38 hx hby at_76 78 rfl rfl ?_
            exact k
          obtain ⟨v15, hv15, go104⟩ : ∃ (v15 : Int32), v15 = (if v2 = (0 : Int32) then (1 : Int32) else (0 : Int32)) ∧ Go p e below A0 (T38.setTop (mkF m 91 #[.val (.int p0), .val (.int p1), .val (.int p2), .val (.long q3), .second, .val (.int v1), .val (.int v2), .val (.int v3), .val (.ref uS), .val (.int (1 : Int32)), .unset, .unset, .unset, .unset, .unset, .unset, .unset, .unset, .unset, .unset, .unset] [(.int v15)])) := by
            by_cases hc78_40 : v2 = (0 : Int32)
            · have go102 : Go p e below A0 (T38.setTop (mkF m 91 #[.val (.int p0), .val (.int p1), .val (.int p2), .val (.long q3), .second, .val (.int v1), .val (.int v2), .val (.int v3), .val (.ref uS), .val (.int (1 : Int32)), .unset, .unset, .unset, .unset, .unset, .unset, .unset, .unset, .unset, .unset, .unset] [(.int (1 : Int32))])) := by
                intro t k
                refine go101 t ?_
                refine o_ifN X38 hx hby at_78 81 rfl (teq hc78_40).2 ?_
                refine o_iload X38 hx hby at_81 83 rfl rfl ?_
                refine o_ifN X38 hx hby at_83 86 rfl (feq (show ¬ ((1 : Int32) = (0 : Int32)) by decide)).1 ?_
                refine o_iconst X38 hx hby at_86 87 rfl (v := (1 : Int32)) rfl ?_
                refine o_goto X38 hx hby at_87 91 rfl ?_
                exact k
              exact ⟨(1 : Int32), (if_pos hc78_40).symm, go102⟩
            · have go103 : Go p e below A0 (T38.setTop (mkF m 91 #[.val (.int p0), .val (.int p1), .val (.int p2), .val (.long q3), .second, .val (.int v1), .val (.int v2), .val (.int v3), .val (.ref uS), .val (.int (1 : Int32)), .unset, .unset, .unset, .unset, .unset, .unset, .unset, .unset, .unset, .unset, .unset] [(.int (0 : Int32))])) := by
                intro t k
                refine go101 t ?_
                refine o_ifY X38 hx hby at_78 90 rfl (feq hc78_40).2 ?_
                refine o_iconst X38 hx hby at_90 91 rfl (v := (0 : Int32)) rfl ?_
                exact k
              exact ⟨(0 : Int32), (if_neg hc78_40).symm, go103⟩
          subst hv15
          exact ⟨(if v2 = (0 : Int32) then (1 : Int32) else (0 : Int32)), (if_neg hc73_39).symm, go104⟩
      have go106 : Go p e below A0 (T38.setTop (mkF m 93 #[.val (.int p0), .val (.int p1), .val (.int p2), .val (.long q3), .second, .val (.int v1), .val (.int v2), .val (.int v3), .val (.ref uS), .val (.int (1 : Int32)), .val (.int v16), .unset, .unset, .unset, .unset, .unset, .unset, .unset, .unset, .unset, .unset] [])) := by
        intro t k
        refine go105 t ?_
        refine o_istore X38 hx hby at_91 93 rfl (l' := #[.val (.int p0), .val (.int p1), .val (.int p2), .val (.long q3), .second, .val (.int v1), .val (.int v2), .val (.int v3), .val (.ref uS), .val (.int (1 : Int32)), .val (.int v16), .unset, .unset, .unset, .unset, .unset, .unset, .unset, .unset, .unset, .unset]) rfl ?_
        exact k
      have go107 : Go p e below A0 (T38.setTop (mkF m 96 #[.val (.int p0), .val (.int p1), .val (.int p2), .val (.long q3), .second, .val (.int v1), .val (.int v2), .val (.int v3), .val (.ref uS), .val (.int (1 : Int32)), .val (.int v16), .unset, .unset, .unset, .unset, .unset, .unset, .unset, .unset, .unset, .unset] [(.int (p1 &&& (4 : Int32)))])) := by
        intro t k
        refine go106 t ?_
        refine o_iloadN X38 hx hby at_93 94 rfl rfl ?_
        refine o_iconst X38 hx hby at_94 95 rfl (v := (4 : Int32)) rfl ?_
        refine o_iand X38 hx hby at_95 96 rfl ?_
        exact k
      have go113 : Go p e below A0 (T38.setTop (mkF m 114 #[.val (.int p0), .val (.int p1), .val (.int p2), .val (.long q3), .second, .val (.int v1), .val (.int v2), .val (.int v3), .val (.ref uS), .val (.int (1 : Int32)), .val (.int v16), .unset, .unset, .unset, .unset, .unset, .unset, .unset, .unset, .unset, .unset] [(.int (0 : Int32))])) := by
        by_cases hc96_41 : (p1 &&& (4 : Int32)) = (0 : Int32)
        · have go108 : Go p e below A0 (T38.setTop (mkF m 114 #[.val (.int p0), .val (.int p1), .val (.int p2), .val (.long q3), .second, .val (.int v1), .val (.int v2), .val (.int v3), .val (.ref uS), .val (.int (1 : Int32)), .val (.int v16), .unset, .unset, .unset, .unset, .unset, .unset, .unset, .unset, .unset, .unset] [(.int (0 : Int32))])) := by
            intro t k
            refine go107 t ?_
            refine o_ifY X38 hx hby at_96 113 rfl (teq hc96_41).1 ?_
            refine o_iconst X38 hx hby at_113 114 rfl (v := (0 : Int32)) rfl ?_
            exact k
          exact go108
        · have go109 : Go p e below A0 (T38.setTop (mkF m 101 #[.val (.int p0), .val (.int p1), .val (.int p2), .val (.long q3), .second, .val (.int v1), .val (.int v2), .val (.int v3), .val (.ref uS), .val (.int (1 : Int32)), .val (.int v16), .unset, .unset, .unset, .unset, .unset, .unset, .unset, .unset, .unset, .unset] [(.int v2)])) := by
            intro t k
            refine go107 t ?_
            refine o_ifN X38 hx hby at_96 99 rfl (feq hc96_41).1 ?_
            refine o_iload X38 hx hby at_99 101 rfl rfl ?_
            exact k
          have go112 : Go p e below A0 (T38.setTop (mkF m 114 #[.val (.int p0), .val (.int p1), .val (.int p2), .val (.long q3), .second, .val (.int v1), .val (.int v2), .val (.int v3), .val (.ref uS), .val (.int (1 : Int32)), .val (.int v16), .unset, .unset, .unset, .unset, .unset, .unset, .unset, .unset, .unset, .unset] [(.int (0 : Int32))])) := by
            by_cases hc101_42 : v2 = (0 : Int32)
            · have go110 : Go p e below A0 (T38.setTop (mkF m 114 #[.val (.int p0), .val (.int p1), .val (.int p2), .val (.long q3), .second, .val (.int v1), .val (.int v2), .val (.int v3), .val (.ref uS), .val (.int (1 : Int32)), .val (.int v16), .unset, .unset, .unset, .unset, .unset, .unset, .unset, .unset, .unset, .unset] [(.int (0 : Int32))])) := by
                intro t k
                refine go109 t ?_
                refine o_ifN X38 hx hby at_101 104 rfl (teq hc101_42).2 ?_
                refine o_iload X38 hx hby at_104 106 rfl rfl ?_
                refine o_ifY X38 hx hby at_106 113 rfl (feq (show ¬ ((1 : Int32) = (0 : Int32)) by decide)).2 ?_
                refine o_iconst X38 hx hby at_113 114 rfl (v := (0 : Int32)) rfl ?_
                exact k
              exact go110
            · have go111 : Go p e below A0 (T38.setTop (mkF m 114 #[.val (.int p0), .val (.int p1), .val (.int p2), .val (.long q3), .second, .val (.int v1), .val (.int v2), .val (.int v3), .val (.ref uS), .val (.int (1 : Int32)), .val (.int v16), .unset, .unset, .unset, .unset, .unset, .unset, .unset, .unset, .unset, .unset] [(.int (0 : Int32))])) := by
                intro t k
                refine go109 t ?_
                refine o_ifY X38 hx hby at_101 113 rfl (feq hc101_42).2 ?_
                refine o_iconst X38 hx hby at_113 114 rfl (v := (0 : Int32)) rfl ?_
                exact k
              exact go111
          exact go112
      have go114 : Go p e below A0 (T38.setTop (mkF m 116 #[.val (.int p0), .val (.int p1), .val (.int p2), .val (.long q3), .second, .val (.int v1), .val (.int v2), .val (.int v3), .val (.ref uS), .val (.int (1 : Int32)), .val (.int v16), .val (.int (0 : Int32)), .unset, .unset, .unset, .unset, .unset, .unset, .unset, .unset, .unset] [])) := by
        intro t k
        refine go113 t ?_
        refine o_istore X38 hx hby at_114 116 rfl (l' := #[.val (.int p0), .val (.int p1), .val (.int p2), .val (.long q3), .second, .val (.int v1), .val (.int v2), .val (.int v3), .val (.ref uS), .val (.int (1 : Int32)), .val (.int v16), .val (.int (0 : Int32)), .unset, .unset, .unset, .unset, .unset, .unset, .unset, .unset, .unset]) rfl ?_
        exact k
      have go115 : Go p e below A0 (T38.setTop (mkF m 120 #[.val (.int p0), .val (.int p1), .val (.int p2), .val (.long q3), .second, .val (.int v1), .val (.int v2), .val (.int v3), .val (.ref uS), .val (.int (1 : Int32)), .val (.int v16), .val (.int (0 : Int32)), .unset, .unset, .unset, .unset, .unset, .unset, .unset, .unset, .unset] [(.int (p1 &&& (8 : Int32)))])) := by
        intro t k
        refine go114 t ?_
        refine o_iloadN X38 hx hby at_116 117 rfl rfl ?_
        refine o_bipush X38 hx hby at_117 119 rfl (v := (8 : Int32)) rfl ?_
        refine o_iand X38 hx hby at_119 120 rfl ?_
        exact k
      obtain ⟨v18, hv18, go122⟩ : ∃ (v18 : Int32), v18 = (if (p1 &&& (8 : Int32)) = (0 : Int32) then (0 : Int32) else (if v2 = (0 : Int32) then (0 : Int32) else (1 : Int32))) ∧ Go p e below A0 (T38.setTop (mkF m 139 #[.val (.int p0), .val (.int p1), .val (.int p2), .val (.long q3), .second, .val (.int v1), .val (.int v2), .val (.int v3), .val (.ref uS), .val (.int (1 : Int32)), .val (.int v16), .val (.int (0 : Int32)), .unset, .unset, .unset, .unset, .unset, .unset, .unset, .unset, .unset] [(.int v18)])) := by
        by_cases hc120_43 : (p1 &&& (8 : Int32)) = (0 : Int32)
        · have go116 : Go p e below A0 (T38.setTop (mkF m 139 #[.val (.int p0), .val (.int p1), .val (.int p2), .val (.long q3), .second, .val (.int v1), .val (.int v2), .val (.int v3), .val (.ref uS), .val (.int (1 : Int32)), .val (.int v16), .val (.int (0 : Int32)), .unset, .unset, .unset, .unset, .unset, .unset, .unset, .unset, .unset] [(.int (0 : Int32))])) := by
            intro t k
            refine go115 t ?_
            refine o_ifY X38 hx hby at_120 138 rfl (teq hc120_43).1 ?_
            refine o_iconst X38 hx hby at_138 139 rfl (v := (0 : Int32)) rfl ?_
            exact k
          exact ⟨(0 : Int32), (if_pos hc120_43).symm, go116⟩
        · have go117 : Go p e below A0 (T38.setTop (mkF m 125 #[.val (.int p0), .val (.int p1), .val (.int p2), .val (.long q3), .second, .val (.int v1), .val (.int v2), .val (.int v3), .val (.ref uS), .val (.int (1 : Int32)), .val (.int v16), .val (.int (0 : Int32)), .unset, .unset, .unset, .unset, .unset, .unset, .unset, .unset, .unset] [(.int v2)])) := by
            intro t k
            refine go115 t ?_
            refine o_ifN X38 hx hby at_120 123 rfl (feq hc120_43).1 ?_
            refine o_iload X38 hx hby at_123 125 rfl rfl ?_
            exact k
          obtain ⟨v17, hv17, go121⟩ : ∃ (v17 : Int32), v17 = (if v2 = (0 : Int32) then (0 : Int32) else (1 : Int32)) ∧ Go p e below A0 (T38.setTop (mkF m 139 #[.val (.int p0), .val (.int p1), .val (.int p2), .val (.long q3), .second, .val (.int v1), .val (.int v2), .val (.int v3), .val (.ref uS), .val (.int (1 : Int32)), .val (.int v16), .val (.int (0 : Int32)), .unset, .unset, .unset, .unset, .unset, .unset, .unset, .unset, .unset] [(.int v17)])) := by
            by_cases hc125_44 : v2 = (0 : Int32)
            · have go118 : Go p e below A0 (T38.setTop (mkF m 139 #[.val (.int p0), .val (.int p1), .val (.int p2), .val (.long q3), .second, .val (.int v1), .val (.int v2), .val (.int v3), .val (.ref uS), .val (.int (1 : Int32)), .val (.int v16), .val (.int (0 : Int32)), .unset, .unset, .unset, .unset, .unset, .unset, .unset, .unset, .unset] [(.int (0 : Int32))])) := by
                intro t k
                refine go117 t ?_
                refine o_ifY X38 hx hby at_125 138 rfl (teq hc125_44).1 ?_
                refine o_iconst X38 hx hby at_138 139 rfl (v := (0 : Int32)) rfl ?_
                exact k
              exact ⟨(0 : Int32), (if_pos hc125_44).symm, go118⟩
            · have go119 : Go p e below A0 (T38.setTop (mkF m 131 #[.val (.int p0), .val (.int p1), .val (.int p2), .val (.long q3), .second, .val (.int v1), .val (.int v2), .val (.int v3), .val (.ref uS), .val (.int (1 : Int32)), .val (.int v16), .val (.int (0 : Int32)), .unset, .unset, .unset, .unset, .unset, .unset, .unset, .unset, .unset] [(.int (2 : Int32)), (.int v3)])) := by
                intro t k
                refine go117 t ?_
                refine o_ifN X38 hx hby at_125 128 rfl (feq hc125_44).1 ?_
                refine o_iload X38 hx hby at_128 130 rfl rfl ?_
                refine o_iconst X38 hx hby at_130 131 rfl (v := (2 : Int32)) rfl ?_
                exact k
              have f_k2_14 : v3 = (2 : Int32) := pf0_k2_13 p0 p1 p2 q3 uA uS uI cs v1 v2 v3 v16 hv1 hv2 hv3 hv16 hc28_2 hc42_18 hc120_43 hc125_44
              have go120 : Go p e below A0 (T38.setTop (mkF m 139 #[.val (.int p0), .val (.int p1), .val (.int p2), .val (.long q3), .second, .val (.int v1), .val (.int v2), .val (.int v3), .val (.ref uS), .val (.int (1 : Int32)), .val (.int v16), .val (.int (0 : Int32)), .unset, .unset, .unset, .unset, .unset, .unset, .unset, .unset, .unset] [(.int (1 : Int32))])) := by
                intro t k
                refine go119 t ?_
                refine o_icmpN X38 hx hby at_131 134 rfl (teq (f_k2_14)).2 ?_
                refine o_iconst X38 hx hby at_134 135 rfl (v := (1 : Int32)) rfl ?_
                refine o_goto X38 hx hby at_135 139 rfl ?_
                exact k
              exact ⟨(1 : Int32), (if_neg hc125_44).symm, go120⟩
          subst hv17
          exact ⟨(if v2 = (0 : Int32) then (0 : Int32) else (1 : Int32)), (if_neg hc120_43).symm, go121⟩
      have go123 : Go p e below A0 (T38.setTop (mkF m 141 #[.val (.int p0), .val (.int p1), .val (.int p2), .val (.long q3), .second, .val (.int v1), .val (.int v2), .val (.int v3), .val (.ref uS), .val (.int (1 : Int32)), .val (.int v16), .val (.int (0 : Int32)), .val (.int v18), .unset, .unset, .unset, .unset, .unset, .unset, .unset, .unset] [])) := by
        intro t k
        refine go122 t ?_
        refine o_istore X38 hx hby at_139 141 rfl (l' := #[.val (.int p0), .val (.int p1), .val (.int p2), .val (.long q3), .second, .val (.int v1), .val (.int v2), .val (.int v3), .val (.ref uS), .val (.int (1 : Int32)), .val (.int v16), .val (.int (0 : Int32)), .val (.int v18), .unset, .unset, .unset, .unset, .unset, .unset, .unset, .unset]) rfl ?_
        exact k
      have go124 : Go p e below A0 (T38.setTop (mkF m 152 #[.val (.int p0), .val (.int p1), .val (.int p2), .val (.long q3), .second, .val (.int v1), .val (.int v2), .val (.int v3), .val (.ref uS), .val (.int (1 : Int32)), .val (.int v16), .val (.int (0 : Int32)), .val (.int v18), .unset, .unset, .unset, .unset, .unset, .unset, .unset, .unset] [(.int ((p2 &&& (255 : Int32)).toUInt32.toUInt16.toUInt32.toInt32))])) := by
        intro t k
        refine go123 t ?_
        refine o_iload X38 hx hby at_141 143 rfl rfl ?_
        refine o_ifN X38 hx hby at_143 146 rfl (feq (show ¬ ((1 : Int32) = (0 : Int32)) by decide)).1 ?_
        refine o_iloadN X38 hx hby at_146 147 rfl rfl ?_
        refine o_sipush X38 hx hby at_147 150 rfl (v := (255 : Int32)) rfl ?_
        refine o_iand X38 hx hby at_150 151 rfl ?_
        refine o_i2c X38 hx hby at_151 152 rfl ?_
        exact k
      obtain ⟨v19, hv19, go125⟩ : ∃ v19 : Int32, v19 = ((p2 &&& (255 : Int32)).toUInt32.toUInt16.toUInt32.toInt32) ∧ Go p e below A0 (T38.setTop (mkF m 152 #[.val (.int p0), .val (.int p1), .val (.int p2), .val (.long q3), .second, .val (.int v1), .val (.int v2), .val (.int v3), .val (.ref uS), .val (.int (1 : Int32)), .val (.int v16), .val (.int (0 : Int32)), .val (.int v18), .unset, .unset, .unset, .unset, .unset, .unset, .unset, .unset] [(.int v19)])) := ⟨_, rfl, go124⟩
      have f_c255_15 : ¬ (255 : Int32) < v19 := pf0_c255_14 p0 p1 p2 q3 uA uS uI cs v1 v2 v3 v16 v18 v19 hv1 hv2 hv3 hv16 hv18 hv19 hc28_2 hc42_18
      obtain ⟨_, _, ⟨T45, L45, k45, n45⟩, -, X45, ⟨Lc45, hQ45, l45, y45, z45⟩, st45⟩ := Jvm.LawKit.callS X38 hx (y := (⟨"java/lang/String", "valueOf", "(C)Ljava/lang/String;"⟩ : MethodName)) hown (mvT hZ (hw _ (List.mem_of_getElem? (i := 56) rfl))) (mvT hZ (hw _ (List.mem_of_getElem? (i := 57) rfl))) (mvT hZ (hw _ (List.mem_of_getElem? (i := 19) rfl))) (mvT hZ (hw _ (List.mem_of_getElem? (i := 58) rfl))) (by decide) (backOf (W := 0) (rm6 l Z aw hw [] v19 cs h0 n0 Z0 (r3) (r4) (hcs) (f_c255_15)) hZ (hw _ (List.mem_of_getElem? (i := 58) rfl)) (hw _ (List.mem_of_getElem? (i := 19) rfl)) (by decide) (by decide)) (g := (mkF m 152 #[.val (.int p0), .val (.int p1), .val (.int p2), .val (.long q3), .second, .val (.int v1), .val (.int v2), .val (.int v3), .val (.ref uS), .val (.int (1 : Int32)), .val (.int v16), .val (.int (0 : Int32)), .val (.int v18), .unset, .unset, .unset, .unset, .unset, .unset, .unset, .unset] [(.int v19)])) rfl (by rw [hml]; rfl) (argsL := [(.int v19)]) (rest := []) (lenOf pd_13 rfl) rfl (by show 2 * 0 + _ ≤ _; exact Nat.le_of_eq rfl) (hb hby at_152) (fun _ _ => ⟨rfl, e38, (by decide : 0 + 2 ≤ _), (by decide : 0 + 5 ≤ _)⟩)
      dsimp only [Pt.U, Pt.locs, Pt.cells, Pt.slots] at X45 l45 y45 z45 st45 hQ45
      subst l45 y45 z45
      obtain ⟨b45_b, rfl, N45q, K45q, sz_b45_bq, -⟩ := hQ45
      have g_b45_b : n0 ≤ b45_b := Nat.le_trans Z0 sz_b45_bq
      have f61 : Old Z n0 T45.heap := r4.keep K45q all0
      have Zp45 : n0 ≤ T45.heap.size := Nat.le_trans Z0 K45q.1
      have N45 := Fr.app N0 N45q
      have go126 : Go p e below A0 (T45.setTop (mkF m 155 #[.val (.int p0), .val (.int p1), .val (.int p2), .val (.long q3), .second, .val (.int v1), .val (.int v2), .val (.int v3), .val (.ref uS), .val (.int (1 : Int32)), .val (.int v16), .val (.int (0 : Int32)), .val (.int v18), .unset, .unset, .unset, .unset, .unset, .unset, .unset, .unset] [(.ref b45_b)])) := by
        intro t k
        refine go125 t ?_
        refine st45 _ ?_
        show Steps p.tables e below (T45.setTop (mkF m 155 #[.val (.int p0), .val (.int p1), .val (.int p2), .val (.long q3), .second, .val (.int v1), .val (.int v2), .val (.int v3), .val (.ref uS), .val (.int (1 : Int32)), .val (.int v16), .val (.int (0 : Int32)), .val (.int v18), .unset, .unset, .unset, .unset, .unset, .unset, .unset, .unset] [(.ref b45_b)])) _
        exact k
      have go127 : Go p e below A0 (T45.setTop (mkF m 175 #[.val (.int p0), .val (.int p1), .val (.int p2), .val (.long q3), .second, .val (.int v1), .val (.int v2), .val (.int v3), .val (.ref uS), .val (.int (1 : Int32)), .val (.int v16), .val (.int (0 : Int32)), .val (.int v18), .val (.ref b45_b), .unset, .unset, .unset, .unset, .unset, .unset, .unset] [(.int ((((p2.toUInt32 >>> ((8 : Int32) &&& 31).toUInt32).toInt32) &&& (255 : Int32)).toUInt32.toUInt16.toUInt32.toInt32))])) := by
        intro t k
        refine go126 t ?_
        refine o_goto X45 hx hby at_155 159 rfl ?_
        refine o_astore X45 hx hby at_159 161 rfl rfl (l' := #[.val (.int p0), .val (.int p1), .val (.int p2), .val (.long q3), .second, .val (.int v1), .val (.int v2), .val (.int v3), .val (.ref uS), .val (.int (1 : Int32)), .val (.int v16), .val (.int (0 : Int32)), .val (.int v18), .val (.ref b45_b), .unset, .unset, .unset, .unset, .unset, .unset, .unset]) rfl ?_
        refine o_iload X45 hx hby at_161 163 rfl rfl ?_
        refine o_ifN X45 hx hby at_163 166 rfl (feq (show ¬ ((1 : Int32) = (0 : Int32)) by decide)).1 ?_
        refine o_iloadN X45 hx hby at_166 167 rfl rfl ?_
        refine o_bipush X45 hx hby at_167 169 rfl (v := (8 : Int32)) rfl ?_
        refine o_iushr X45 hx hby at_169 170 rfl ?_
        refine o_sipush X45 hx hby at_170 173 rfl (v := (255 : Int32)) rfl ?_
        refine o_iand X45 hx hby at_173 174 rfl ?_
        refine o_i2c X45 hx hby at_174 175 rfl ?_
        exact k
      obtain ⟨v20, hv20, go128⟩ : ∃ v20 : Int32, v20 = ((((p2.toUInt32 >>> ((8 : Int32) &&& 31).toUInt32).toInt32) &&& (255 : Int32)).toUInt32.toUInt16.toUInt32.toInt32) ∧ Go p e below A0 (T45.setTop (mkF m 175 #[.val (.int p0), .val (.int p1), .val (.int p2), .val (.long q3), .second, .val (.int v1), .val (.int v2), .val (.int v3), .val (.ref uS), .val (.int (1 : Int32)), .val (.int v16), .val (.int (0 : Int32)), .val (.int v18), .val (.ref b45_b), .unset, .unset, .unset, .unset, .unset, .unset, .unset] [(.int v20)])) := ⟨_, rfl, go127⟩
      have f_c255_16 : ¬ (255 : Int32) < v20 := pf0_c255_15 p0 p1 p2 q3 uA uS uI cs v1 v2 v3 v16 v18 v19 v20 hv1 hv2 hv3 hv16 hv18 hv19 hv20 hc28_2 hc42_18
      obtain ⟨_, _, ⟨T46, L46, k46, n46⟩, -, X46, ⟨Lc46, hQ46, l46, y46, z46⟩, st46⟩ := Jvm.LawKit.callS X45 hx (y := (⟨"java/lang/String", "valueOf", "(C)Ljava/lang/String;"⟩ : MethodName)) hown (mvT hZ (hw _ (List.mem_of_getElem? (i := 56) rfl))) (mvT hZ (hw _ (List.mem_of_getElem? (i := 57) rfl))) (mvT hZ (hw _ (List.mem_of_getElem? (i := 19) rfl))) (mvT hZ (hw _ (List.mem_of_getElem? (i := 58) rfl))) (by decide) (backOf (W := 0) (rm6 l Z aw hw [] v20 cs T45.heap n0 Zp45 (r3) (f61) (hcs) (f_c255_16)) hZ (hw _ (List.mem_of_getElem? (i := 58) rfl)) (hw _ (List.mem_of_getElem? (i := 19) rfl)) (by decide) (by decide)) (g := (mkF m 175 #[.val (.int p0), .val (.int p1), .val (.int p2), .val (.long q3), .second, .val (.int v1), .val (.int v2), .val (.int v3), .val (.ref uS), .val (.int (1 : Int32)), .val (.int v16), .val (.int (0 : Int32)), .val (.int v18), .val (.ref b45_b), .unset, .unset, .unset, .unset, .unset, .unset, .unset] [(.int v20)])) rfl (by rw [hml]; rfl) (argsL := [(.int v20)]) (rest := []) (lenOf pd_13 rfl) rfl (by show 2 * 0 + _ ≤ _; exact Nat.le_of_eq rfl) (hb hby at_175) (fun _ _ => ⟨rfl, rfl, (by decide : 2 + 2 ≤ _), (by decide : 5 + 5 ≤ _)⟩)
      dsimp only [Pt.U, Pt.locs, Pt.cells, Pt.slots] at X46 l46 y46 z46 st46 hQ46
      subst l46 y46 z46
      obtain ⟨b46_b, rfl, N46q, K46q, sz_b46_bq, -⟩ := hQ46
      have g_b46_b : n0 ≤ b46_b := Nat.le_trans Zp45 sz_b46_bq
      have f62 : Old Z n0 T46.heap := f61.keep K46q all0
      have Zp46 : n0 ≤ T46.heap.size := Nat.le_trans Zp45 K46q.1
      have N46 := Fr.app N45 N46q
      have go129 : Go p e below A0 (T46.setTop (mkF m 178 #[.val (.int p0), .val (.int p1), .val (.int p2), .val (.long q3), .second, .val (.int v1), .val (.int v2), .val (.int v3), .val (.ref uS), .val (.int (1 : Int32)), .val (.int v16), .val (.int (0 : Int32)), .val (.int v18), .val (.ref b45_b), .unset, .unset, .unset, .unset, .unset, .unset, .unset] [(.ref b46_b)])) := by
        intro t k
        refine go128 t ?_
        refine st46 _ ?_
        show Steps p.tables e below (T46.setTop (mkF m 178 #[.val (.int p0), .val (.int p1), .val (.int p2), .val (.long q3), .second, .val (.int v1), .val (.int v2), .val (.int v3), .val (.ref uS), .val (.int (1 : Int32)), .val (.int v16), .val (.int (0 : Int32)), .val (.int v18), .val (.ref b45_b), .unset, .unset, .unset, .unset, .unset, .unset, .unset] [(.ref b46_b)])) _
        exact k
      have go130 : Go p e below A0 (T46.setTop (mkF m 223 #[.val (.int p0), .val (.int p1), .val (.int p2), .val (.long q3), .second, .val (.int v1), .val (.int v2), .val (.int v3), .val (.ref uS), .val (.int (1 : Int32)), .val (.int v16), .val (.int (0 : Int32)), .val (.int v18), .val (.ref b45_b), .val (.ref b46_b), .val .null, .val (.long (0 : Int64)), .second, .unset, .unset, .unset] [])) := by
        intro t k
        refine go129 t ?_
        refine o_goto X46 hx hby at_178 182 rfl ?_
        refine o_astore X46 hx hby at_182 184 rfl rfl (l' := #[.val (.int p0), .val (.int p1), .val (.int p2), .val (.long q3), .second, .val (.int v1), .val (.int v2), .val (.int v3), .val (.ref uS), .val (.int (1 : Int32)), .val (.int v16), .val (.int (0 : Int32)), .val (.int v18), .val (.ref b45_b), .val (.ref b46_b), .unset, .unset, .unset, .unset, .unset, .unset]) rfl ?_
        refine o_iload X46 hx hby at_184 186 rfl rfl ?_
        refine o_ifY X46 hx hby at_186 204 rfl (teq (show (0 : Int32) = (0 : Int32) by decide)).1 ?_
        refine o_aconstNull X46 hx hby at_204 205 rfl ?_
        refine o_astore X46 hx hby at_205 207 rfl rfl (l' := #[.val (.int p0), .val (.int p1), .val (.int p2), .val (.long q3), .second, .val (.int v1), .val (.int v2), .val (.int v3), .val (.ref uS), .val (.int (1 : Int32)), .val (.int v16), .val (.int (0 : Int32)), .val (.int v18), .val (.ref b45_b), .val (.ref b46_b), .val .null, .unset, .unset, .unset, .unset, .unset]) rfl ?_
        refine o_iload X46 hx hby at_207 209 rfl rfl ?_
        refine o_ifY X46 hx hby at_209 220 rfl (teq (show (0 : Int32) = (0 : Int32) by decide)).1 ?_
        refine o_lconst X46 hx hby at_220 221 rfl (v := (0 : Int64)) rfl ?_
        refine o_lstore X46 hx hby at_221 223 rfl (l' := #[.val (.int p0), .val (.int p1), .val (.int p2), .val (.long q3), .second, .val (.int v1), .val (.int v2), .val (.int v3), .val (.ref uS), .val (.int (1 : Int32)), .val (.int v16), .val (.int (0 : Int32)), .val (.int v18), .val (.ref b45_b), .val (.ref b46_b), .val .null, .val (.long (0 : Int64)), .second, .unset, .unset, .unset]) rfl ?_
        exact k
      have go131 : Go p e below A0 (T46.setTop (mkF m 225 #[.val (.int p0), .val (.int p1), .val (.int p2), .val (.long q3), .second, .val (.int v1), .val (.int v2), .val (.int v3), .val (.ref uS), .val (.int (1 : Int32)), .val (.int v16), .val (.int (0 : Int32)), .val (.int v18), .val (.ref b45_b), .val (.ref b46_b), .val .null, .val (.long (0 : Int64)), .second, .unset, .unset, .unset] [(.int v16)])) := by
        intro t k
        refine go130 t ?_
        refine o_iload X46 hx hby at_223 225 rfl rfl ?_
        exact k
      by_cases hc225_47 : v16 = (0 : Int32)
      · have go132 : Go p e below A0 (T46.setTop (mkF m 248 #[.val (.int p0), .val (.int p1), .val (.int p2), .val (.long q3), .second, .val (.int v1), .val (.int v2), .val (.int v3), .val (.ref uS), .val (.int (1 : Int32)), .val (.int v16), .val (.int (0 : Int32)), .val (.int v18), .val (.ref b45_b), .val (.ref b46_b), .val .null, .val (.long (0 : Int64)), .second, .val .null, .unset, .unset] [(.int v18)])) := by
          intro t k
          refine go131 t ?_
          refine o_ifY X46 hx hby at_225 243 rfl (teq hc225_47).1 ?_
          refine o_aconstNull X46 hx hby at_243 244 rfl ?_
          refine o_astore X46 hx hby at_244 246 rfl rfl (l' := #[.val (.int p0), .val (.int p1), .val (.int p2), .val (.long q3), .second, .val (.int v1), .val (.int v2), .val (.int v3), .val (.ref uS), .val (.int (1 : Int32)), .val (.int v16), .val (.int (0 : Int32)), .val (.int v18), .val (.ref b45_b), .val (.ref b46_b), .val .null, .val (.long (0 : Int64)), .second, .val .null, .unset, .unset]) rfl ?_
          refine o_iload X46 hx hby at_246 248 rfl rfl ?_
          exact k
        by_cases hc248_48 : v18 = (0 : Int32)
        · obtain ⟨T49, h49, X49, e49, E49, A49, D49, -, st49⟩ := newO X46 hx hZ hown (hw _ (List.mem_of_getElem? (i := 4) rfl)) (hw _ (List.mem_of_getElem? (i := 5) rfl)) (hw _ (List.mem_of_getElem? (i := 6) rfl)) rfl (g := (mkF m 268 #[.val (.int p0), .val (.int p1), .val (.int p2), .val (.long q3), .second, .val (.int v1), .val (.int v2), .val (.int v3), .val (.ref uS), .val (.int (1 : Int32)), .val (.int v16), .val (.int (0 : Int32)), .val (.int v18), .val (.ref b45_b), .val (.ref b46_b), .val .null, .val (.long (0 : Int64)), .second, .val .null, .val .null, .unset] [])) rfl (hb hby at_268) (by decide) (by decide)
          obtain ⟨b49, g49⟩ : ∃ z, z = T46.heap.size := ⟨_, rfl⟩
          rw [← g49] at A49 D49 st49
          have g_b49 : n0 ≤ b49 := Nat.le_trans Zp46 (Nat.le_of_eq g49.symm)
          have f63 : Old Z n0 h49 := f62.ext E49
          have Zp49 : n0 ≤ h49.size := Nat.le_trans Zp46 E49.1
          have f64 : Exa Z h49 b49 "org/shardwright/model/ShardCopy" := A49
          have f65 : Fld Z h49 b49 "org/shardwright/model/ShardCopy" "shard" "I" (.int (0 : Int32)) := D49 (Or.inr (hw _ (List.mem_of_getElem? (i := 32) rfl))) (ty := .int) (by decide)
          have f66 : Fld Z h49 b49 "org/shardwright/model/ShardCopy" "primary" "Z" (.int (0 : Int32)) := D49 (Or.inr (hw _ (List.mem_of_getElem? (i := 34) rfl))) (ty := .boolean) (by decide)
          have f67 : Fld Z h49 b49 "org/shardwright/model/ShardCopy" "state" "Lorg/shardwright/model/ShardCopy$State;" .null := D49 (Or.inr (hw _ (List.mem_of_getElem? (i := 36) rfl))) (ty := (.object "org/shardwright/model/ShardCopy$State")) (by decide)
          have f68 : Fld Z h49 b49 "org/shardwright/model/ShardCopy" "nodeId" "Ljava/lang/String;" .null := D49 (Or.inr (hw _ (List.mem_of_getElem? (i := 38) rfl))) (ty := (.object "java/lang/String")) (by decide)
          have f69 : Fld Z h49 b49 "org/shardwright/model/ShardCopy" "allocationId" "Ljava/lang/String;" .null := D49 (Or.inr (hw _ (List.mem_of_getElem? (i := 40) rfl))) (ty := (.object "java/lang/String")) (by decide)
          have f70 : Fld Z h49 b49 "org/shardwright/model/ShardCopy" "lastNodeId" "Ljava/lang/String;" .null := D49 (Or.inr (hw _ (List.mem_of_getElem? (i := 42) rfl))) (ty := (.object "java/lang/String")) (by decide)
          have f71 : Fld Z h49 b49 "org/shardwright/model/ShardCopy" "unassignedAtMillis" "J" (.long (0 : Int64)) := D49 (Or.inr (hw _ (List.mem_of_getElem? (i := 44) rfl))) (ty := .long) (by decide)
          have f72 : Fld Z h49 b49 "org/shardwright/model/ShardCopy" "replaces" "Ljava/lang/String;" .null := D49 (Or.inr (hw _ (List.mem_of_getElem? (i := 46) rfl))) (ty := (.object "java/lang/String")) (by decide)
          have f73 : Fld Z h49 b49 "org/shardwright/model/ShardCopy" "handsOverTo" "Ljava/lang/String;" .null := D49 (Or.inr (hw _ (List.mem_of_getElem? (i := 48) rfl))) (ty := (.object "java/lang/String")) (by decide)
          have go133 : Go p e below A0 (T49.setTop (mkF m 290 #[.val (.int p0), .val (.int p1), .val (.int p2), .val (.long q3), .second, .val (.int v1), .val (.int v2), .val (.int v3), .val (.ref uS), .val (.int (1 : Int32)), .val (.int v16), .val (.int (0 : Int32)), .val (.int v18), .val (.ref b45_b), .val (.ref b46_b), .val .null, .val (.long (0 : Int64)), .second, .val .null, .val .null, .unset] [.null, .null, (.long (0 : Int64)), .null, (.ref b46_b), (.ref b45_b), (.ref uS), (.int v2), (.int v1), (.ref b49), (.ref b49)])) := by
            intro t k
            refine go132 t ?_
            refine o_ifY X46 hx hby at_248 265 rfl (teq hc248_48).1 ?_
            refine o_aconstNull X46 hx hby at_265 266 rfl ?_
            refine o_astore X46 hx hby at_266 268 rfl rfl (l' := #[.val (.int p0), .val (.int p1), .val (.int p2), .val (.long q3), .second, .val (.int v1), .val (.int v2), .val (.int v3), .val (.ref uS), .val (.int (1 : Int32)), .val (.int v16), .val (.int (0 : Int32)), .val (.int v18), .val (.ref b45_b), .val (.ref b46_b), .val .null, .val (.long (0 : Int64)), .second, .val .null, .val .null, .unset]) rfl ?_
            refine st49 _ ?_
            show Steps p.tables e below (T49.setTop (mkF m 271 #[.val (.int p0), .val (.int p1), .val (.int p2), .val (.long q3), .second, .val (.int v1), .val (.int v2), .val (.int v3), .val (.ref uS), .val (.int (1 : Int32)), .val (.int v16), .val (.int (0 : Int32)), .val (.int v18), .val (.ref b45_b), .val (.ref b46_b), .val .null, .val (.long (0 : Int64)), .second, .val .null, .val .null, .unset] [(.ref b49)])) _
            refine o_dup X49 hx hby at_271 272 rfl rfl ?_
            refine o_iload X49 hx hby at_272 274 rfl rfl ?_
            refine o_iload X49 hx hby at_274 276 rfl rfl ?_
            refine o_aload X49 hx hby at_276 278 rfl rfl rfl ?_
            refine o_aload X49 hx hby at_278 280 rfl rfl rfl ?_
            refine o_aload X49 hx hby at_280 282 rfl rfl rfl ?_
            refine o_aload X49 hx hby at_282 284 rfl rfl rfl ?_
            refine o_lload X49 hx hby at_284 286 rfl rfl ?_
            refine o_aload X49 hx hby at_286 288 rfl rfl rfl ?_
            refine o_aload X49 hx hby at_288 290 rfl rfl rfl ?_
            exact k
          have f_nn_17 : ¬ v1 < 0 := pf0_nn_16 p0 p1 p2 q3 uA uS uI cs v1 v2 v3 v16 v18 v19 v20 hv1 hv2 hv3 hv16 hv18 hv19 hv20 hc28_2 hc42_18 hc225_47 hc248_48
          obtain ⟨_, _, ⟨T50, L50, k50, n50⟩, -, X50, S50, gr50, ⟨Lc50, hQ50, l50, y50, z50⟩, st50⟩ := X49.specialBackS hx (y := (⟨"org/shardwright/model/ShardCopy", "<init>", "(IZLorg/shardwright/model/ShardCopy$State;Ljava/lang/String;Ljava/lang/String;Ljava/lang/String;JLjava/lang/String;Ljava/lang/String;)V"⟩ : MethodName)) rfl hown (mvT hZ (hw _ (List.mem_of_getElem? (i := 7) rfl))) (mvT hZ (hw _ (List.mem_of_getElem? (i := 8) rfl))) (mvT hZ (hw _ (List.mem_of_getElem? (i := 9) rfl))) (by decide) (backOfS (W := 1) (rm1C l Z aw hw [] b49 v1 v2 uS b45_b b46_b uA h49 n0 Zp49 (f64) (g_b49) (f65) (f66) (f67) (f68) (f69) (f70) (f71) (f72) (f73) (r0) (f63) ((by rw [hv2]; repeat' (first | exact Or.inl rfl | exact Or.inr rfl | split))) (f_nn_17) (r7)) hZ (hw _ (List.mem_of_getElem? (i := 9) rfl)) (hw _ (List.mem_of_getElem? (i := 6) rfl)) (by decide) (by decide)) (g := (mkF m 290 #[.val (.int p0), .val (.int p1), .val (.int p2), .val (.long q3), .second, .val (.int v1), .val (.int v2), .val (.int v3), .val (.ref uS), .val (.int (1 : Int32)), .val (.int v16), .val (.int (0 : Int32)), .val (.int v18), .val (.ref b45_b), .val (.ref b46_b), .val .null, .val (.long (0 : Int64)), .second, .val .null, .val .null, .unset] [.null, .null, (.long (0 : Int64)), .null, (.ref b46_b), (.ref b45_b), (.ref uS), (.int v2), (.int v1), (.ref b49), (.ref b49)])) rfl (by rw [hml]; rfl) (Steps.refl _) (a := b49) (argsL := [(.int v1), (.int v2), (.ref uS), (.ref b45_b), (.ref b46_b), .null, (.long (0 : Int64)), .null, .null]) (rest := [(.ref b49)]) (lenOf pd_11 rfl) rfl (by show 2 * 0 + _ ≤ _; exact Nat.le_of_eq rfl) (hb hby at_290) (fun _ _ => ⟨rfl, e49, (by decide : 5 + 2 ≤ _), (by decide : 19 + 24 ≤ _)⟩)
          dsimp only [Pt.U, Pt.locs, Pt.cells, Pt.slots] at X50 l50 y50 z50 st50 hQ50 S50 gr50
          subst l50 y50 z50
          have hZ50q := State.Warmed39.trans hZ S50.1
          have hown50q : (s.setVm T50.vm).vm.findClass "org/shardwright/model/ShardCopyMovedInPinLaw" = some m.cls := by rw [show (s.setVm T50.vm).vm = T50.vm from rfl, S50.1.alike.findClass]; exact hown
          clear hZ hown
          obtain ⟨hZ, hown⟩ := And.intro hZ50q hown50q
          obtain ⟨rfl, N50q, K50q, qf50_0, -⟩ := hQ50
          have f74 : Old Z n0 T50.heap := f63.keep K50q (allS g_b49 all0)
          have f75 : Exa Z T50.heap b49 "org/shardwright/model/ShardCopy" := f64.keep K50q
          have Zp50 : n0 ≤ T50.heap.size := Nat.le_trans Zp49 K50q.1
          have f76 : Fld Z T50.heap b49 "org/shardwright/model/ShardCopy" "replaces" "Ljava/lang/String;" .null := qf50_0
          have N50 := Fr.app N46 N50q
          obtain ⟨cq51, kq51, q51a, q51b, q51c⟩ := isOf hZ rfl f75
          obtain ⟨_, _, ⟨T51, L51, k51, n51⟩, -, X51, ⟨Lc51, hQ51, l51, y51, z51⟩, st51⟩ := X50.virtualBack hx (y := (⟨"org/shardwright/model/ShardCopy", "movedIn", "()Z"⟩ : MethodName)) (z := (⟨"org/shardwright/model/ShardCopy", "movedIn", "()Z"⟩ : MethodName)) hown (mvT hZ (hw _ (List.mem_of_getElem? (i := 49) rfl))) (mvT hZ (hw _ (List.mem_of_getElem? (i := 50) rfl))) (notFace_of_selects (args := #[]) (mvT hZ (hw _ (List.mem_of_getElem? (i := 52) rfl)))) (mvT hZ (hw _ (List.mem_of_getElem? (i := 52) rfl))) (mvT hZ (hw _ (List.mem_of_getElem? (i := 51) rfl))) (by decide) (backOf (W := 0) (rm5n l Z aw hw [] b49 T50.heap n0 Zp50 (f76)) hZ (hw _ (List.mem_of_getElem? (i := 53) rfl)) (hw _ (List.mem_of_getElem? (i := 6) rfl)) (by decide) (by decide)) q51a q51c (g := (mkF m 297 #[.val (.int p0), .val (.int p1), .val (.int p2), .val (.long q3), .second, .val (.int v1), .val (.int v2), .val (.int v3), .val (.ref uS), .val (.int (1 : Int32)), .val (.int v16), .val (.int (0 : Int32)), .val (.int v18), .val (.ref b45_b), .val (.ref b46_b), .val .null, .val (.long (0 : Int64)), .second, .val .null, .val .null, .val (.ref b49)] [(.ref b49)])) rfl (by rw [hml]; rfl) (Steps.refl _) (argsL := []) (rest := []) (lenOf pd_12 rfl) rfl (by show 2 * 0 + _ ≤ _; exact Nat.le_of_eq rfl) (hb hby at_297) (fun _ _ => ⟨rfl, rfl, (by decide : 7 + 0 ≤ _), (by decide : 43 + 0 ≤ _)⟩)
          dsimp only [Pt.U, Pt.locs, Pt.cells, Pt.slots] at X51 l51 y51 z51 st51 hQ51
          subst l51 y51 z51
          obtain ⟨rfl, N51q, e51⟩ := hQ51
          have N51 := Fr.app N50 N51q
          have go134 : Go p e below A0 (T51.setTop (mkF m 300 #[.val (.int p0), .val (.int p1), .val (.int p2), .val (.long q3), .second, .val (.int v1), .val (.int v2), .val (.int v3), .val (.ref uS), .val (.int (1 : Int32)), .val (.int v16), .val (.int (0 : Int32)), .val (.int v18), .val (.ref b45_b), .val (.ref b46_b), .val .null, .val (.long (0 : Int64)), .second, .val .null, .val .null, .val (.ref b49)] [(.int (0 : Int32))])) := by
            intro t k
            refine go133 t ?_
            refine st50.trans ?_
            show Steps p.tables e below (T50.setTop (mkF m 293 #[.val (.int p0), .val (.int p1), .val (.int p2), .val (.long q3), .second, .val (.int v1), .val (.int v2), .val (.int v3), .val (.ref uS), .val (.int (1 : Int32)), .val (.int v16), .val (.int (0 : Int32)), .val (.int v18), .val (.ref b45_b), .val (.ref b46_b), .val .null, .val (.long (0 : Int64)), .second, .val .null, .val .null, .unset] [(.ref b49)])) _
            refine o_astore X50 hx hby at_293 295 rfl rfl (l' := #[.val (.int p0), .val (.int p1), .val (.int p2), .val (.long q3), .second, .val (.int v1), .val (.int v2), .val (.int v3), .val (.ref uS), .val (.int (1 : Int32)), .val (.int v16), .val (.int (0 : Int32)), .val (.int v18), .val (.ref b45_b), .val (.ref b46_b), .val .null, .val (.long (0 : Int64)), .second, .val .null, .val .null, .val (.ref b49)]) rfl ?_
            refine o_aload X50 hx hby at_295 297 rfl rfl rfl ?_
            refine st51.trans ?_
            show Steps p.tables e below (T51.setTop (mkF m 300 #[.val (.int p0), .val (.int p1), .val (.int p2), .val (.long q3), .second, .val (.int v1), .val (.int v2), .val (.int v3), .val (.ref uS), .val (.int (1 : Int32)), .val (.int v16), .val (.int (0 : Int32)), .val (.int v18), .val (.ref b45_b), .val (.ref b46_b), .val .null, .val (.long (0 : Int64)), .second, .val .null, .val .null, .val (.ref b49)] [(.int (0 : Int32))])) _
            exact k
          have go135 : Go p e below A0 (T51.setTop (mkF m 302 #[.val (.int p0), .val (.int p1), .val (.int p2), .val (.long q3), .second, .val (.int v1), .val (.int v2), .val (.int v3), .val (.ref uS), .val (.int (1 : Int32)), .val (.int v16), .val (.int (0 : Int32)), .val (.int v18), .val (.ref b45_b), .val (.ref b46_b), .val .null, .val (.long (0 : Int64)), .second, .val .null, .val .null, .val (.ref b49)] [(.int v16), (.int (0 : Int32))])) := by
            intro t k
            refine go134 t ?_
            refine o_iload X51 hx hby at_300 302 rfl rfl ?_
            exact k
          obtain ⟨v21, hv21, go138⟩ : ∃ (v21 : Int32), v21 = (if (0 : Int32) = v16 then (1 : Int32) else (0 : Int32)) ∧ Go p e below A0 (T51.setTop (mkF m 310 #[.val (.int p0), .val (.int p1), .val (.int p2), .val (.long q3), .second, .val (.int v1), .val (.int v2), .val (.int v3), .val (.ref uS), .val (.int (1 : Int32)), .val (.int v16), .val (.int (0 : Int32)), .val (.int v18), .val (.ref b45_b), .val (.ref b46_b), .val .null, .val (.long (0 : Int64)), .second, .val .null, .val .null, .val (.ref b49)] [(.int v21)])) := by
            by_cases hc302_52 : (0 : Int32) = v16
            · have go136 : Go p e below A0 (T51.setTop (mkF m 310 #[.val (.int p0), .val (.int p1), .val (.int p2), .val (.long q3), .second, .val (.int v1), .val (.int v2), .val (.int v3), .val (.ref uS), .val (.int (1 : Int32)), .val (.int v16), .val (.int (0 : Int32)), .val (.int v18), .val (.ref b45_b), .val (.ref b46_b), .val .null, .val (.long (0 : Int64)), .second, .val .null, .val .null, .val (.ref b49)] [(.int (1 : Int32))])) := by
                intro t k
                refine go135 t ?_
                refine o_icmpN X51 hx hby at_302 305 rfl (teq hc302_52).2 ?_
                refine o_iconst X51 hx hby at_305 306 rfl (v := (1 : Int32)) rfl ?_
                refine o_goto X51 hx hby at_306 310 rfl ?_
                exact k
              exact ⟨(1 : Int32), (if_pos hc302_52).symm, go136⟩
            · have go137 : Go p e below A0 (T51.setTop (mkF m 310 #[.val (.int p0), .val (.int p1), .val (.int p2), .val (.long q3), .second, .val (.int v1), .val (.int v2), .val (.int v3), .val (.ref uS), .val (.int (1 : Int32)), .val (.int v16), .val (.int (0 : Int32)), .val (.int v18), .val (.ref b45_b), .val (.ref b46_b), .val .null, .val (.long (0 : Int64)), .second, .val .null, .val .null, .val (.ref b49)] [(.int (0 : Int32))])) := by
                intro t k
                refine go135 t ?_
                refine o_icmpY X51 hx hby at_302 309 rfl (feq hc302_52).2 ?_
                refine o_iconst X51 hx hby at_309 310 rfl (v := (0 : Int32)) rfl ?_
                exact k
              exact ⟨(0 : Int32), (if_neg hc302_52).symm, go137⟩
          obtain rfl : v21 = (1 : Int32) := pl_0_4 p0 p1 p2 q3 uA uS uI cs v1 v2 v3 v16 v18 v19 v20 v21 hv1 hv2 hv3 hv16 hv18 hv19 hv20 hv21 hc28_2 hc42_18 hc225_47 hc248_48
          subst hA0
          obtain ⟨fs, hr, hrun, hended, hRW⟩ := X51.leaveW (s := s) S50 (by rw [e51]; exact (Nat.le_refl _)) (v := some (.int (1 : Int32))) (fun h => by rw [Bd.returns] at h; cases h)
          refine ⟨_, _, go138 _ (o_retZ X51 hx Bd.returns (hb hby at_310) (Or.inr rfl) hr), hrun, hended, _, _, rfl, ?_, hRW.1, hRW.2.1, hRW.2.2.1, hRW.2.2.2.mono (by decide) (by decide)⟩
          show Q0 Z p0 p1 p2 q3 uA uS uI cs h0 n0 _ T51.heap _
          rw [e51]
          exact ⟨rfl, N51⟩
        · have go139 : Go p e below A0 (T46.setTop (mkF m 259 #[.val (.int p0), .val (.int p1), .val (.int p2), .val (.long q3), .second, .val (.int v1), .val (.int v2), .val (.int v3), .val (.ref uS), .val (.int (1 : Int32)), .val (.int v16), .val (.int (0 : Int32)), .val (.int v18), .val (.ref b45_b), .val (.ref b46_b), .val .null, .val (.long (0 : Int64)), .second, .val .null, .unset, .unset] [(.int ((((p2.toUInt32 >>> ((4 : Int32) &&& 31).toUInt32).toInt32) &&& (255 : Int32)).toUInt32.toUInt16.toUInt32.toInt32))])) := by
            intro t k
            refine go132 t ?_
            refine o_ifN X46 hx hby at_248 251 rfl (feq hc248_48).1 ?_
            refine o_iloadN X46 hx hby at_251 252 rfl rfl ?_
            refine o_iconst X46 hx hby at_252 253 rfl (v := (4 : Int32)) rfl ?_
            refine o_iushr X46 hx hby at_253 254 rfl ?_
            refine o_sipush X46 hx hby at_254 257 rfl (v := (255 : Int32)) rfl ?_
            refine o_iand X46 hx hby at_257 258 rfl ?_
            refine o_i2c X46 hx hby at_258 259 rfl ?_
            exact k
          obtain ⟨v22, hv22, go140⟩ : ∃ v22 : Int32, v22 = ((((p2.toUInt32 >>> ((4 : Int32) &&& 31).toUInt32).toInt32) &&& (255 : Int32)).toUInt32.toUInt16.toUInt32.toInt32) ∧ Go p e below A0 (T46.setTop (mkF m 259 #[.val (.int p0), .val (.int p1), .val (.int p2), .val (.long q3), .second, .val (.int v1), .val (.int v2), .val (.int v3), .val (.ref uS), .val (.int (1 : Int32)), .val (.int v16), .val (.int (0 : Int32)), .val (.int v18), .val (.ref b45_b), .val (.ref b46_b), .val .null, .val (.long (0 : Int64)), .second, .val .null, .unset, .unset] [(.int v22)])) := ⟨_, rfl, go139⟩
          have f_c255_19 : ¬ (255 : Int32) < v22 := pf0_c255_18 p0 p1 p2 q3 uA uS uI cs v1 v2 v3 v16 v18 v19 v20 v22 hv1 hv2 hv3 hv16 hv18 hv19 hv20 hv22 hc28_2 hc42_18 hc225_47 hc248_48
          obtain ⟨_, _, ⟨T53, L53, k53, n53⟩, -, X53, ⟨Lc53, hQ53, l53, y53, z53⟩, st53⟩ := Jvm.LawKit.callS X46 hx (y := (⟨"java/lang/String", "valueOf", "(C)Ljava/lang/String;"⟩ : MethodName)) hown (mvT hZ (hw _ (List.mem_of_getElem? (i := 56) rfl))) (mvT hZ (hw _ (List.mem_of_getElem? (i := 57) rfl))) (mvT hZ (hw _ (List.mem_of_getElem? (i := 19) rfl))) (mvT hZ (hw _ (List.mem_of_getElem? (i := 58) rfl))) (by decide) (backOf (W := 0) (rm6 l Z aw hw [] v22 cs T46.heap n0 Zp46 (r3) (f62) (hcs) (f_c255_19)) hZ (hw _ (List.mem_of_getElem? (i := 58) rfl)) (hw _ (List.mem_of_getElem? (i := 19) rfl)) (by decide) (by decide)) (g := (mkF m 259 #[.val (.int p0), .val (.int p1), .val (.int p2), .val (.long q3), .second, .val (.int v1), .val (.int v2), .val (.int v3), .val (.ref uS), .val (.int (1 : Int32)), .val (.int v16), .val (.int (0 : Int32)), .val (.int v18), .val (.ref b45_b), .val (.ref b46_b), .val .null, .val (.long (0 : Int64)), .second, .val .null, .unset, .unset] [(.int v22)])) rfl (by rw [hml]; rfl) (argsL := [(.int v22)]) (rest := []) (lenOf pd_13 rfl) rfl (by show 2 * 0 + _ ≤ _; exact Nat.le_of_eq rfl) (hb hby at_259) (fun _ _ => ⟨rfl, rfl, (by decide : 4 + 2 ≤ _), (by decide : 10 + 5 ≤ _)⟩)
          dsimp only [Pt.U, Pt.locs, Pt.cells, Pt.slots] at X53 l53 y53 z53 st53 hQ53
          subst l53 y53 z53
          obtain ⟨b53_b, rfl, N53q, K53q, sz_b53_bq, -⟩ := hQ53
          have g_b53_b : n0 ≤ b53_b := Nat.le_trans Zp46 sz_b53_bq
          have f77 : Old Z n0 T53.heap := f62.keep K53q all0
          have Zp53 : n0 ≤ T53.heap.size := Nat.le_trans Zp46 K53q.1
          have N53 := Fr.app N46 N53q
          have go141 : Go p e below A0 (T53.setTop (mkF m 262 #[.val (.int p0), .val (.int p1), .val (.int p2), .val (.long q3), .second, .val (.int v1), .val (.int v2), .val (.int v3), .val (.ref uS), .val (.int (1 : Int32)), .val (.int v16), .val (.int (0 : Int32)), .val (.int v18), .val (.ref b45_b), .val (.ref b46_b), .val .null, .val (.long (0 : Int64)), .second, .val .null, .unset, .unset] [(.ref b53_b)])) := by
            intro t k
            refine go140 t ?_
            refine st53 _ ?_
            show Steps p.tables e below (T53.setTop (mkF m 262 #[.val (.int p0), .val (.int p1), .val (.int p2), .val (.long q3), .second, .val (.int v1), .val (.int v2), .val (.int v3), .val (.ref uS), .val (.int (1 : Int32)), .val (.int v16), .val (.int (0 : Int32)), .val (.int v18), .val (.ref b45_b), .val (.ref b46_b), .val .null, .val (.long (0 : Int64)), .second, .val .null, .unset, .unset] [(.ref b53_b)])) _
            exact k
          obtain ⟨T54, h54, X54, e54, E54, A54, D54, -, st54⟩ := newO X53 hx hZ hown (hw _ (List.mem_of_getElem? (i := 4) rfl)) (hw _ (List.mem_of_getElem? (i := 5) rfl)) (hw _ (List.mem_of_getElem? (i := 6) rfl)) rfl (g := (mkF m 268 #[.val (.int p0), .val (.int p1), .val (.int p2), .val (.long q3), .second, .val (.int v1), .val (.int v2), .val (.int v3), .val (.ref uS), .val (.int (1 : Int32)), .val (.int v16), .val (.int (0 : Int32)), .val (.int v18), .val (.ref b45_b), .val (.ref b46_b), .val .null, .val (.long (0 : Int64)), .second, .val .null, .val (.ref b53_b), .unset] [])) rfl (hb hby at_268) (by decide) (by decide)
          obtain ⟨b54, g54⟩ : ∃ z, z = T53.heap.size := ⟨_, rfl⟩
          rw [← g54] at A54 D54 st54
          have g_b54 : n0 ≤ b54 := Nat.le_trans Zp53 (Nat.le_of_eq g54.symm)
          have f78 : Old Z n0 h54 := f77.ext E54
          have Zp54 : n0 ≤ h54.size := Nat.le_trans Zp53 E54.1
          have f79 : Exa Z h54 b54 "org/shardwright/model/ShardCopy" := A54
          have f80 : Fld Z h54 b54 "org/shardwright/model/ShardCopy" "shard" "I" (.int (0 : Int32)) := D54 (Or.inr (hw _ (List.mem_of_getElem? (i := 32) rfl))) (ty := .int) (by decide)
          have f81 : Fld Z h54 b54 "org/shardwright/model/ShardCopy" "primary" "Z" (.int (0 : Int32)) := D54 (Or.inr (hw _ (List.mem_of_getElem? (i := 34) rfl))) (ty := .boolean) (by decide)
          have f82 : Fld Z h54 b54 "org/shardwright/model/ShardCopy" "state" "Lorg/shardwright/model/ShardCopy$State;" .null := D54 (Or.inr (hw _ (List.mem_of_getElem? (i := 36) rfl))) (ty := (.object "org/shardwright/model/ShardCopy$State")) (by decide)
          have f83 : Fld Z h54 b54 "org/shardwright/model/ShardCopy" "nodeId" "Ljava/lang/String;" .null := D54 (Or.inr (hw _ (List.mem_of_getElem? (i := 38) rfl))) (ty := (.object "java/lang/String")) (by decide)
          have f84 : Fld Z h54 b54 "org/shardwright/model/ShardCopy" "allocationId" "Ljava/lang/String;" .null := D54 (Or.inr (hw _ (List.mem_of_getElem? (i := 40) rfl))) (ty := (.object "java/lang/String")) (by decide)
          have f85 : Fld Z h54 b54 "org/shardwright/model/ShardCopy" "lastNodeId" "Ljava/lang/String;" .null := D54 (Or.inr (hw _ (List.mem_of_getElem? (i := 42) rfl))) (ty := (.object "java/lang/String")) (by decide)
          have f86 : Fld Z h54 b54 "org/shardwright/model/ShardCopy" "unassignedAtMillis" "J" (.long (0 : Int64)) := D54 (Or.inr (hw _ (List.mem_of_getElem? (i := 44) rfl))) (ty := .long) (by decide)
          have f87 : Fld Z h54 b54 "org/shardwright/model/ShardCopy" "replaces" "Ljava/lang/String;" .null := D54 (Or.inr (hw _ (List.mem_of_getElem? (i := 46) rfl))) (ty := (.object "java/lang/String")) (by decide)
          have f88 : Fld Z h54 b54 "org/shardwright/model/ShardCopy" "handsOverTo" "Ljava/lang/String;" .null := D54 (Or.inr (hw _ (List.mem_of_getElem? (i := 48) rfl))) (ty := (.object "java/lang/String")) (by decide)
          have go142 : Go p e below A0 (T54.setTop (mkF m 290 #[.val (.int p0), .val (.int p1), .val (.int p2), .val (.long q3), .second, .val (.int v1), .val (.int v2), .val (.int v3), .val (.ref uS), .val (.int (1 : Int32)), .val (.int v16), .val (.int (0 : Int32)), .val (.int v18), .val (.ref b45_b), .val (.ref b46_b), .val .null, .val (.long (0 : Int64)), .second, .val .null, .val (.ref b53_b), .unset] [(.ref b53_b), .null, (.long (0 : Int64)), .null, (.ref b46_b), (.ref b45_b), (.ref uS), (.int v2), (.int v1), (.ref b54), (.ref b54)])) := by
            intro t k
            refine go141 t ?_
            refine o_goto X53 hx hby at_262 266 rfl ?_
            refine o_astore X53 hx hby at_266 268 rfl rfl (l' := #[.val (.int p0), .val (.int p1), .val (.int p2), .val (.long q3), .second, .val (.int v1), .val (.int v2), .val (.int v3), .val (.ref uS), .val (.int (1 : Int32)), .val (.int v16), .val (.int (0 : Int32)), .val (.int v18), .val (.ref b45_b), .val (.ref b46_b), .val .null, .val (.long (0 : Int64)), .second, .val .null, .val (.ref b53_b), .unset]) rfl ?_
            refine st54 _ ?_
            show Steps p.tables e below (T54.setTop (mkF m 271 #[.val (.int p0), .val (.int p1), .val (.int p2), .val (.long q3), .second, .val (.int v1), .val (.int v2), .val (.int v3), .val (.ref uS), .val (.int (1 : Int32)), .val (.int v16), .val (.int (0 : Int32)), .val (.int v18), .val (.ref b45_b), .val (.ref b46_b), .val .null, .val (.long (0 : Int64)), .second, .val .null, .val (.ref b53_b), .unset] [(.ref b54)])) _
            refine o_dup X54 hx hby at_271 272 rfl rfl ?_
            refine o_iload X54 hx hby at_272 274 rfl rfl ?_
            refine o_iload X54 hx hby at_274 276 rfl rfl ?_
            refine o_aload X54 hx hby at_276 278 rfl rfl rfl ?_
            refine o_aload X54 hx hby at_278 280 rfl rfl rfl ?_
            refine o_aload X54 hx hby at_280 282 rfl rfl rfl ?_
            refine o_aload X54 hx hby at_282 284 rfl rfl rfl ?_
            refine o_lload X54 hx hby at_284 286 rfl rfl ?_
            refine o_aload X54 hx hby at_286 288 rfl rfl rfl ?_
            refine o_aload X54 hx hby at_288 290 rfl rfl rfl ?_
            exact k
          have f_nn_20 : ¬ v1 < 0 := pf0_nn_19 p0 p1 p2 q3 uA uS uI cs v1 v2 v3 v16 v18 v19 v20 v22 hv1 hv2 hv3 hv16 hv18 hv19 hv20 hv22 hc28_2 hc42_18 hc225_47 hc248_48
          have f_p2nz_21 : ¬ (v2 = 0) := pf0_p2nz_20 p0 p1 p2 q3 uA uS uI cs v1 v2 v3 v16 v18 v19 v20 v22 hv1 hv2 hv3 hv16 hv18 hv19 hv20 hv22 hc28_2 hc42_18 hc225_47 hc248_48
          obtain ⟨_, _, ⟨T55, L55, k55, n55⟩, -, X55, S55, gr55, ⟨Lc55, hQ55, l55, y55, z55⟩, st55⟩ := X54.specialBackS hx (y := (⟨"org/shardwright/model/ShardCopy", "<init>", "(IZLorg/shardwright/model/ShardCopy$State;Ljava/lang/String;Ljava/lang/String;Ljava/lang/String;JLjava/lang/String;Ljava/lang/String;)V"⟩ : MethodName)) rfl hown (mvT hZ (hw _ (List.mem_of_getElem? (i := 7) rfl))) (mvT hZ (hw _ (List.mem_of_getElem? (i := 8) rfl))) (mvT hZ (hw _ (List.mem_of_getElem? (i := 9) rfl))) (by decide) (backOfS (W := 1) (rm1E l Z aw hw [] b54 v1 v2 uS b45_b b46_b b53_b uA h54 n0 Zp54 (f79) (g_b54) (f80) (f81) (f82) (f83) (f84) (f85) (f86) (f87) (f88) (r0) (f78) ((by rw [hv2]; repeat' (first | exact Or.inl rfl | exact Or.inr rfl | split))) (f_nn_20) (r7) (r1) (f_p2nz_21)) hZ (hw _ (List.mem_of_getElem? (i := 9) rfl)) (hw _ (List.mem_of_getElem? (i := 6) rfl)) (by decide) (by decide)) (g := (mkF m 290 #[.val (.int p0), .val (.int p1), .val (.int p2), .val (.long q3), .second, .val (.int v1), .val (.int v2), .val (.int v3), .val (.ref uS), .val (.int (1 : Int32)), .val (.int v16), .val (.int (0 : Int32)), .val (.int v18), .val (.ref b45_b), .val (.ref b46_b), .val .null, .val (.long (0 : Int64)), .second, .val .null, .val (.ref b53_b), .unset] [(.ref b53_b), .null, (.long (0 : Int64)), .null, (.ref b46_b), (.ref b45_b), (.ref uS), (.int v2), (.int v1), (.ref b54), (.ref b54)])) rfl (by rw [hml]; rfl) (Steps.refl _) (a := b54) (argsL := [(.int v1), (.int v2), (.ref uS), (.ref b45_b), (.ref b46_b), .null, (.long (0 : Int64)), .null, (.ref b53_b)]) (rest := [(.ref b54)]) (lenOf pd_11 rfl) rfl (by show 2 * 0 + _ ≤ _; exact Nat.le_of_eq rfl) (hb hby at_290) (fun _ _ => ⟨rfl, e54, (by decide : 7 + 2 ≤ _), (by decide : 24 + 24 ≤ _)⟩)
          dsimp only [Pt.U, Pt.locs, Pt.cells, Pt.slots] at X55 l55 y55 z55 st55 hQ55 S55 gr55
          subst l55 y55 z55
          have hZ55q := State.Warmed39.trans hZ S55.1
          have hown55q : (s.setVm T55.vm).vm.findClass "org/shardwright/model/ShardCopyMovedInPinLaw" = some m.cls := by rw [show (s.setVm T55.vm).vm = T55.vm from rfl, S55.1.alike.findClass]; exact hown
          clear hZ hown
          obtain ⟨hZ, hown⟩ := And.intro hZ55q hown55q
          obtain ⟨rfl, N55q, K55q, qf55_0, -⟩ := hQ55
          have f89 : Old Z n0 T55.heap := f78.keep K55q (allS g_b54 all0)
          have f90 : Exa Z T55.heap b54 "org/shardwright/model/ShardCopy" := f79.keep K55q
          have Zp55 : n0 ≤ T55.heap.size := Nat.le_trans Zp54 K55q.1
          have f91 : Fld Z T55.heap b54 "org/shardwright/model/ShardCopy" "replaces" "Ljava/lang/String;" .null := qf55_0
          have N55 := Fr.app N53 N55q
          obtain ⟨cq56, kq56, q56a, q56b, q56c⟩ := isOf hZ rfl f90
          obtain ⟨_, _, ⟨T56, L56, k56, n56⟩, -, X56, ⟨Lc56, hQ56, l56, y56, z56⟩, st56⟩ := X55.virtualBack hx (y := (⟨"org/shardwright/model/ShardCopy", "movedIn", "()Z"⟩ : MethodName)) (z := (⟨"org/shardwright/model/ShardCopy", "movedIn", "()Z"⟩ : MethodName)) hown (mvT hZ (hw _ (List.mem_of_getElem? (i := 49) rfl))) (mvT hZ (hw _ (List.mem_of_getElem? (i := 50) rfl))) (notFace_of_selects (args := #[]) (mvT hZ (hw _ (List.mem_of_getElem? (i := 52) rfl)))) (mvT hZ (hw _ (List.mem_of_getElem? (i := 52) rfl))) (mvT hZ (hw _ (List.mem_of_getElem? (i := 51) rfl))) (by decide) (backOf (W := 0) (rm5n l Z aw hw [] b54 T55.heap n0 Zp55 (f91)) hZ (hw _ (List.mem_of_getElem? (i := 53) rfl)) (hw _ (List.mem_of_getElem? (i := 6) rfl)) (by decide) (by decide)) q56a q56c (g := (mkF m 297 #[.val (.int p0), .val (.int p1), .val (.int p2), .val (.long q3), .second, .val (.int v1), .val (.int v2), .val (.int v3), .val (.ref uS), .val (.int (1 : Int32)), .val (.int v16), .val (.int (0 : Int32)), .val (.int v18), .val (.ref b45_b), .val (.ref b46_b), .val .null, .val (.long (0 : Int64)), .second, .val .null, .val (.ref b53_b), .val (.ref b54)] [(.ref b54)])) rfl (by rw [hml]; rfl) (Steps.refl _) (argsL := []) (rest := []) (lenOf pd_12 rfl) rfl (by show 2 * 0 + _ ≤ _; exact Nat.le_of_eq rfl) (hb hby at_297) (fun _ _ => ⟨rfl, rfl, (by decide : 9 + 0 ≤ _), (by decide : 48 + 0 ≤ _)⟩)
          dsimp only [Pt.U, Pt.locs, Pt.cells, Pt.slots] at X56 l56 y56 z56 st56 hQ56
          subst l56 y56 z56
          obtain ⟨rfl, N56q, e56⟩ := hQ56
          have N56 := Fr.app N55 N56q
          have go143 : Go p e below A0 (T56.setTop (mkF m 300 #[.val (.int p0), .val (.int p1), .val (.int p2), .val (.long q3), .second, .val (.int v1), .val (.int v2), .val (.int v3), .val (.ref uS), .val (.int (1 : Int32)), .val (.int v16), .val (.int (0 : Int32)), .val (.int v18), .val (.ref b45_b), .val (.ref b46_b), .val .null, .val (.long (0 : Int64)), .second, .val .null, .val (.ref b53_b), .val (.ref b54)] [(.int (0 : Int32))])) := by
            intro t k
            refine go142 t ?_
            refine st55.trans ?_
            show Steps p.tables e below (T55.setTop (mkF m 293 #[.val (.int p0), .val (.int p1), .val (.int p2), .val (.long q3), .second, .val (.int v1), .val (.int v2), .val (.int v3), .val (.ref uS), .val (.int (1 : Int32)), .val (.int v16), .val (.int (0 : Int32)), .val (.int v18), .val (.ref b45_b), .val (.ref b46_b), .val .null, .val (.long (0 : Int64)), .second, .val .null, .val (.ref b53_b), .unset] [(.ref b54)])) _
            refine o_astore X55 hx hby at_293 295 rfl rfl (l' := #[.val (.int p0), .val (.int p1), .val (.int p2), .val (.long q3), .second, .val (.int v1), .val (.int v2), .val (.int v3), .val (.ref uS), .val (.int (1 : Int32)), .val (.int v16), .val (.int (0 : Int32)), .val (.int v18), .val (.ref b45_b), .val (.ref b46_b), .val .null, .val (.long (0 : Int64)), .second, .val .null, .val (.ref b53_b), .val (.ref b54)]) rfl ?_
            refine o_aload X55 hx hby at_295 297 rfl rfl rfl ?_
            refine st56.trans ?_
            show Steps p.tables e below (T56.setTop (mkF m 300 #[.val (.int p0), .val (.int p1), .val (.int p2), .val (.long q3), .second, .val (.int v1), .val (.int v2), .val (.int v3), .val (.ref uS), .val (.int (1 : Int32)), .val (.int v16), .val (.int (0 : Int32)), .val (.int v18), .val (.ref b45_b), .val (.ref b46_b), .val .null, .val (.long (0 : Int64)), .second, .val .null, .val (.ref b53_b), .val (.ref b54)] [(.int (0 : Int32))])) _
            exact k
          have go144 : Go p e below A0 (T56.setTop (mkF m 302 #[.val (.int p0), .val (.int p1), .val (.int p2), .val (.long q3), .second, .val (.int v1), .val (.int v2), .val (.int v3), .val (.ref uS), .val (.int (1 : Int32)), .val (.int v16), .val (.int (0 : Int32)), .val (.int v18), .val (.ref b45_b), .val (.ref b46_b), .val .null, .val (.long (0 : Int64)), .second, .val .null, .val (.ref b53_b), .val (.ref b54)] [(.int v16), (.int (0 : Int32))])) := by
            intro t k
            refine go143 t ?_
            refine o_iload X56 hx hby at_300 302 rfl rfl ?_
            exact k
          obtain ⟨v23, hv23, go147⟩ : ∃ (v23 : Int32), v23 = (if (0 : Int32) = v16 then (1 : Int32) else (0 : Int32)) ∧ Go p e below A0 (T56.setTop (mkF m 310 #[.val (.int p0), .val (.int p1), .val (.int p2), .val (.long q3), .second, .val (.int v1), .val (.int v2), .val (.int v3), .val (.ref uS), .val (.int (1 : Int32)), .val (.int v16), .val (.int (0 : Int32)), .val (.int v18), .val (.ref b45_b), .val (.ref b46_b), .val .null, .val (.long (0 : Int64)), .second, .val .null, .val (.ref b53_b), .val (.ref b54)] [(.int v23)])) := by
            by_cases hc302_57 : (0 : Int32) = v16
            · have go145 : Go p e below A0 (T56.setTop (mkF m 310 #[.val (.int p0), .val (.int p1), .val (.int p2), .val (.long q3), .second, .val (.int v1), .val (.int v2), .val (.int v3), .val (.ref uS), .val (.int (1 : Int32)), .val (.int v16), .val (.int (0 : Int32)), .val (.int v18), .val (.ref b45_b), .val (.ref b46_b), .val .null, .val (.long (0 : Int64)), .second, .val .null, .val (.ref b53_b), .val (.ref b54)] [(.int (1 : Int32))])) := by
                intro t k
                refine go144 t ?_
                refine o_icmpN X56 hx hby at_302 305 rfl (teq hc302_57).2 ?_
                refine o_iconst X56 hx hby at_305 306 rfl (v := (1 : Int32)) rfl ?_
                refine o_goto X56 hx hby at_306 310 rfl ?_
                exact k
              exact ⟨(1 : Int32), (if_pos hc302_57).symm, go145⟩
            · have go146 : Go p e below A0 (T56.setTop (mkF m 310 #[.val (.int p0), .val (.int p1), .val (.int p2), .val (.long q3), .second, .val (.int v1), .val (.int v2), .val (.int v3), .val (.ref uS), .val (.int (1 : Int32)), .val (.int v16), .val (.int (0 : Int32)), .val (.int v18), .val (.ref b45_b), .val (.ref b46_b), .val .null, .val (.long (0 : Int64)), .second, .val .null, .val (.ref b53_b), .val (.ref b54)] [(.int (0 : Int32))])) := by
                intro t k
                refine go144 t ?_
                refine o_icmpY X56 hx hby at_302 309 rfl (feq hc302_57).2 ?_
                refine o_iconst X56 hx hby at_309 310 rfl (v := (0 : Int32)) rfl ?_
                exact k
              exact ⟨(0 : Int32), (if_neg hc302_57).symm, go146⟩
          obtain rfl : v23 = (1 : Int32) := pl_0_5 p0 p1 p2 q3 uA uS uI cs v1 v2 v3 v16 v18 v19 v20 v22 v23 hv1 hv2 hv3 hv16 hv18 hv19 hv20 hv22 hv23 hc28_2 hc42_18 hc225_47 hc248_48
          subst hA0
          obtain ⟨fs, hr, hrun, hended, hRW⟩ := X56.leaveW (s := s) S55 (by rw [e56]; exact (Nat.le_refl _)) (v := some (.int (1 : Int32))) (fun h => by rw [Bd.returns] at h; cases h)
          refine ⟨_, _, go147 _ (o_retZ X56 hx Bd.returns (hb hby at_310) (Or.inr rfl) hr), hrun, hended, _, _, rfl, ?_, hRW.1, hRW.2.1, hRW.2.2.1, hRW.2.2.2.mono (by decide) (by decide)⟩
          show Q0 Z p0 p1 p2 q3 uA uS uI cs h0 n0 _ T56.heap _
          rw [e56]
          exact ⟨rfl, N56⟩
      · have go148 : Go p e below A0 (T46.setTop (mkF m 237 #[.val (.int p0), .val (.int p1), .val (.int p2), .val (.long q3), .second, .val (.int v1), .val (.int v2), .val (.int v3), .val (.ref uS), .val (.int (1 : Int32)), .val (.int v16), .val (.int (0 : Int32)), .val (.int v18), .val (.ref b45_b), .val (.ref b46_b), .val .null, .val (.long (0 : Int64)), .second, .unset, .unset, .unset] [(.int ((((p2.toUInt32 >>> ((24 : Int32) &&& 31).toUInt32).toInt32) &&& (255 : Int32)).toUInt32.toUInt16.toUInt32.toInt32))])) := by
          intro t k
          refine go131 t ?_
          refine o_ifN X46 hx hby at_225 228 rfl (feq hc225_47).1 ?_
          refine o_iloadN X46 hx hby at_228 229 rfl rfl ?_
          refine o_bipush X46 hx hby at_229 231 rfl (v := (24 : Int32)) rfl ?_
          refine o_iushr X46 hx hby at_231 232 rfl ?_
          refine o_sipush X46 hx hby at_232 235 rfl (v := (255 : Int32)) rfl ?_
          refine o_iand X46 hx hby at_235 236 rfl ?_
          refine o_i2c X46 hx hby at_236 237 rfl ?_
          exact k
        obtain ⟨v24, hv24, go149⟩ : ∃ v24 : Int32, v24 = ((((p2.toUInt32 >>> ((24 : Int32) &&& 31).toUInt32).toInt32) &&& (255 : Int32)).toUInt32.toUInt16.toUInt32.toInt32) ∧ Go p e below A0 (T46.setTop (mkF m 237 #[.val (.int p0), .val (.int p1), .val (.int p2), .val (.long q3), .second, .val (.int v1), .val (.int v2), .val (.int v3), .val (.ref uS), .val (.int (1 : Int32)), .val (.int v16), .val (.int (0 : Int32)), .val (.int v18), .val (.ref b45_b), .val (.ref b46_b), .val .null, .val (.long (0 : Int64)), .second, .unset, .unset, .unset] [(.int v24)])) := ⟨_, rfl, go148⟩
        have f_c255_23 : ¬ (255 : Int32) < v24 := pf0_c255_22 p0 p1 p2 q3 uA uS uI cs v1 v2 v3 v16 v18 v19 v20 v24 hv1 hv2 hv3 hv16 hv18 hv19 hv20 hv24 hc28_2 hc42_18 hc225_47
        obtain ⟨_, _, ⟨T58, L58, k58, n58⟩, -, X58, ⟨Lc58, hQ58, l58, y58, z58⟩, st58⟩ := Jvm.LawKit.callS X46 hx (y := (⟨"java/lang/String", "valueOf", "(C)Ljava/lang/String;"⟩ : MethodName)) hown (mvT hZ (hw _ (List.mem_of_getElem? (i := 56) rfl))) (mvT hZ (hw _ (List.mem_of_getElem? (i := 57) rfl))) (mvT hZ (hw _ (List.mem_of_getElem? (i := 19) rfl))) (mvT hZ (hw _ (List.mem_of_getElem? (i := 58) rfl))) (by decide) (backOf (W := 0) (rm6 l Z aw hw [] v24 cs T46.heap n0 Zp46 (r3) (f62) (hcs) (f_c255_23)) hZ (hw _ (List.mem_of_getElem? (i := 58) rfl)) (hw _ (List.mem_of_getElem? (i := 19) rfl)) (by decide) (by decide)) (g := (mkF m 237 #[.val (.int p0), .val (.int p1), .val (.int p2), .val (.long q3), .second, .val (.int v1), .val (.int v2), .val (.int v3), .val (.ref uS), .val (.int (1 : Int32)), .val (.int v16), .val (.int (0 : Int32)), .val (.int v18), .val (.ref b45_b), .val (.ref b46_b), .val .null, .val (.long (0 : Int64)), .second, .unset, .unset, .unset] [(.int v24)])) rfl (by rw [hml]; rfl) (argsL := [(.int v24)]) (rest := []) (lenOf pd_13 rfl) rfl (by show 2 * 0 + _ ≤ _; exact Nat.le_of_eq rfl) (hb hby at_237) (fun _ _ => ⟨rfl, rfl, (by decide : 4 + 2 ≤ _), (by decide : 10 + 5 ≤ _)⟩)
        dsimp only [Pt.U, Pt.locs, Pt.cells, Pt.slots] at X58 l58 y58 z58 st58 hQ58
        subst l58 y58 z58
        obtain ⟨b58_b, rfl, N58q, K58q, sz_b58_bq, -⟩ := hQ58
        have g_b58_b : n0 ≤ b58_b := Nat.le_trans Zp46 sz_b58_bq
        have f92 : Old Z n0 T58.heap := f62.keep K58q all0
        have Zp58 : n0 ≤ T58.heap.size := Nat.le_trans Zp46 K58q.1
        have N58 := Fr.app N46 N58q
        have go150 : Go p e below A0 (T58.setTop (mkF m 240 #[.val (.int p0), .val (.int p1), .val (.int p2), .val (.long q3), .second, .val (.int v1), .val (.int v2), .val (.int v3), .val (.ref uS), .val (.int (1 : Int32)), .val (.int v16), .val (.int (0 : Int32)), .val (.int v18), .val (.ref b45_b), .val (.ref b46_b), .val .null, .val (.long (0 : Int64)), .second, .unset, .unset, .unset] [(.ref b58_b)])) := by
          intro t k
          refine go149 t ?_
          refine st58 _ ?_
          show Steps p.tables e below (T58.setTop (mkF m 240 #[.val (.int p0), .val (.int p1), .val (.int p2), .val (.long q3), .second, .val (.int v1), .val (.int v2), .val (.int v3), .val (.ref uS), .val (.int (1 : Int32)), .val (.int v16), .val (.int (0 : Int32)), .val (.int v18), .val (.ref b45_b), .val (.ref b46_b), .val .null, .val (.long (0 : Int64)), .second, .unset, .unset, .unset] [(.ref b58_b)])) _
          exact k
        have go151 : Go p e below A0 (T58.setTop (mkF m 248 #[.val (.int p0), .val (.int p1), .val (.int p2), .val (.long q3), .second, .val (.int v1), .val (.int v2), .val (.int v3), .val (.ref uS), .val (.int (1 : Int32)), .val (.int v16), .val (.int (0 : Int32)), .val (.int v18), .val (.ref b45_b), .val (.ref b46_b), .val .null, .val (.long (0 : Int64)), .second, .val (.ref b58_b), .unset, .unset] [(.int v18)])) := by
          intro t k
          refine go150 t ?_
          refine o_goto X58 hx hby at_240 244 rfl ?_
          refine o_astore X58 hx hby at_244 246 rfl rfl (l' := #[.val (.int p0), .val (.int p1), .val (.int p2), .val (.long q3), .second, .val (.int v1), .val (.int v2), .val (.int v3), .val (.ref uS), .val (.int (1 : Int32)), .val (.int v16), .val (.int (0 : Int32)), .val (.int v18), .val (.ref b45_b), .val (.ref b46_b), .val .null, .val (.long (0 : Int64)), .second, .val (.ref b58_b), .unset, .unset]) rfl ?_
          refine o_iload X58 hx hby at_246 248 rfl rfl ?_
          exact k
        by_cases hc248_59 : v18 = (0 : Int32)
        · obtain ⟨T60, h60, X60, e60, E60, A60, D60, -, st60⟩ := newO X58 hx hZ hown (hw _ (List.mem_of_getElem? (i := 4) rfl)) (hw _ (List.mem_of_getElem? (i := 5) rfl)) (hw _ (List.mem_of_getElem? (i := 6) rfl)) rfl (g := (mkF m 268 #[.val (.int p0), .val (.int p1), .val (.int p2), .val (.long q3), .second, .val (.int v1), .val (.int v2), .val (.int v3), .val (.ref uS), .val (.int (1 : Int32)), .val (.int v16), .val (.int (0 : Int32)), .val (.int v18), .val (.ref b45_b), .val (.ref b46_b), .val .null, .val (.long (0 : Int64)), .second, .val (.ref b58_b), .val .null, .unset] [])) rfl (hb hby at_268) (by decide) (by decide)
          obtain ⟨b60, g60⟩ : ∃ z, z = T58.heap.size := ⟨_, rfl⟩
          rw [← g60] at A60 D60 st60
          have g_b60 : n0 ≤ b60 := Nat.le_trans Zp58 (Nat.le_of_eq g60.symm)
          have f93 : Old Z n0 h60 := f92.ext E60
          have Zp60 : n0 ≤ h60.size := Nat.le_trans Zp58 E60.1
          have f94 : Exa Z h60 b60 "org/shardwright/model/ShardCopy" := A60
          have f95 : Fld Z h60 b60 "org/shardwright/model/ShardCopy" "shard" "I" (.int (0 : Int32)) := D60 (Or.inr (hw _ (List.mem_of_getElem? (i := 32) rfl))) (ty := .int) (by decide)
          have f96 : Fld Z h60 b60 "org/shardwright/model/ShardCopy" "primary" "Z" (.int (0 : Int32)) := D60 (Or.inr (hw _ (List.mem_of_getElem? (i := 34) rfl))) (ty := .boolean) (by decide)
          have f97 : Fld Z h60 b60 "org/shardwright/model/ShardCopy" "state" "Lorg/shardwright/model/ShardCopy$State;" .null := D60 (Or.inr (hw _ (List.mem_of_getElem? (i := 36) rfl))) (ty := (.object "org/shardwright/model/ShardCopy$State")) (by decide)
          have f98 : Fld Z h60 b60 "org/shardwright/model/ShardCopy" "nodeId" "Ljava/lang/String;" .null := D60 (Or.inr (hw _ (List.mem_of_getElem? (i := 38) rfl))) (ty := (.object "java/lang/String")) (by decide)
          have f99 : Fld Z h60 b60 "org/shardwright/model/ShardCopy" "allocationId" "Ljava/lang/String;" .null := D60 (Or.inr (hw _ (List.mem_of_getElem? (i := 40) rfl))) (ty := (.object "java/lang/String")) (by decide)
          have f100 : Fld Z h60 b60 "org/shardwright/model/ShardCopy" "lastNodeId" "Ljava/lang/String;" .null := D60 (Or.inr (hw _ (List.mem_of_getElem? (i := 42) rfl))) (ty := (.object "java/lang/String")) (by decide)
          have f101 : Fld Z h60 b60 "org/shardwright/model/ShardCopy" "unassignedAtMillis" "J" (.long (0 : Int64)) := D60 (Or.inr (hw _ (List.mem_of_getElem? (i := 44) rfl))) (ty := .long) (by decide)
          have f102 : Fld Z h60 b60 "org/shardwright/model/ShardCopy" "replaces" "Ljava/lang/String;" .null := D60 (Or.inr (hw _ (List.mem_of_getElem? (i := 46) rfl))) (ty := (.object "java/lang/String")) (by decide)
          have f103 : Fld Z h60 b60 "org/shardwright/model/ShardCopy" "handsOverTo" "Ljava/lang/String;" .null := D60 (Or.inr (hw _ (List.mem_of_getElem? (i := 48) rfl))) (ty := (.object "java/lang/String")) (by decide)
          have go152 : Go p e below A0 (T60.setTop (mkF m 290 #[.val (.int p0), .val (.int p1), .val (.int p2), .val (.long q3), .second, .val (.int v1), .val (.int v2), .val (.int v3), .val (.ref uS), .val (.int (1 : Int32)), .val (.int v16), .val (.int (0 : Int32)), .val (.int v18), .val (.ref b45_b), .val (.ref b46_b), .val .null, .val (.long (0 : Int64)), .second, .val (.ref b58_b), .val .null, .unset] [.null, (.ref b58_b), (.long (0 : Int64)), .null, (.ref b46_b), (.ref b45_b), (.ref uS), (.int v2), (.int v1), (.ref b60), (.ref b60)])) := by
            intro t k
            refine go151 t ?_
            refine o_ifY X58 hx hby at_248 265 rfl (teq hc248_59).1 ?_
            refine o_aconstNull X58 hx hby at_265 266 rfl ?_
            refine o_astore X58 hx hby at_266 268 rfl rfl (l' := #[.val (.int p0), .val (.int p1), .val (.int p2), .val (.long q3), .second, .val (.int v1), .val (.int v2), .val (.int v3), .val (.ref uS), .val (.int (1 : Int32)), .val (.int v16), .val (.int (0 : Int32)), .val (.int v18), .val (.ref b45_b), .val (.ref b46_b), .val .null, .val (.long (0 : Int64)), .second, .val (.ref b58_b), .val .null, .unset]) rfl ?_
            refine st60 _ ?_
            show Steps p.tables e below (T60.setTop (mkF m 271 #[.val (.int p0), .val (.int p1), .val (.int p2), .val (.long q3), .second, .val (.int v1), .val (.int v2), .val (.int v3), .val (.ref uS), .val (.int (1 : Int32)), .val (.int v16), .val (.int (0 : Int32)), .val (.int v18), .val (.ref b45_b), .val (.ref b46_b), .val .null, .val (.long (0 : Int64)), .second, .val (.ref b58_b), .val .null, .unset] [(.ref b60)])) _
            refine o_dup X60 hx hby at_271 272 rfl rfl ?_
            refine o_iload X60 hx hby at_272 274 rfl rfl ?_
            refine o_iload X60 hx hby at_274 276 rfl rfl ?_
            refine o_aload X60 hx hby at_276 278 rfl rfl rfl ?_
            refine o_aload X60 hx hby at_278 280 rfl rfl rfl ?_
            refine o_aload X60 hx hby at_280 282 rfl rfl rfl ?_
            refine o_aload X60 hx hby at_282 284 rfl rfl rfl ?_
            refine o_lload X60 hx hby at_284 286 rfl rfl ?_
            refine o_aload X60 hx hby at_286 288 rfl rfl rfl ?_
            refine o_aload X60 hx hby at_288 290 rfl rfl rfl ?_
            exact k
          have f_nn_24 : ¬ v1 < 0 := pf0_nn_23 p0 p1 p2 q3 uA uS uI cs v1 v2 v3 v16 v18 v19 v20 v24 hv1 hv2 hv3 hv16 hv18 hv19 hv20 hv24 hc28_2 hc42_18 hc225_47 hc248_59
          have f_p2z_25 : v2 = 0 := pf0_p2z_24 p0 p1 p2 q3 uA uS uI cs v1 v2 v3 v16 v18 v19 v20 v24 hv1 hv2 hv3 hv16 hv18 hv19 hv20 hv24 hc28_2 hc42_18 hc225_47 hc248_59
          obtain ⟨_, _, ⟨T61, L61, k61, n61⟩, -, X61, S61, gr61, ⟨Lc61, hQ61, l61, y61, z61⟩, st61⟩ := X60.specialBackS hx (y := (⟨"org/shardwright/model/ShardCopy", "<init>", "(IZLorg/shardwright/model/ShardCopy$State;Ljava/lang/String;Ljava/lang/String;Ljava/lang/String;JLjava/lang/String;Ljava/lang/String;)V"⟩ : MethodName)) rfl hown (mvT hZ (hw _ (List.mem_of_getElem? (i := 7) rfl))) (mvT hZ (hw _ (List.mem_of_getElem? (i := 8) rfl))) (mvT hZ (hw _ (List.mem_of_getElem? (i := 9) rfl))) (by decide) (backOfS (W := 1) (rm1D l Z aw hw [] b60 v1 v2 uS b45_b b46_b b58_b uA h60 n0 Zp60 (f94) (g_b60) (f95) (f96) (f97) (f98) (f99) (f100) (f101) (f102) (f103) (r0) (f93) ((by rw [hv2]; repeat' (first | exact Or.inl rfl | exact Or.inr rfl | split))) (f_nn_24) (r7) (f_p2z_25)) hZ (hw _ (List.mem_of_getElem? (i := 9) rfl)) (hw _ (List.mem_of_getElem? (i := 6) rfl)) (by decide) (by decide)) (g := (mkF m 290 #[.val (.int p0), .val (.int p1), .val (.int p2), .val (.long q3), .second, .val (.int v1), .val (.int v2), .val (.int v3), .val (.ref uS), .val (.int (1 : Int32)), .val (.int v16), .val (.int (0 : Int32)), .val (.int v18), .val (.ref b45_b), .val (.ref b46_b), .val .null, .val (.long (0 : Int64)), .second, .val (.ref b58_b), .val .null, .unset] [.null, (.ref b58_b), (.long (0 : Int64)), .null, (.ref b46_b), (.ref b45_b), (.ref uS), (.int v2), (.int v1), (.ref b60), (.ref b60)])) rfl (by rw [hml]; rfl) (Steps.refl _) (a := b60) (argsL := [(.int v1), (.int v2), (.ref uS), (.ref b45_b), (.ref b46_b), .null, (.long (0 : Int64)), (.ref b58_b), .null]) (rest := [(.ref b60)]) (lenOf pd_11 rfl) rfl (by show 2 * 0 + _ ≤ _; exact Nat.le_of_eq rfl) (hb hby at_290) (fun _ _ => ⟨rfl, e60, (by decide : 7 + 2 ≤ _), (by decide : 24 + 24 ≤ _)⟩)
          dsimp only [Pt.U, Pt.locs, Pt.cells, Pt.slots] at X61 l61 y61 z61 st61 hQ61 S61 gr61
          subst l61 y61 z61
          have hZ61q := State.Warmed39.trans hZ S61.1
          have hown61q : (s.setVm T61.vm).vm.findClass "org/shardwright/model/ShardCopyMovedInPinLaw" = some m.cls := by rw [show (s.setVm T61.vm).vm = T61.vm from rfl, S61.1.alike.findClass]; exact hown
          clear hZ hown
          obtain ⟨hZ, hown⟩ := And.intro hZ61q hown61q
          obtain ⟨rfl, N61q, K61q, qf61_0, -⟩ := hQ61
          have f104 : Old Z n0 T61.heap := f93.keep K61q (allS g_b60 all0)
          have f105 : Exa Z T61.heap b60 "org/shardwright/model/ShardCopy" := f94.keep K61q
          have Zp61 : n0 ≤ T61.heap.size := Nat.le_trans Zp60 K61q.1
          have f106 : Fld Z T61.heap b60 "org/shardwright/model/ShardCopy" "replaces" "Ljava/lang/String;" (.ref b58_b) := qf61_0
          have N61 := Fr.app N58 N61q
          obtain ⟨cq62, kq62, q62a, q62b, q62c⟩ := isOf hZ rfl f105
          obtain ⟨_, _, ⟨T62, L62, k62, n62⟩, -, X62, ⟨Lc62, hQ62, l62, y62, z62⟩, st62⟩ := X61.virtualBack hx (y := (⟨"org/shardwright/model/ShardCopy", "movedIn", "()Z"⟩ : MethodName)) (z := (⟨"org/shardwright/model/ShardCopy", "movedIn", "()Z"⟩ : MethodName)) hown (mvT hZ (hw _ (List.mem_of_getElem? (i := 49) rfl))) (mvT hZ (hw _ (List.mem_of_getElem? (i := 50) rfl))) (notFace_of_selects (args := #[]) (mvT hZ (hw _ (List.mem_of_getElem? (i := 52) rfl)))) (mvT hZ (hw _ (List.mem_of_getElem? (i := 52) rfl))) (mvT hZ (hw _ (List.mem_of_getElem? (i := 51) rfl))) (by decide) (backOf (W := 0) (rm5r l Z aw hw [] b60 b58_b T61.heap n0 Zp61 (f106)) hZ (hw _ (List.mem_of_getElem? (i := 53) rfl)) (hw _ (List.mem_of_getElem? (i := 6) rfl)) (by decide) (by decide)) q62a q62c (g := (mkF m 297 #[.val (.int p0), .val (.int p1), .val (.int p2), .val (.long q3), .second, .val (.int v1), .val (.int v2), .val (.int v3), .val (.ref uS), .val (.int (1 : Int32)), .val (.int v16), .val (.int (0 : Int32)), .val (.int v18), .val (.ref b45_b), .val (.ref b46_b), .val .null, .val (.long (0 : Int64)), .second, .val (.ref b58_b), .val .null, .val (.ref b60)] [(.ref b60)])) rfl (by rw [hml]; rfl) (Steps.refl _) (argsL := []) (rest := []) (lenOf pd_12 rfl) rfl (by show 2 * 0 + _ ≤ _; exact Nat.le_of_eq rfl) (hb hby at_297) (fun _ _ => ⟨rfl, rfl, (by decide : 9 + 0 ≤ _), (by decide : 48 + 0 ≤ _)⟩)
          dsimp only [Pt.U, Pt.locs, Pt.cells, Pt.slots] at X62 l62 y62 z62 st62 hQ62
          subst l62 y62 z62
          obtain ⟨rfl, N62q, e62⟩ := hQ62
          have N62 := Fr.app N61 N62q
          have go153 : Go p e below A0 (T62.setTop (mkF m 300 #[.val (.int p0), .val (.int p1), .val (.int p2), .val (.long q3), .second, .val (.int v1), .val (.int v2), .val (.int v3), .val (.ref uS), .val (.int (1 : Int32)), .val (.int v16), .val (.int (0 : Int32)), .val (.int v18), .val (.ref b45_b), .val (.ref b46_b), .val .null, .val (.long (0 : Int64)), .second, .val (.ref b58_b), .val .null, .val (.ref b60)] [(.int (1 : Int32))])) := by
            intro t k
            refine go152 t ?_
            refine st61.trans ?_
            show Steps p.tables e below (T61.setTop (mkF m 293 #[.val (.int p0), .val (.int p1), .val (.int p2), .val (.long q3), .second, .val (.int v1), .val (.int v2), .val (.int v3), .val (.ref uS), .val (.int (1 : Int32)), .val (.int v16), .val (.int (0 : Int32)), .val (.int v18), .val (.ref b45_b), .val (.ref b46_b), .val .null, .val (.long (0 : Int64)), .second, .val (.ref b58_b), .val .null, .unset] [(.ref b60)])) _
            refine o_astore X61 hx hby at_293 295 rfl rfl (l' := #[.val (.int p0), .val (.int p1), .val (.int p2), .val (.long q3), .second, .val (.int v1), .val (.int v2), .val (.int v3), .val (.ref uS), .val (.int (1 : Int32)), .val (.int v16), .val (.int (0 : Int32)), .val (.int v18), .val (.ref b45_b), .val (.ref b46_b), .val .null, .val (.long (0 : Int64)), .second, .val (.ref b58_b), .val .null, .val (.ref b60)]) rfl ?_
            refine o_aload X61 hx hby at_295 297 rfl rfl rfl ?_
            refine st62.trans ?_
            show Steps p.tables e below (T62.setTop (mkF m 300 #[.val (.int p0), .val (.int p1), .val (.int p2), .val (.long q3), .second, .val (.int v1), .val (.int v2), .val (.int v3), .val (.ref uS), .val (.int (1 : Int32)), .val (.int v16), .val (.int (0 : Int32)), .val (.int v18), .val (.ref b45_b), .val (.ref b46_b), .val .null, .val (.long (0 : Int64)), .second, .val (.ref b58_b), .val .null, .val (.ref b60)] [(.int (1 : Int32))])) _
            exact k
          have go154 : Go p e below A0 (T62.setTop (mkF m 302 #[.val (.int p0), .val (.int p1), .val (.int p2), .val (.long q3), .second, .val (.int v1), .val (.int v2), .val (.int v3), .val (.ref uS), .val (.int (1 : Int32)), .val (.int v16), .val (.int (0 : Int32)), .val (.int v18), .val (.ref b45_b), .val (.ref b46_b), .val .null, .val (.long (0 : Int64)), .second, .val (.ref b58_b), .val .null, .val (.ref b60)] [(.int v16), (.int (1 : Int32))])) := by
            intro t k
            refine go153 t ?_
            refine o_iload X62 hx hby at_300 302 rfl rfl ?_
            exact k
          obtain ⟨v25, hv25, go157⟩ : ∃ (v25 : Int32), v25 = (if (1 : Int32) = v16 then (1 : Int32) else (0 : Int32)) ∧ Go p e below A0 (T62.setTop (mkF m 310 #[.val (.int p0), .val (.int p1), .val (.int p2), .val (.long q3), .second, .val (.int v1), .val (.int v2), .val (.int v3), .val (.ref uS), .val (.int (1 : Int32)), .val (.int v16), .val (.int (0 : Int32)), .val (.int v18), .val (.ref b45_b), .val (.ref b46_b), .val .null, .val (.long (0 : Int64)), .second, .val (.ref b58_b), .val .null, .val (.ref b60)] [(.int v25)])) := by
            by_cases hc302_63 : (1 : Int32) = v16
            · have go155 : Go p e below A0 (T62.setTop (mkF m 310 #[.val (.int p0), .val (.int p1), .val (.int p2), .val (.long q3), .second, .val (.int v1), .val (.int v2), .val (.int v3), .val (.ref uS), .val (.int (1 : Int32)), .val (.int v16), .val (.int (0 : Int32)), .val (.int v18), .val (.ref b45_b), .val (.ref b46_b), .val .null, .val (.long (0 : Int64)), .second, .val (.ref b58_b), .val .null, .val (.ref b60)] [(.int (1 : Int32))])) := by
                intro t k
                refine go154 t ?_
                refine o_icmpN X62 hx hby at_302 305 rfl (teq hc302_63).2 ?_
                refine o_iconst X62 hx hby at_305 306 rfl (v := (1 : Int32)) rfl ?_
                refine o_goto X62 hx hby at_306 310 rfl ?_
                exact k
              exact ⟨(1 : Int32), (if_pos hc302_63).symm, go155⟩
            · have go156 : Go p e below A0 (T62.setTop (mkF m 310 #[.val (.int p0), .val (.int p1), .val (.int p2), .val (.long q3), .second, .val (.int v1), .val (.int v2), .val (.int v3), .val (.ref uS), .val (.int (1 : Int32)), .val (.int v16), .val (.int (0 : Int32)), .val (.int v18), .val (.ref b45_b), .val (.ref b46_b), .val .null, .val (.long (0 : Int64)), .second, .val (.ref b58_b), .val .null, .val (.ref b60)] [(.int (0 : Int32))])) := by
                intro t k
                refine go154 t ?_
                refine o_icmpY X62 hx hby at_302 309 rfl (feq hc302_63).2 ?_
                refine o_iconst X62 hx hby at_309 310 rfl (v := (0 : Int32)) rfl ?_
                exact k
              exact ⟨(0 : Int32), (if_neg hc302_63).symm, go156⟩
          obtain rfl : v25 = (1 : Int32) := pl_0_6 p0 p1 p2 q3 uA uS uI cs v1 v2 v3 v16 v18 v19 v20 v24 v25 hv1 hv2 hv3 hv16 hv18 hv19 hv20 hv24 hv25 hc28_2 hc42_18 hc225_47 hc248_59
          subst hA0
          obtain ⟨fs, hr, hrun, hended, hRW⟩ := X62.leaveW (s := s) S61 (by rw [e62]; exact (Nat.le_refl _)) (v := some (.int (1 : Int32))) (fun h => by rw [Bd.returns] at h; cases h)
          refine ⟨_, _, go157 _ (o_retZ X62 hx Bd.returns (hb hby at_310) (Or.inr rfl) hr), hrun, hended, _, _, rfl, ?_, hRW.1, hRW.2.1, hRW.2.2.1, hRW.2.2.2.mono (by decide) (by decide)⟩
          show Q0 Z p0 p1 p2 q3 uA uS uI cs h0 n0 _ T62.heap _
          rw [e62]
          exact ⟨rfl, N62⟩
        · have f_dead_27 : False := pf0_dead_26 p0 p1 p2 q3 uA uS uI cs v1 v2 v3 v16 v18 v19 v20 v24 hv1 hv2 hv3 hv16 hv18 hv19 hv20 hv24 hc28_2 hc42_18 hc225_47 hc248_59
          exact (f_dead_27).elim
set_option maxRecDepth 65536 in
set_option maxHeartbeats 40000000 in
theorem comes_1 {Post : Tables → Env → Array Value → State → Outcome → State → Prop} (hpost : ∀ tb e args s v u, (limb_1_1.after args s (.returned v) u = true ∧ limb_1_2.after args s (.returned v) u = true ∧ True) → ReturnedEndW s (.returned v) u (Jvm.fieldLocs frame_1_writes args s ++ Jvm.arrayLocs frame_1_arrays args s ++ Jvm.staticLocs frame_1_statics s) 24 1152 → Post tb e args s (.returned v) u) :
    ArmFor flags0 classFile x code maxLocals ret World_1 tables_1 room_1 Calls_1 rest_1 Pre_1 Post := by
  intro l hfl _ _ p e ha hc hk s m args below hf hA hF happ hP
  obtain ⟨hcalls, hrest, hpre⟩ := hP
  obtain ⟨-, -, -, hnamed, -, -, -, hat⟩ := (Spec.applies_iff hf).mp happ
  obtain ⟨hg, hn⟩ := and_e (Cond.before_iff.mp (show (Jvm.Cond.and given_1 narrow_1).before args s = true from hpre))
  obtain ⟨g1, g2⟩ := and_e hg
  obtain ⟨g3, g4⟩ := and_e g2
  obtain ⟨g5, g6⟩ := and_e g4
  obtain ⟨g7, g8⟩ := and_e g6
  obtain ⟨w0, w1, w2, w3, rfl⟩ : ∃ w0 w1 w2 w3 : Value, args = #[w0, w1, w2, w3] := by
    have hs : args.size = 4 := by simpa [Cond.value, given_1] using g1
    obtain ⟨L⟩ := args
    match L, hs with
    | [w0, w1, w2, w3], _ => exact ⟨w0, w1, w2, w3, rfl⟩
  have hw := fun d (hd : d ∈ tables_1) => atoms_spec (ws := Jvm.Cond.code x code maxLocals ret :: tables_1) hat d (List.mem_cons_of_mem _ hd)
  have hfit : Fit s := fun {y c} hc i hi => by
    obtain ⟨ha, rfl⟩ := Array.getElem?_eq_some_iff.mp hc
    have q := List.all_eq_true.mp ((Array.all_eq_true_iff_forall_mem.mp hF) _ (Array.getElem_mem ha)) i (List.mem_range.mpr hi)
    simpa [Array.getElem?_eq_getElem hi] using q
  obtain ⟨hsets, hown0⟩ := atoms_of _ (rest_1_c_eq ▸ (show rest_1_c.before _ s = true from hrest))
  have hr0 := Cond.before_iff.mp hown0
  obtain ⟨i0, ei0⟩ := is_v g3
  obtain rfl : w0 = (.int i0) := Option.some.inj ei0
  obtain ⟨i1, ei1⟩ := is_v g5
  obtain rfl : w1 = (.int i1) := Option.some.inj ei1
  obtain ⟨i2, ei2⟩ := is_v g7
  obtain rfl : w2 = (.int i2) := Option.some.inj ei2
  obtain ⟨i3, ei3⟩ := isL_v g8
  obtain rfl : w3 = (.long i3) := Option.some.inj ei3
  obtain ⟨m1, m2⟩ := and_e hn
  obtain ⟨m3, m4⟩ := and_e m2
  obtain ⟨m5, m6⟩ := and_e m4
  obtain ⟨m7, m8⟩ := and_e m6
  obtain ⟨m9, m10⟩ := and_e m8
  obtain ⟨uA, eA⟩ := exa_v m1
  obtain ⟨uS, eS⟩ := exa_v m3
  obtain ⟨uI, eI⟩ := exa_v m9
  have hSA := Sta.start eA (Or.inr ⟨(hw _ (List.mem_of_getElem? (i := 2) rfl)), (hw _ (List.mem_of_getElem? (i := 3) rfl))⟩)
  have hSS := Sta.start eS (Or.inr ⟨(hw _ (List.mem_of_getElem? (i := 2) rfl)), (hw _ (List.mem_of_getElem? (i := 55) rfl))⟩)
  have hSI := Sta.start eI (Or.inr ⟨(hw _ (List.mem_of_getElem? (i := 2) rfl)), (hw _ (List.mem_of_getElem? (i := 77) rfl))⟩)
  have flA : Fld s s.heap uA "java/lang/Enum" "ordinal" "I" (.int (0 : Int32)) := Fld.start ((fld_at eA).symm.trans (eqv_i (Term.int_eval 0) m7))
  have flS : Fld s s.heap uS "java/lang/Enum" "ordinal" "I" (.int (2 : Int32)) := Fld.start ((fld_at eS).symm.trans (eqv_i (Term.int_eval 2) m5))
  have flI : Fld s s.heap uI "java/lang/Enum" "ordinal" "I" (.int (1 : Int32)) := Fld.start ((fld_at eI).symm.trans (eqv_i (Term.int_eval 1) m10))
  have n3 := not_v (Cond.before_iff.mp (hsets _ (List.mem_of_getElem? (i := 2) rfl)))
  obtain ⟨cs, ecs⟩ := is_v (Cond.before_iff.mp (hsets _ (List.mem_of_getElem? (i := 1) rfl)))
  have hSC : Sta s s.heap "java/lang/String" "COMPACT_STRINGS" "Z" (.int cs) := Sta.start ecs (Or.inl (hsets _ (List.mem_of_getElem? (i := 0) rfl)))
  have hcs : ¬ (cs = (0 : Int32)) := gotF (Cond.eq_ints ecs (Term.int_eval (0))) n3
  obtain ⟨n, o, h1, h2, h3, _, L, rfl, ⟨rfl, N⟩, hq⟩ := rm0 l s _ hw tables_1 i0 i1 i2 i3 uA uS uI cs s.heap s.heap.size (Nat.le_refl _) hSA hSS hSI hSC (Old.start s) hcs (Fld.ne flI flA (by decide)) (Fld.ne flS flA (by decide)) p e ha hc hk s m _ below hf ((Spec.applies_iff_loose hf).mp happ).1 ⟨rfl, State.Warmed39.refl s, rfl⟩ trivial
  refine ⟨n, _, h1, h2, h3, hpost _ _ _ _ _ _ ⟨Cond.after_iff.mpr rfl, Cond.after_iff.mpr (eq_i res_at (Term.int_eval (1)) rfl), trivial⟩ ⟨hq.1, hq.2.1, hq.2.2.1, (hq.2.2.2.sift fun y hy => Or.inr (N y hy)).mono (by decide) (by decide)⟩⟩
theorem main_1_1 : Claimed_1_1 := comes_1 fun _ _ _ _ _ _ h hF => ⟨h.1, hF⟩
theorem main_1_2 : Claimed_1_2 := comes_1 fun _ _ _ _ _ _ h hF => ⟨h.2.1, hF⟩
end Jvm.Pilot.@@N@@
namespace Jvm.Pilot.@@N@@
open Jvm Jvm.ClassFile Sem Op Lib Jvm.Free Jvm.Stand Jvm.Pilot.@@N@@.Jvm.D
/-! MADE BY PROGRAM (witnessworld.py) out of the Statement's table words and the real class files: 21 classes; the members and pool entries that the words name. The judged class is class 1, her method 1. -/
namespace start1
open Jvm.ClassFile
def u (s : String) : CpInfo := .utf8 (stringToUtf16 s)
/-- a pool by its gaps: so many unusable entries, then the entry; so many at the end -/
def gap : Nat → List CpInfo → List CpInfo
  | 0, r => r
  | n + 1, r => .unusable :: gap n r
def poolList (es : List (Nat × CpInfo)) (last : Nat) : List CpInfo := es.foldr (fun e r => gap e.1 (e.2 :: r)) (gap last [])
def pool (es : List (Nat × CpInfo)) (last : Nat) : Array CpInfo := ⟨poolList es last⟩
def fileOf (pool : Array CpInfo) (this : Nat) (attrs : Array Attribute := #[]) (ms : Array MethodInfo := #[]) (fl : Nat := 33) (sup : Nat := 0) (ifs : Array Nat := #[]) (fds : Array FieldInfo := #[]) : ClassFile where
  minorVersion := 0
  majorVersion := 65
  constantPool := pool
  accessFlags := fl
  thisClass := this
  superClass := sup
  interfaces := ifs
  fields := fds
  methods := ms
  attributes := attrs
def plain (name : String) (sup : Option ClassId) : Class where
  name := name
  kind := .ordinary
  loader := none
  accessFlags := 33
  super := sup
  interfaces := #[]
  cf := none
  fields := #[]
  methods := #[]
  instanceTypes := #[]
  staticTypes := #[]
  resolved := #[]
  callSites := []
  init := .initialized
  statics := none
  mirror := none

def pool0 : Array CpInfo := pool [(5, u "<init>"), (0, u "()V"), (1, .class_ 10), (1, u "java/lang/Object")] 113

def k0c0 : Code := { maxStack := 0, maxLocals := 1, code := object_method_1_code, exceptionTable := #[], attributes := #[] }
def k0m0 : Method := { name := "<init>", desc := "()V", sig := { parameters := [], returnType := none }, accessFlags := 1, code := some k0c0 }
/-- java/lang/Object -/
def k0 : Class := { plain "java/lang/Object" none with
  accessFlags := 33
  interfaces := #[]
  cf := some (fileOf pool0 8 #[] #[{ accessFlags := 1, nameIndex := 5, descriptorIndex := 6, attributes := #[] }] 33 0 #[] #[])
  fields := #[]
  methods := #[k0m0]
  instanceTypes := #[]
  staticTypes := #[]
  resolved := Array.replicate 124 none
  statics := none }

def pool1 : Array CpInfo := pool [(2, .class_ 4), (1, u "java/lang/Object"), (0, u "<init>"), (0, u "()V"), (0, .integer 2147483647), (0, .fieldref 9 10), (0, .class_ 11), (0, .nameAndType 12 13), (0, u "org/shardwright/model/ShardCopy$State"), (0, u "UNASSIGNED"), (0, u "Lorg/shardwright/model/ShardCopy$State;"), (0, .fieldref 9 15), (0, .nameAndType 16 13), (0, u "INITIALIZING"), (0, .fieldref 9 18), (0, .nameAndType 19 13), (0, u "STARTED"), (0, .methodref 21 22), (0, .class_ 23), (0, .nameAndType 24 25), (0, u "java/lang/String"), (0, u "valueOf"), (0, u "(C)Ljava/lang/String;"), (2, .long 9223372036854775807), (1, .class_ 31), (0, u "org/shardwright/model/ShardCopy"), (0, .methodref 30 33), (0, .nameAndType 5 34), (0, u "(IZLorg/shardwright/model/ShardCopy$State;Ljava/lang/String;Ljava/lang/String;Ljava/lang/String;JLjava/lang/String;Ljava/lang/String;)V"), (0, .methodref 30 36), (0, .nameAndType 37 38), (0, u "movedIn"), (0, u "()Z"), (0, .class_ 40), (0, u "org/shardwright/model/ShardCopyMovedInPinLaw"), (2, u "law"), (0, u "(IIIJ)Z")] 5

def k1m0 : Method := { name := "<init>", desc := "()V", sig := { parameters := [], returnType := none }, accessFlags := 1, code := none }
def k1c1 : Code := { maxStack := 12, maxLocals := 21, code := code, exceptionTable := #[], attributes := #[] }
def k1m1 : Method := { name := "law", desc := "(IIIJ)Z", sig := { parameters := [.int, .int, .int, .long], returnType := some .boolean }, accessFlags := 9, code := some k1c1 }
/-- org/shardwright/model/ShardCopyMovedInPinLaw -/
def k1 : Class := { plain "org/shardwright/model/ShardCopyMovedInPinLaw" (some 0) with
  accessFlags := 49
  interfaces := #[]
  cf := some (fileOf pool1 39 #[] #[{ accessFlags := 1, nameIndex := 5, descriptorIndex := 6, attributes := #[] }, { accessFlags := 9, nameIndex := 43, descriptorIndex := 44, attributes := #[] }] 49 2 #[] #[])
  fields := #[]
  methods := #[k1m0, k1m1]
  instanceTypes := #[]
  staticTypes := #[]
  resolved := Array.replicate 50 none
  statics := none }

def pool2 : Array CpInfo := pool [(1, .class_ 2), (0, u "java/lang/constant/Constable"), (0, .class_ 4), (0, u "java/lang/Object")] 6

/-- java/lang/constant/Constable -/
def k2 : Class := { plain "java/lang/constant/Constable" (some 0) with
  accessFlags := 1537
  interfaces := #[]
  cf := some (fileOf pool2 1 #[] #[] 1537 3 #[] #[])
  fields := #[]
  methods := #[]
  instanceTypes := #[]
  staticTypes := #[]
  resolved := Array.replicate 11 none
  statics := none }

def pool3 : Array CpInfo := pool [(1, .class_ 2), (0, u "java/lang/Comparable"), (0, .class_ 4), (0, u "java/lang/Object")] 7

/-- java/lang/Comparable -/
def k3 : Class := { plain "java/lang/Comparable" (some 0) with
  accessFlags := 1537
  interfaces := #[]
  cf := some (fileOf pool3 1 #[] #[] 1537 3 #[] #[])
  fields := #[]
  methods := #[]
  instanceTypes := #[]
  staticTypes := #[]
  resolved := Array.replicate 12 none
  statics := none }

def pool4 : Array CpInfo := pool [(1, .class_ 2), (0, u "java/io/Serializable"), (0, .class_ 4), (0, u "java/lang/Object")] 2

/-- java/io/Serializable -/
def k4 : Class := { plain "java/io/Serializable" (some 0) with
  accessFlags := 1537
  interfaces := #[]
  cf := some (fileOf pool4 1 #[] #[] 1537 3 #[] #[])
  fields := #[]
  methods := #[]
  instanceTypes := #[]
  staticTypes := #[]
  resolved := Array.replicate 7 none
  statics := none }

def pool5 : Array CpInfo := pool [(2, .class_ 4), (1, u "java/lang/Enum"), (0, u "name"), (0, u "Ljava/lang/String;"), (2, u "ordinal"), (0, u "I"), (1, .class_ 14), (1, u "java/lang/Object"), (4, u "hash"), (86, .class_ 108), (1, u "java/lang/Enum$EnumDesc"), (2, .class_ 112), (0, u "java/lang/constant/Constable"), (0, .class_ 114), (0, u "java/lang/Comparable"), (0, .class_ 116), (0, u "java/io/Serializable")] 87

/-- java/lang/Enum -/
def k5 : Class := { plain "java/lang/Enum" (some 0) with
  accessFlags := 1057
  interfaces := #[2, 3, 4]
  cf := some (fileOf pool5 2 #[.nestMembers #[106]] #[] 1057 12 #[111, 113, 115] #[{ accessFlags := 18, nameIndex := 5, descriptorIndex := 6, attributes := #[] }, { accessFlags := 18, nameIndex := 9, descriptorIndex := 10, attributes := #[] }, { accessFlags := 2, nameIndex := 19, descriptorIndex := 10, attributes := #[] }])
  fields := #[{ name := "name", type := (.object "java/lang/String"), accessFlags := 18, slot := 0, constantValue := 0 }, { name := "ordinal", type := .int, accessFlags := 18, slot := 1, constantValue := 0 }, { name := "hash", type := .int, accessFlags := 2, slot := 2, constantValue := 0 }]
  methods := #[]
  instanceTypes := #[(.object "java/lang/String"), .int, .int]
  staticTypes := #[]
  resolved := Array.replicate 204 none
  statics := none }

def pool6 : Array CpInfo := pool [(1, .class_ 2), (0, u "org/shardwright/model/ShardCopy$State"), (2, u "UNASSIGNED"), (0, u "Lorg/shardwright/model/ShardCopy$State;"), (2, u "INITIALIZING"), (2, u "STARTED"), (2, u "$VALUES"), (0, u "[Lorg/shardwright/model/ShardCopy$State;"), (6, .class_ 25), (1, u "java/lang/Enum"), (26, .class_ 53), (0, u "org/shardwright/model/ShardCopy")] 2

/-- org/shardwright/model/ShardCopy$State -/
def k6 : Class := { plain "org/shardwright/model/ShardCopy$State" (some 5) with
  accessFlags := 16433
  interfaces := #[]
  cf := some (fileOf pool6 1 #[.nestHost 52] #[] 16433 23 #[] #[{ accessFlags := 16409, nameIndex := 5, descriptorIndex := 6, attributes := #[] }, { accessFlags := 16409, nameIndex := 9, descriptorIndex := 6, attributes := #[] }, { accessFlags := 16409, nameIndex := 12, descriptorIndex := 6, attributes := #[] }, { accessFlags := 4122, nameIndex := 15, descriptorIndex := 16, attributes := #[] }])
  fields := #[{ name := "UNASSIGNED", type := (.object "org/shardwright/model/ShardCopy$State"), accessFlags := 16409, slot := 0, constantValue := 0 }, { name := "INITIALIZING", type := (.object "org/shardwright/model/ShardCopy$State"), accessFlags := 16409, slot := 1, constantValue := 0 }, { name := "STARTED", type := (.object "org/shardwright/model/ShardCopy$State"), accessFlags := 16409, slot := 2, constantValue := 0 }, { name := "$VALUES", type := (.array (.object "org/shardwright/model/ShardCopy$State")), accessFlags := 4122, slot := 3, constantValue := 0 }]
  methods := #[]
  instanceTypes := #[(.object "java/lang/String"), .int, .int]
  staticTypes := #[(.object "org/shardwright/model/ShardCopy$State"), (.object "org/shardwright/model/ShardCopy$State"), (.object "org/shardwright/model/ShardCopy$State"), (.array (.object "org/shardwright/model/ShardCopy$State"))]
  resolved := Array.replicate 56 none
  statics := some 0 }

def pool7 : Array CpInfo := pool [(1, .methodref 2 3), (0, .class_ 4), (0, .nameAndType 5 6), (0, u "java/lang/Object"), (0, u "<init>"), (0, u "()V"), (0, .class_ 8), (0, u "java/lang/Record")] 13

def k7c0 : Code := { maxStack := 1, maxLocals := 1, code := jdk_30_method_1_code, exceptionTable := #[], attributes := #[] }
def k7m0 : Method := { name := "<init>", desc := "()V", sig := { parameters := [], returnType := none }, accessFlags := 4, code := some k7c0 }
/-- java/lang/Record -/
def k7 : Class := { plain "java/lang/Record" (some 0) with
  accessFlags := 1057
  interfaces := #[]
  cf := some (fileOf pool7 7 #[] #[{ accessFlags := 4, nameIndex := 5, descriptorIndex := 6, attributes := #[] }] 1057 2 #[] #[])
  fields := #[]
  methods := #[k7m0]
  instanceTypes := #[]
  staticTypes := #[]
  resolved := Array.replicate 22 none
  statics := none }

def pool8 : Array CpInfo := pool [(1, .methodref 2 3), (0, .class_ 4), (0, .nameAndType 5 6), (0, u "java/lang/Record"), (0, u "<init>"), (0, u "()V"), (0, .string 8), (0, u "state"), (0, .methodref 10 11), (0, .class_ 12), (0, .nameAndType 13 14), (0, u "java/util/Objects"), (0, u "requireNonNull"), (0, u "(Ljava/lang/Object;Ljava/lang/String;)Ljava/lang/Object;"), (9, .fieldref 25 26), (0, .class_ 27), (0, .nameAndType 28 29), (0, u "org/shardwright/model/ShardCopy$State"), (0, u "UNASSIGNED"), (0, u "Lorg/shardwright/model/ShardCopy$State;"), (16, .fieldref 25 47), (0, .nameAndType 48 29), (0, u "STARTED"), (3, .fieldref 53 54), (0, .class_ 55), (0, .nameAndType 56 57), (0, u "org/shardwright/model/ShardCopy"), (0, u "shard"), (0, u "I"), (0, .fieldref 53 59), (0, .nameAndType 60 61), (0, u "primary"), (0, u "Z"), (0, .fieldref 53 63), (0, .nameAndType 8 29), (0, .fieldref 53 65), (0, .nameAndType 66 67), (0, u "nodeId"), (0, u "Ljava/lang/String;"), (0, .fieldref 53 69), (0, .nameAndType 70 67), (0, u "allocationId"), (0, .fieldref 53 72), (0, .nameAndType 73 67), (0, u "lastNodeId"), (0, .fieldref 53 75), (0, .nameAndType 76 77), (0, u "unassignedAtMillis"), (0, u "J"), (0, .fieldref 53 79), (0, .nameAndType 80 67), (0, u "replaces"), (0, .fieldref 53 82), (0, .nameAndType 83 67), (0, u "handsOverTo"), (2, u "(IZLorg/shardwright/model/ShardCopy$State;Ljava/lang/String;Ljava/lang/String;Ljava/lang/String;JLjava/lang/String;Ljava/lang/String;)V"), (48, u "movedIn"), (0, u "()Z")] 50

def k8c0 : Code := { maxStack := 7, maxLocals := 11, code := prog_33_method_1_code, exceptionTable := #[], attributes := #[] }
def k8m0 : Method := { name := "<init>", desc := "(IZLorg/shardwright/model/ShardCopy$State;Ljava/lang/String;Ljava/lang/String;Ljava/lang/String;JLjava/lang/String;Ljava/lang/String;)V", sig := { parameters := [.int, .boolean, (.object "org/shardwright/model/ShardCopy$State"), (.object "java/lang/String"), (.object "java/lang/String"), (.object "java/lang/String"), .long, (.object "java/lang/String"), (.object "java/lang/String")], returnType := none }, accessFlags := 1, code := some k8c0 }
def k8c1 : Code := { maxStack := 1, maxLocals := 1, code := prog_33_method_13_code, exceptionTable := #[], attributes := #[] }
def k8m1 : Method := { name := "movedIn", desc := "()Z", sig := { parameters := [], returnType := some .boolean }, accessFlags := 1, code := some k8c1 }
/-- org/shardwright/model/ShardCopy -/
def k8 : Class := { plain "org/shardwright/model/ShardCopy" (some 7) with
  accessFlags := 49
  interfaces := #[]
  cf := some (fileOf pool8 53 #[.nestMembers #[25]] #[{ accessFlags := 1, nameIndex := 5, descriptorIndex := 86, attributes := #[] }, { accessFlags := 1, nameIndex := 135, descriptorIndex := 136, attributes := #[] }] 49 2 #[] #[{ accessFlags := 18, nameIndex := 56, descriptorIndex := 57, attributes := #[] }, { accessFlags := 18, nameIndex := 60, descriptorIndex := 61, attributes := #[] }, { accessFlags := 18, nameIndex := 8, descriptorIndex := 29, attributes := #[] }, { accessFlags := 18, nameIndex := 66, descriptorIndex := 67, attributes := #[] }, { accessFlags := 18, nameIndex := 70, descriptorIndex := 67, attributes := #[] }, { accessFlags := 18, nameIndex := 73, descriptorIndex := 67, attributes := #[] }, { accessFlags := 18, nameIndex := 76, descriptorIndex := 77, attributes := #[] }, { accessFlags := 18, nameIndex := 80, descriptorIndex := 67, attributes := #[] }, { accessFlags := 18, nameIndex := 83, descriptorIndex := 67, attributes := #[] }])
  fields := #[{ name := "shard", type := .int, accessFlags := 18, slot := 0, constantValue := 0 }, { name := "primary", type := .boolean, accessFlags := 18, slot := 1, constantValue := 0 }, { name := "state", type := (.object "org/shardwright/model/ShardCopy$State"), accessFlags := 18, slot := 2, constantValue := 0 }, { name := "nodeId", type := (.object "java/lang/String"), accessFlags := 18, slot := 3, constantValue := 0 }, { name := "allocationId", type := (.object "java/lang/String"), accessFlags := 18, slot := 4, constantValue := 0 }, { name := "lastNodeId", type := (.object "java/lang/String"), accessFlags := 18, slot := 5, constantValue := 0 }, { name := "unassignedAtMillis", type := .long, accessFlags := 18, slot := 6, constantValue := 0 }, { name := "replaces", type := (.object "java/lang/String"), accessFlags := 18, slot := 7, constantValue := 0 }, { name := "handsOverTo", type := (.object "java/lang/String"), accessFlags := 18, slot := 8, constantValue := 0 }]
  methods := #[k8m0, k8m1]
  instanceTypes := #[.int, .boolean, (.object "org/shardwright/model/ShardCopy$State"), (.object "java/lang/String"), (.object "java/lang/String"), (.object "java/lang/String"), .long, (.object "java/lang/String"), (.object "java/lang/String")]
  staticTypes := #[]
  resolved := Array.replicate 187 none
  statics := none }

def pool9 : Array CpInfo := pool [(2, .class_ 4), (1, u "java/lang/CharSequence"), (42, .class_ 48), (0, u "java/lang/CharSequence$1CodePointIterator"), (10, .class_ 60), (0, u "java/lang/CharSequence$1CharIterator"), (5, .class_ 67), (0, u "java/lang/Object")] 63

/-- java/lang/CharSequence -/
def k9 : Class := { plain "java/lang/CharSequence" (some 0) with
  accessFlags := 1537
  interfaces := #[]
  cf := some (fileOf pool9 2 #[.nestMembers #[47, 59]] #[] 1537 66 #[] #[])
  fields := #[]
  methods := #[]
  instanceTypes := #[]
  staticTypes := #[]
  resolved := Array.replicate 131 none
  statics := none }

def pool10 : Array CpInfo := pool [(1, .class_ 2), (0, u "java/lang/constant/ConstantDesc"), (0, .class_ 4), (0, u "java/lang/Object")] 32

/-- java/lang/constant/ConstantDesc -/
def k10 : Class := { plain "java/lang/constant/ConstantDesc" (some 0) with
  accessFlags := 1537
  interfaces := #[]
  cf := some (fileOf pool10 1 #[] #[] 1537 3 #[] #[])
  fields := #[]
  methods := #[]
  instanceTypes := #[]
  staticTypes := #[]
  resolved := Array.replicate 37 none
  statics := none }

def pool11 : Array CpInfo := pool [(1, .methodref 2 3), (0, .class_ 4), (0, .nameAndType 5 6), (0, u "java/lang/Object"), (0, u "<init>"), (0, u "()V"), (2, .fieldref 10 11), (0, .class_ 12), (0, .nameAndType 13 14), (0, u "java/lang/String"), (0, u "value"), (0, u "[B"), (0, .fieldref 10 16), (0, .nameAndType 17 18), (0, u "coder"), (0, u "B"), (2, u "hash"), (0, u "I"), (2, u "hashIsZero"), (0, u "Z"), (11, .fieldref 10 39), (0, .nameAndType 40 26), (0, u "COMPACT_STRINGS"), (12, u "toBytes"), (53, .class_ 109), (1, u "java/lang/StringLatin1"), (99, .methodref 10 210), (0, .nameAndType 5 211), (0, u "([BB)V"), (157, u "(C)Z"), (205, .class_ 576), (0, u "java/lang/CharSequence"), (22, u "CASE_INSENSITIVE_ORDER"), (0, u "Ljava/util/Comparator;"), (181, u "valueOf"), (0, u "(C)Ljava/lang/String;"), (231, .methodref 107 1016), (0, .nameAndType 1017 369), (0, u "canEncode"), (0, .methodref 107 1019), (0, .nameAndType 53 1020), (0, u "(C)[B"), (80, u "serialPersistentFields"), (0, u "[Ljava/io/ObjectStreamField;"), (0, .class_ 1104), (0, u "java/lang/String$CaseInsensitiveComparator"), (1, .class_ 1107), (0, u "java/io/Serializable"), (0, .class_ 1109), (0, u "java/lang/Comparable"), (0, .class_ 1111), (0, u "java/lang/constant/Constable"), (0, .class_ 1113), (0, u "java/lang/constant/ConstantDesc"), (2, u "serialVersionUID"), (0, u "J"), (3, u "REPL"), (0, u "C"), (2, u "LATIN1"), (1, u "UTF16")] 323

def k11m0 : Method := { name := "<init>", desc := "()V", sig := { parameters := [], returnType := none }, accessFlags := 1, code := none }
def k11c1 : Code := { maxStack := 4, maxLocals := 1, code := jdk_42_method_139_code, exceptionTable := #[], attributes := #[] }
def k11m1 : Method := { name := "valueOf", desc := "(C)Ljava/lang/String;", sig := { parameters := [.char], returnType := some (.object "java/lang/String") }, accessFlags := 9, code := some k11c1 }
def k11c2 : Code := { maxStack := 2, maxLocals := 3, code := jdk_42_method_151_code, exceptionTable := #[], attributes := #[] }
def k11m2 : Method := { name := "<init>", desc := "([BB)V", sig := { parameters := [(.array .byte), .byte], returnType := none }, accessFlags := 0, code := some k11c2 }
/-- java/lang/String -/
def k11 : Class := { plain "java/lang/String" (some 0) with
  accessFlags := 49
  interfaces := #[4, 3, 9, 2, 10]
  cf := some (fileOf pool11 10 #[.nestMembers #[1103]] #[{ accessFlags := 1, nameIndex := 5, descriptorIndex := 6, attributes := #[] }, { accessFlags := 9, nameIndex := 782, descriptorIndex := 783, attributes := #[] }, { accessFlags := 0, nameIndex := 5, descriptorIndex := 211, attributes := #[] }] 49 2 #[1106, 1108, 575, 1110, 1112] #[{ accessFlags := 18, nameIndex := 13, descriptorIndex := 14, attributes := #[] }, { accessFlags := 18, nameIndex := 17, descriptorIndex := 18, attributes := #[] }, { accessFlags := 2, nameIndex := 21, descriptorIndex := 22, attributes := #[] }, { accessFlags := 2, nameIndex := 25, descriptorIndex := 26, attributes := #[] }, { accessFlags := 26, nameIndex := 1116, descriptorIndex := 1117, attributes := #[] }, { accessFlags := 24, nameIndex := 40, descriptorIndex := 26, attributes := #[] }, { accessFlags := 26, nameIndex := 1101, descriptorIndex := 1102, attributes := #[] }, { accessFlags := 26, nameIndex := 1121, descriptorIndex := 1122, attributes := #[] }, { accessFlags := 25, nameIndex := 599, descriptorIndex := 600, attributes := #[] }, { accessFlags := 24, nameIndex := 1125, descriptorIndex := 18, attributes := #[] }, { accessFlags := 24, nameIndex := 1127, descriptorIndex := 18, attributes := #[] }])
  fields := #[{ name := "value", type := (.array .byte), accessFlags := 18, slot := 0, constantValue := 0 }, { name := "coder", type := .byte, accessFlags := 18, slot := 1, constantValue := 0 }, { name := "hash", type := .int, accessFlags := 2, slot := 2, constantValue := 0 }, { name := "hashIsZero", type := .boolean, accessFlags := 2, slot := 3, constantValue := 0 }, { name := "serialVersionUID", type := .long, accessFlags := 26, slot := 0, constantValue := 0 }, { name := "COMPACT_STRINGS", type := .boolean, accessFlags := 24, slot := 1, constantValue := 0 }, { name := "serialPersistentFields", type := (.array (.object "java/io/ObjectStreamField")), accessFlags := 26, slot := 2, constantValue := 0 }, { name := "REPL", type := .char, accessFlags := 26, slot := 3, constantValue := 0 }, { name := "CASE_INSENSITIVE_ORDER", type := (.object "java/util/Comparator"), accessFlags := 25, slot := 4, constantValue := 0 }, { name := "LATIN1", type := .byte, accessFlags := 24, slot := 5, constantValue := 0 }, { name := "UTF16", type := .byte, accessFlags := 24, slot := 6, constantValue := 0 }]
  methods := #[k11m0, k11m1, k11m2]
  instanceTypes := #[(.array .byte), .byte, .int, .boolean]
  staticTypes := #[.long, .boolean, (.array (.object "java/io/ObjectStreamField")), .char, (.object "java/util/Comparator"), .byte, .byte]
  resolved := Array.replicate 1451 none
  statics := some 1 }

def pool12 : Array CpInfo := pool [(2, .class_ 4), (1, u "java/lang/Object"), (0, u "<init>"), (0, u "()V"), (35, .class_ 44), (1, u "java/util/Objects"), (0, u "requireNonNull"), (48, u "(Ljava/lang/Object;Ljava/lang/String;)Ljava/lang/Object;")] 89

def k12m0 : Method := { name := "<init>", desc := "()V", sig := { parameters := [], returnType := none }, accessFlags := 2, code := none }
def k12c1 : Code := { maxStack := 3, maxLocals := 2, code := jdk_31_method_11_code, exceptionTable := #[], attributes := #[] }
def k12m1 : Method := { name := "requireNonNull", desc := "(Ljava/lang/Object;Ljava/lang/String;)Ljava/lang/Object;", sig := { parameters := [(.object "java/lang/Object"), (.object "java/lang/String")], returnType := some (.object "java/lang/Object") }, accessFlags := 9, code := some k12c1 }
/-- java/util/Objects -/
def k12 : Class := { plain "java/util/Objects" (some 0) with
  accessFlags := 49
  interfaces := #[]
  cf := some (fileOf pool12 42 #[] #[{ accessFlags := 2, nameIndex := 5, descriptorIndex := 6, attributes := #[] }, { accessFlags := 9, nameIndex := 45, descriptorIndex := 94, attributes := #[] }] 49 2 #[] #[])
  fields := #[]
  methods := #[k12m0, k12m1]
  instanceTypes := #[]
  staticTypes := #[]
  resolved := Array.replicate 184 none
  statics := none }

def pool13 : Array CpInfo := pool [(4, .class_ 6), (1, u "java/lang/Object"), (0, u "<init>"), (0, u "()V"), (5, .class_ 16), (1, u "java/lang/StringLatin1"), (73, u "canEncode"), (14, u "(C)Z"), (15, u "$assertionsDisabled"), (0, u "Z"), (98, .class_ 223), (1, u "java/lang/StringLatin1$LinesSpliterator"), (156, u "toBytes"), (1, u "(C)[B"), (7, .class_ 391), (0, u "java/lang/StringLatin1$CharsSpliterator")] 3

def k13m0 : Method := { name := "<init>", desc := "()V", sig := { parameters := [], returnType := none }, accessFlags := 0, code := none }
def k13c1 : Code := { maxStack := 2, maxLocals := 1, code := jdk_43_method_3_code, exceptionTable := #[], attributes := #[] }
def k13m1 : Method := { name := "canEncode", desc := "(C)Z", sig := { parameters := [.char], returnType := some .boolean }, accessFlags := 9, code := some k13c1 }
def k13c2 : Code := { maxStack := 4, maxLocals := 1, code := jdk_43_method_46_code, exceptionTable := #[], attributes := #[] }
def k13m2 : Method := { name := "toBytes", desc := "(C)[B", sig := { parameters := [.char], returnType := some (.array .byte) }, accessFlags := 9, code := some k13c2 }
/-- java/lang/StringLatin1 -/
def k13 : Class := { plain "java/lang/StringLatin1" (some 0) with
  accessFlags := 48
  interfaces := #[]
  cf := some (fileOf pool13 14 #[.nestMembers #[390, 221]] #[{ accessFlags := 0, nameIndex := 7, descriptorIndex := 8, attributes := #[] }, { accessFlags := 9, nameIndex := 90, descriptorIndex := 105, attributes := #[] }, { accessFlags := 9, nameIndex := 380, descriptorIndex := 382, attributes := #[] }] 48 4 #[] #[{ accessFlags := 4120, nameIndex := 121, descriptorIndex := 122, attributes := #[] }])
  fields := #[{ name := "$assertionsDisabled", type := .boolean, accessFlags := 4120, slot := 0, constantValue := 0 }]
  methods := #[k13m0, k13m1, k13m2]
  instanceTypes := #[]
  staticTypes := #[.boolean]
  resolved := Array.replicate 395 none
  statics := none }

def pool14 : Array CpInfo := pool [(2, .class_ 4), (1, u "java/lang/Object"), (0, u "<init>"), (0, u "()V"), (17, .class_ 26), (1, u "jdk/internal/util/Preconditions"), (28, .class_ 56), (0, u "jdk/internal/util/Preconditions$4"), (57, .class_ 115), (0, u "jdk/internal/util/Preconditions$1"), (7, u "SIOOBE_FORMATTER"), (0, u "Ljava/util/function/BiFunction;"), (0, .class_ 126), (0, u "jdk/internal/util/Preconditions$2"), (3, u "AIOOBE_FORMATTER"), (0, .class_ 132), (0, u "jdk/internal/util/Preconditions$3"), (3, u "IOOBE_FORMATTER")] 57

def k14m0 : Method := { name := "<init>", desc := "()V", sig := { parameters := [], returnType := none }, accessFlags := 1, code := none }
/-- jdk/internal/util/Preconditions -/
def k14 : Class := { plain "jdk/internal/util/Preconditions" (some 0) with
  accessFlags := 33
  interfaces := #[]
  cf := some (fileOf pool14 24 #[.nestMembers #[55, 131, 125, 114]] #[{ accessFlags := 1, nameIndex := 5, descriptorIndex := 6, attributes := #[] }] 33 2 #[] #[{ accessFlags := 25, nameIndex := 123, descriptorIndex := 124, attributes := #[] }, { accessFlags := 25, nameIndex := 130, descriptorIndex := 124, attributes := #[] }, { accessFlags := 25, nameIndex := 136, descriptorIndex := 124, attributes := #[] }])
  fields := #[{ name := "SIOOBE_FORMATTER", type := (.object "java/util/function/BiFunction"), accessFlags := 25, slot := 0, constantValue := 0 }, { name := "AIOOBE_FORMATTER", type := (.object "java/util/function/BiFunction"), accessFlags := 25, slot := 1, constantValue := 0 }, { name := "IOOBE_FORMATTER", type := (.object "java/util/function/BiFunction"), accessFlags := 25, slot := 2, constantValue := 0 }]
  methods := #[k14m0]
  instanceTypes := #[]
  staticTypes := #[(.object "java/util/function/BiFunction"), (.object "java/util/function/BiFunction"), (.object "java/util/function/BiFunction")]
  resolved := Array.replicate 194 none
  statics := some 2 }

def pool15 : Array CpInfo := pool [(9, u "<init>"), (6, .class_ 18), (1, u "java/lang/Object"), (0, u "()V"), (1, .class_ 23), (1, u "jdk/internal/util/ArraysSupport"), (0, u "LOG2_ARRAY_LONG_INDEX_SCALE"), (0, u "I"), (2, u "U"), (0, u "Ljdk/internal/misc/Unsafe;"), (8, u "BIG_ENDIAN"), (0, u "Z"), (8, u "LOG2_BYTE_BIT_SIZE"), (4, u "LOG2_ARRAY_INT_INDEX_SCALE"), (54, u "JLA"), (0, u "Ljdk/internal/access/JavaLangAccess;"), (11, u "LOG2_ARRAY_BOOLEAN_INDEX_SCALE"), (9, u "LOG2_ARRAY_BYTE_INDEX_SCALE"), (5, u "LOG2_ARRAY_CHAR_INDEX_SCALE"), (5, u "LOG2_ARRAY_SHORT_INDEX_SCALE"), (18, u "LOG2_ARRAY_FLOAT_INDEX_SCALE"), (24, u "LOG2_ARRAY_DOUBLE_INDEX_SCALE"), (89, u "T_BOOLEAN"), (2, u "T_CHAR"), (1, u "T_FLOAT"), (1, u "T_DOUBLE"), (1, u "T_BYTE"), (1, u "T_SHORT"), (1, u "T_INT"), (1, u "T_LONG"), (1, u "SOFT_MAX_ARRAY_LENGTH")] 83

def k15m0 : Method := { name := "<init>", desc := "()V", sig := { parameters := [], returnType := none }, accessFlags := 2, code := none }
/-- jdk/internal/util/ArraysSupport -/
def k15 : Class := { plain "jdk/internal/util/ArraysSupport" (some 0) with
  accessFlags := 33
  interfaces := #[]
  cf := some (fileOf pool15 21 #[] #[{ accessFlags := 2, nameIndex := 9, descriptorIndex := 19, attributes := #[] }] 33 16 #[] #[{ accessFlags := 24, nameIndex := 28, descriptorIndex := 29, attributes := #[] }, { accessFlags := 26, nameIndex := 38, descriptorIndex := 39, attributes := #[] }, { accessFlags := 25, nameIndex := 121, descriptorIndex := 25, attributes := #[] }, { accessFlags := 25, nameIndex := 131, descriptorIndex := 25, attributes := #[] }, { accessFlags := 25, nameIndex := 137, descriptorIndex := 25, attributes := #[] }, { accessFlags := 25, nameIndex := 143, descriptorIndex := 25, attributes := #[] }, { accessFlags := 25, nameIndex := 53, descriptorIndex := 25, attributes := #[] }, { accessFlags := 25, nameIndex := 24, descriptorIndex := 25, attributes := #[] }, { accessFlags := 25, nameIndex := 162, descriptorIndex := 25, attributes := #[] }, { accessFlags := 25, nameIndex := 187, descriptorIndex := 25, attributes := #[] }, { accessFlags := 26, nameIndex := 48, descriptorIndex := 25, attributes := #[] }, { accessFlags := 25, nameIndex := 277, descriptorIndex := 25, attributes := #[] }, { accessFlags := 25, nameIndex := 280, descriptorIndex := 25, attributes := #[] }, { accessFlags := 25, nameIndex := 282, descriptorIndex := 25, attributes := #[] }, { accessFlags := 25, nameIndex := 284, descriptorIndex := 25, attributes := #[] }, { accessFlags := 25, nameIndex := 286, descriptorIndex := 25, attributes := #[] }, { accessFlags := 25, nameIndex := 288, descriptorIndex := 25, attributes := #[] }, { accessFlags := 25, nameIndex := 290, descriptorIndex := 25, attributes := #[] }, { accessFlags := 25, nameIndex := 292, descriptorIndex := 25, attributes := #[] }, { accessFlags := 26, nameIndex := 108, descriptorIndex := 109, attributes := #[] }, { accessFlags := 25, nameIndex := 294, descriptorIndex := 25, attributes := #[] }])
  fields := #[{ name := "U", type := (.object "jdk/internal/misc/Unsafe"), accessFlags := 24, slot := 0, constantValue := 0 }, { name := "BIG_ENDIAN", type := .boolean, accessFlags := 26, slot := 1, constantValue := 0 }, { name := "LOG2_ARRAY_BOOLEAN_INDEX_SCALE", type := .int, accessFlags := 25, slot := 2, constantValue := 0 }, { name := "LOG2_ARRAY_BYTE_INDEX_SCALE", type := .int, accessFlags := 25, slot := 3, constantValue := 0 }, { name := "LOG2_ARRAY_CHAR_INDEX_SCALE", type := .int, accessFlags := 25, slot := 4, constantValue := 0 }, { name := "LOG2_ARRAY_SHORT_INDEX_SCALE", type := .int, accessFlags := 25, slot := 5, constantValue := 0 }, { name := "LOG2_ARRAY_INT_INDEX_SCALE", type := .int, accessFlags := 25, slot := 6, constantValue := 0 }, { name := "LOG2_ARRAY_LONG_INDEX_SCALE", type := .int, accessFlags := 25, slot := 7, constantValue := 0 }, { name := "LOG2_ARRAY_FLOAT_INDEX_SCALE", type := .int, accessFlags := 25, slot := 8, constantValue := 0 }, { name := "LOG2_ARRAY_DOUBLE_INDEX_SCALE", type := .int, accessFlags := 25, slot := 9, constantValue := 0 }, { name := "LOG2_BYTE_BIT_SIZE", type := .int, accessFlags := 26, slot := 10, constantValue := 0 }, { name := "T_BOOLEAN", type := .int, accessFlags := 25, slot := 11, constantValue := 0 }, { name := "T_CHAR", type := .int, accessFlags := 25, slot := 12, constantValue := 0 }, { name := "T_FLOAT", type := .int, accessFlags := 25, slot := 13, constantValue := 0 }, { name := "T_DOUBLE", type := .int, accessFlags := 25, slot := 14, constantValue := 0 }, { name := "T_BYTE", type := .int, accessFlags := 25, slot := 15, constantValue := 0 }, { name := "T_SHORT", type := .int, accessFlags := 25, slot := 16, constantValue := 0 }, { name := "T_INT", type := .int, accessFlags := 25, slot := 17, constantValue := 0 }, { name := "T_LONG", type := .int, accessFlags := 25, slot := 18, constantValue := 0 }, { name := "JLA", type := (.object "jdk/internal/access/JavaLangAccess"), accessFlags := 26, slot := 19, constantValue := 0 }, { name := "SOFT_MAX_ARRAY_LENGTH", type := .int, accessFlags := 25, slot := 20, constantValue := 0 }]
  methods := #[k15m0]
  instanceTypes := #[]
  staticTypes := #[(.object "jdk/internal/misc/Unsafe"), .boolean, .int, .int, .int, .int, .int, .int, .int, .int, .int, .int, .int, .int, .int, .int, .int, .int, .int, (.object "jdk/internal/access/JavaLangAccess"), .int]
  resolved := Array.replicate 378 none
  statics := none }

def pool16 : Array CpInfo := pool [(1, u "java/lang/Cloneable"), (0, .class_ 1), (0, u "java/lang/Object"), (0, .class_ 3)] 3

/-- java/lang/Cloneable -/
def k16 : Class := { plain "java/lang/Cloneable" (some 0) with
  accessFlags := 1537
  interfaces := #[]
  cf := some (fileOf pool16 2 #[] #[] 1537 4 #[] #[])
  fields := #[]
  methods := #[]
  instanceTypes := #[]
  staticTypes := #[]
  resolved := Array.replicate 8 none
  statics := none }

/-- the primitive byte -/
def k17 : Class := { plain "byte" none with kind := .primitive 'B', accessFlags := 0x411 }
/-- [B -/
def k18 : Class := { plain "[B" (some 0) with kind := .array 17 .byte, interfaces := #[16, 4], accessFlags := 1041 }

/-- the primitive int -/
def k19 : Class := { plain "int" none with kind := .primitive 'I', accessFlags := 0x411 }
/-- [I -/
def k20 : Class := { plain "[I" (some 0) with kind := .array 19 .int, interfaces := #[16, 4], accessFlags := 1041 }

def heap : Heap := #[{ cls := 6, slots := #[.ref 3, .ref 4, .ref 5, .null], vm := .statics 6 },
  { cls := 11, slots := #[.long 0, .int 1, .null, .int 0, .null, .int 0, .int 0], vm := .statics 11 },
  { cls := 14, slots := #[.null, .null, .null], vm := .statics 14 },
  { cls := 6, slots := #[.null, .int 0, .int 0], vm := .none },
  { cls := 6, slots := #[.null, .int 1, .int 0], vm := .none },
  { cls := 6, slots := #[.null, .int 2, .int 0], vm := .none }]
def classes : Array Class := #[k0, k1, k2, k3, k4, k5, k6, k7, k8, k9, k10, k11, k12, k13, k14, k15, k16, k17, k18, k19, k20]
def interned : List (Array UInt16 × Addr) := []
def slotsUsed : Nat := 23
def theMethod : MethodId := ⟨1, 1⟩
def args0 : Array Value := #[.int 5, .int 7, .int 9, .long 3]
def aboutOver (below : List Frame) : State where
  vm := { classes := classes, interned := interned.toArray }
  heap := heap
  slotsUsed := slotsUsed
  threads := #[{ frames := .invoking theMethod args0 :: below }]
def below0 : List Frame := [.native { method := ⟨0, 0⟩, args := #[] }]
def about1 : State := aboutOver below0
def p0 : Program := .bare "" "" ""
def e0 : Env := launch0.env 0 0 0
theorem w_frames : about1.frames = Frame.invoking theMethod args0 :: below0 := rfl
set_option maxRecDepth 65536 in
theorem w_args : argsFit about1.vm theMethod args0 = true := by decide +kernel
set_option maxRecDepth 65536 in
theorem w_heap : heapFits about1 = true := by decide +kernel
set_option maxRecDepth 65536 in
theorem w_runnable : about1.curStatus? = some .runnable := by decide +kernel
set_option maxRecDepth 65536 in
theorem w_alone : about1.alone = true := by decide +kernel
set_option maxRecDepth 65536 in
theorem w_named : about1.methodNamed? x = some theMethod := by decide +kernel
set_option maxRecDepth 65536 in
theorem w_hears : about1.hears theMethod below0 = true := by decide +kernel
set_option maxRecDepth 65536 in
theorem w_ripe : about1.ripe theMethod args0 below0 = true := by decide +kernel
theorem w_running : about1.status = .running := rfl
set_option maxRecDepth 65536 in
theorem w_room : about1.hasRoom e0.platform room_1 = true :=
  launch0.hasRoom_least _ room_1 (by decide +kernel) (by decide +kernel) (by decide +kernel) (by decide +kernel) (by decide +kernel) (by decide +kernel)
theorem allAtoms_all (ts : List Jvm.Cond) (a : Array Jvm.Value) (st : Jvm.State) : (allAtoms ts).before a st = ts.all (fun c => c.before a st) := by
  induction ts with
  | nil => rfl
  | cons c t ih =>
    show (Jvm.Cond.and c (allAtoms t)).before a st = _
    rw [Jvm.Cond.before_and, ih, List.all_cons]
def words1 : List Jvm.Cond := Jvm.Cond.code x code maxLocals ret :: tables_1
/-- a 'code' word, met by the world's own term for the bytes: nothing is compared byte by byte -/
theorem code_word {y : MethodName} {bytes : ByteArray} {mx : Nat} {rt : Option FieldType} {a : Array Value} {s : State} {m : MethodId} {meth : Method} {c : Code} (h1 : s.methodNamed? y = some m) (h2 : s.vm.method? m = some meth) (h3 : meth.code = some c) (h4 : c.code = bytes)
    (h5 : (c.maxLocals == mx && c.exceptionTable.isEmpty && decide (c.maxStack ≤ mostOperands) && decide (meth.sig.returnType = rt) && !meth.locks && decide (parseMethodDescriptor y.desc = some meth.sig)) = true) : (Jvm.Cond.code y bytes mx rt).before a s = true := by
  simp only [Bool.and_eq_true, beq_iff_eq, Bool.not_eq_true', decide_eq_true_eq] at h5
  obtain ⟨⟨⟨⟨⟨g1, g2⟩, g3⟩, g4⟩, g5⟩, g6⟩ := h5
  simp [Cond.before, Cond.holds, Cond.value, h1, h2, h3, h4, g1, g2, g3, g4, g5, g6]
def isCode : Jvm.Cond → Bool
  | .code _ _ _ _ => true
  | _ => false
theorem all_split {L : List Jvm.Cond} {P : Jvm.Cond → Bool} (h1 : L.all (fun c => isCode c || P c) = true) (h2 : ∀ c ∈ L.filter isCode, P c = true) : L.all P = true := by
  refine List.all_eq_true.mpr fun c hc => ?_
  have h := List.all_eq_true.mp h1 c hc
  rcases Bool.eq_false_or_eq_true (isCode c) with hi | hi
  · exact h2 c (List.mem_filter.mpr ⟨hc, hi⟩)
  · simpa [hi] using h
set_option maxRecDepth 65536 in
theorem w_c0 : (Jvm.Cond.code x code maxLocals ret).before args0 about1 = true := code_word (m := ⟨1, 1⟩) (meth := k1m1) (c := k1c1) (by decide +kernel) rfl rfl rfl (by decide +kernel)
set_option maxRecDepth 65536 in
theorem w_c1 : (Jvm.Cond.code ({ cls := "org/shardwright/model/ShardCopy", name := "<init>", desc := "(IZLorg/shardwright/model/ShardCopy$State;Ljava/lang/String;Ljava/lang/String;Ljava/lang/String;JLjava/lang/String;Ljava/lang/String;)V" } : Jvm.MethodName) prog_33_method_1_code (11 : Nat) (Option.none : Option Jvm.ClassFile.FieldType)).before args0 about1 = true := code_word (m := ⟨8, 0⟩) (meth := k8m0) (c := k8c0) (by decide +kernel) rfl rfl rfl (by decide +kernel)
set_option maxRecDepth 65536 in
theorem w_c2 : (Jvm.Cond.code ({ cls := "java/lang/Record", name := "<init>", desc := "()V" } : Jvm.MethodName) jdk_30_method_1_code (1 : Nat) (Option.none : Option Jvm.ClassFile.FieldType)).before args0 about1 = true := code_word (m := ⟨7, 0⟩) (meth := k7m0) (c := k7c0) (by decide +kernel) rfl rfl rfl (by decide +kernel)
set_option maxRecDepth 65536 in
theorem w_c3 : (Jvm.Cond.code ({ cls := "java/lang/Object", name := "<init>", desc := "()V" } : Jvm.MethodName) object_method_1_code (1 : Nat) (Option.none : Option Jvm.ClassFile.FieldType)).before args0 about1 = true := code_word (m := ⟨0, 0⟩) (meth := k0m0) (c := k0c0) (by decide +kernel) rfl rfl rfl (by decide +kernel)
set_option maxRecDepth 65536 in
theorem w_c4 : (Jvm.Cond.code ({ cls := "java/util/Objects", name := "requireNonNull", desc := "(Ljava/lang/Object;Ljava/lang/String;)Ljava/lang/Object;" } : Jvm.MethodName) jdk_31_method_11_code (2 : Nat) (Option.some (Jvm.ClassFile.FieldType.object "java/lang/Object"))).before args0 about1 = true := code_word (m := ⟨12, 1⟩) (meth := k12m1) (c := k12c1) (by decide +kernel) rfl rfl rfl (by decide +kernel)
set_option maxRecDepth 65536 in
theorem w_c5 : (Jvm.Cond.code ({ cls := "org/shardwright/model/ShardCopy", name := "movedIn", desc := "()Z" } : Jvm.MethodName) prog_33_method_13_code (1 : Nat) (Option.some Jvm.ClassFile.FieldType.boolean)).before args0 about1 = true := code_word (m := ⟨8, 1⟩) (meth := k8m1) (c := k8c1) (by decide +kernel) rfl rfl rfl (by decide +kernel)
set_option maxRecDepth 65536 in
theorem w_c6 : (Jvm.Cond.code ({ cls := "java/lang/String", name := "valueOf", desc := "(C)Ljava/lang/String;" } : Jvm.MethodName) jdk_42_method_139_code (1 : Nat) (Option.some (Jvm.ClassFile.FieldType.object "java/lang/String"))).before args0 about1 = true := code_word (m := ⟨11, 1⟩) (meth := k11m1) (c := k11c1) (by decide +kernel) rfl rfl rfl (by decide +kernel)
set_option maxRecDepth 65536 in
theorem w_c7 : (Jvm.Cond.code ({ cls := "java/lang/StringLatin1", name := "canEncode", desc := "(C)Z" } : Jvm.MethodName) jdk_43_method_3_code (1 : Nat) (Option.some Jvm.ClassFile.FieldType.boolean)).before args0 about1 = true := code_word (m := ⟨13, 1⟩) (meth := k13m1) (c := k13c1) (by decide +kernel) rfl rfl rfl (by decide +kernel)
set_option maxRecDepth 65536 in
theorem w_c8 : (Jvm.Cond.code ({ cls := "java/lang/StringLatin1", name := "toBytes", desc := "(C)[B" } : Jvm.MethodName) jdk_43_method_46_code (1 : Nat) (Option.some (Jvm.ClassFile.FieldType.array Jvm.ClassFile.FieldType.byte))).before args0 about1 = true := code_word (m := ⟨13, 2⟩) (meth := k13m2) (c := k13c2) (by decide +kernel) rfl rfl rfl (by decide +kernel)
set_option maxRecDepth 65536 in
theorem w_c9 : (Jvm.Cond.code ({ cls := "java/lang/String", name := "<init>", desc := "([BB)V" } : Jvm.MethodName) jdk_42_method_151_code (3 : Nat) (Option.none : Option Jvm.ClassFile.FieldType)).before args0 about1 = true := code_word (m := ⟨11, 2⟩) (meth := k11m2) (c := k11c2) (by decide +kernel) rfl rfl rfl (by decide +kernel)
def codes1 : List Jvm.Cond := [Jvm.Cond.code x code maxLocals ret, Jvm.Cond.code ({ cls := "org/shardwright/model/ShardCopy", name := "<init>", desc := "(IZLorg/shardwright/model/ShardCopy$State;Ljava/lang/String;Ljava/lang/String;Ljava/lang/String;JLjava/lang/String;Ljava/lang/String;)V" } : Jvm.MethodName) prog_33_method_1_code (11 : Nat) (Option.none : Option Jvm.ClassFile.FieldType), Jvm.Cond.code ({ cls := "java/lang/Record", name := "<init>", desc := "()V" } : Jvm.MethodName) jdk_30_method_1_code (1 : Nat) (Option.none : Option Jvm.ClassFile.FieldType), Jvm.Cond.code ({ cls := "java/lang/Object", name := "<init>", desc := "()V" } : Jvm.MethodName) object_method_1_code (1 : Nat) (Option.none : Option Jvm.ClassFile.FieldType), Jvm.Cond.code ({ cls := "java/util/Objects", name := "requireNonNull", desc := "(Ljava/lang/Object;Ljava/lang/String;)Ljava/lang/Object;" } : Jvm.MethodName) jdk_31_method_11_code (2 : Nat) (Option.some (Jvm.ClassFile.FieldType.object "java/lang/Object")), Jvm.Cond.code ({ cls := "org/shardwright/model/ShardCopy", name := "movedIn", desc := "()Z" } : Jvm.MethodName) prog_33_method_13_code (1 : Nat) (Option.some Jvm.ClassFile.FieldType.boolean), Jvm.Cond.code ({ cls := "java/lang/String", name := "valueOf", desc := "(C)Ljava/lang/String;" } : Jvm.MethodName) jdk_42_method_139_code (1 : Nat) (Option.some (Jvm.ClassFile.FieldType.object "java/lang/String")), Jvm.Cond.code ({ cls := "java/lang/StringLatin1", name := "canEncode", desc := "(C)Z" } : Jvm.MethodName) jdk_43_method_3_code (1 : Nat) (Option.some Jvm.ClassFile.FieldType.boolean), Jvm.Cond.code ({ cls := "java/lang/StringLatin1", name := "toBytes", desc := "(C)[B" } : Jvm.MethodName) jdk_43_method_46_code (1 : Nat) (Option.some (Jvm.ClassFile.FieldType.array Jvm.ClassFile.FieldType.byte)), Jvm.Cond.code ({ cls := "java/lang/String", name := "<init>", desc := "([BB)V" } : Jvm.MethodName) jdk_42_method_151_code (3 : Nat) (Option.none : Option Jvm.ClassFile.FieldType)]
set_option maxRecDepth 65536 in
theorem codes_eq : words1.filter isCode = codes1 := rfl
theorem w_codes : ∀ c ∈ words1.filter isCode, c.before args0 about1 = true := by
  rw [codes_eq]
  intro c hc
  simp only [codes1, List.mem_cons, List.not_mem_nil, or_false] at hc
  rcases hc with rfl | rfl | rfl | rfl | rfl | rfl | rfl | rfl | rfl | rfl
  · exact w_c0
  · exact w_c1
  · exact w_c2
  · exact w_c3
  · exact w_c4
  · exact w_c5
  · exact w_c6
  · exact w_c7
  · exact w_c8
  · exact w_c9
set_option maxRecDepth 65536 in
theorem w_t1 : (words1.take 24).all (fun c => isCode c || c.before args0 about1) = true := by decide +kernel
set_option maxRecDepth 65536 in
theorem w_t2 : ((words1.drop 24).take 24).all (fun c => isCode c || c.before args0 about1) = true := by decide +kernel
set_option maxRecDepth 65536 in
theorem w_t3 : (((words1.drop 24).drop 24).take 24).all (fun c => isCode c || c.before args0 about1) = true := by decide +kernel
set_option maxRecDepth 65536 in
theorem w_t4 : (((words1.drop 24).drop 24).drop 24).all (fun c => isCode c || c.before args0 about1) = true := by decide +kernel
theorem w_tables : (allAtoms (Jvm.Cond.code x code maxLocals ret :: tables_1)).before args0 about1 = true := by
  rw [allAtoms_all]
  show words1.all (fun c => c.before args0 about1) = true
  refine all_split ?_ w_codes
  rw [← List.take_append_drop 24 words1, List.all_append, w_t1, ← List.take_append_drop 24 (words1.drop 24), List.all_append, w_t2, ← List.take_append_drop 24 ((words1.drop 24).drop 24), List.all_append, w_t3, w_t4]
  rfl
set_option maxRecDepth 65536 in
theorem w_rest : rest_1_c.before args0 about1 = true := by decide +kernel
set_option maxRecDepth 65536 in
theorem w_case : (Jvm.Cond.and given_1 narrow_1).before args0 about1 = true := by decide +kernel
theorem w_applies : (headSpec (Jvm.Cond.code x code maxLocals ret :: tables_1) room_1).applies x e0.platform about1 = true :=
  (Spec.applies_iff w_frames).mpr ⟨w_running, w_runnable, w_alone, w_named, w_hears, w_ripe, w_room, w_tables⟩
theorem atStart : AtStart classFile x code maxLocals ret World_1 tables_1 room_1 Calls_1 rest_1 Pre_1 launch0 p0 e0 about1 theMethod args0 below0 :=
  ⟨lists_1, trivial, launch0.admits_env _ _ _, launch0.least_env, fairChoices_fair.cas, fairChoices_fair.clock, w_frames, w_args, w_heap, w_applies, trivial, w_rest, w_case⟩
end start1
theorem witness_1 : WitnessClaimed_1 := ⟨start1.p0, start1.e0, start1.about1, start1.theMethod, start1.args0, start1.below0, start1.atStart⟩
end Jvm.Pilot.@@N@@
