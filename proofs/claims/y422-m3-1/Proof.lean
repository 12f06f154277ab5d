import JvmDerived
import JvmDerived.Pilot.@@N@@Statement
import JvmDerived.Pilot.@@N@@Code
set_option linter.unusedVariables false
set_option linter.unusedSimpArgs false
namespace Jvm.Pilot.@@N@@
open Jvm Jvm.ClassFile Sem Op Lib Jvm.Free Jvm.Stand Jvm.LawKit Jvm.RoadKit Bundle Jvm.Pilot.@@N@@.Jvm.D
/-- from A the run comes to B -/
abbrev Go (p : Program) (e : Env) (below : List Frame) (A B : State) : Prop := ∀ t, Steps p.tables e below B t → Steps p.tables e below A t
section Own
variable {p : Program} {l : Launch} {e : Env} {R : Room} {s : State} {m : MethodId} {args : Array Value} {below : List Frame} {meth : Method} {c : Code} {T : State} {locs : List Loc} {cells slots : Nat} {t : State} {A : ByteArray} {pc : Nat} {L : Array Slot} {S : List Value}
theorem o_iloadN (X : Stand p l e R s m args below meth c T locs cells slots) (hx : p.tables.exec = Jvm.exec) (hby : c.code = A) {k : Fin 4} {v : Int32} (hd : decode A pc = .ok (.iload_n k, 1)) (n : Nat) (hn : pc + 1 = n) (hl : L[k.val]? = some (.val (.int v))) (hr : Steps p.tables e below (T.setTop (mkF m n L (.int v :: S))) t) : Steps p.tables e below (T.setTop (mkF m pc L S)) t := by
  subst hn; exact XS.iloadN X.here hx rfl (hb hby hd) hl hr
theorem o_lloadN (X : Stand p l e R s m args below meth c T locs cells slots) (hx : p.tables.exec = Jvm.exec) (hby : c.code = A) {k : Fin 4} {v : Int64} (hd : decode A pc = .ok (.lload_n k, 1)) (n : Nat) (hn : pc + 1 = n) (hl : L[k.val]? = some (.val (.long v))) (hr : Steps p.tables e below (T.setTop (mkF m n L (.long v :: S))) t) : Steps p.tables e below (T.setTop (mkF m pc L S)) t := by
  subst hn; exact XS.lloadN X.here hx rfl (hb hby hd) hl hr
theorem o_aloadN (X : Stand p l e R s m args below meth c T locs cells slots) (hx : p.tables.exec = Jvm.exec) (hby : c.code = A) {k : Fin 4} {v : Value} (hd : decode A pc = .ok (.aload_n k, 1)) (n : Nat) (hn : pc + 1 = n) (hl : L[k.val]? = some (.val v)) (hv : v.isRef = true) (hr : Steps p.tables e below (T.setTop (mkF m n L (v :: S))) t) : Steps p.tables e below (T.setTop (mkF m pc L S)) t := by
  subst hn; exact XS.aloadN X.here hx rfl (hb hby hd) hl hv hr
theorem o_istoreN (X : Stand p l e R s m args below meth c T locs cells slots) (hx : p.tables.exec = Jvm.exec) (hby : c.code = A) {k : Fin 4} {v : Int32} {l' : Array Slot} (hd : decode A pc = .ok (.istore_n k, 1)) (n : Nat) (hn : pc + 1 = n) (hl : storeLocals L k.val (.int v) = some l') (hr : Steps p.tables e below (T.setTop (mkF m n l' S)) t) : Steps p.tables e below (T.setTop (mkF m pc L (.int v :: S))) t := by
  subst hn; exact XS.istoreN X.here hx rfl (hb hby hd) rfl hl hr
theorem o_lstoreN (X : Stand p l e R s m args below meth c T locs cells slots) (hx : p.tables.exec = Jvm.exec) (hby : c.code = A) {k : Fin 4} {v : Int64} {l' : Array Slot} (hd : decode A pc = .ok (.lstore_n k, 1)) (n : Nat) (hn : pc + 1 = n) (hl : storeLocals L k.val (.long v) = some l') (hr : Steps p.tables e below (T.setTop (mkF m n l' S)) t) : Steps p.tables e below (T.setTop (mkF m pc L (.long v :: S))) t := by
  subst hn; exact XS.lstoreN X.here hx rfl (hb hby hd) rfl hl hr
theorem o_astoreN (X : Stand p l e R s m args below meth c T locs cells slots) (hx : p.tables.exec = Jvm.exec) (hby : c.code = A) {k : Fin 4} {v : Value} {l' : Array Slot} (hd : decode A pc = .ok (.astore_n k, 1)) (n : Nat) (hn : pc + 1 = n) (hv : v.isRef = true) (hl : storeLocals L k.val v = some l') (hr : Steps p.tables e below (T.setTop (mkF m n l' S)) t) : Steps p.tables e below (T.setTop (mkF m pc L (v :: S))) t := by
  subst hn; exact XS.astoreN X.here hx rfl (hb hby hd) rfl hv hl hr
theorem o_iload (X : Stand p l e R s m args below meth c T locs cells slots) (hx : p.tables.exec = Jvm.exec) (hby : c.code = A) {k : Nat} {v : Int32} (hd : decode A pc = .ok (.iload k, 2)) (n : Nat) (hn : pc + 2 = n) (hl : L[k]? = some (.val (.int v))) (hr : Steps p.tables e below (T.setTop (mkF m n L (.int v :: S))) t) : Steps p.tables e below (T.setTop (mkF m pc L S)) t := by
  subst hn; exact XS.iload X.here hx rfl (hb hby hd) hl hr
theorem o_lload (X : Stand p l e R s m args below meth c T locs cells slots) (hx : p.tables.exec = Jvm.exec) (hby : c.code = A) {k : Nat} {v : Int64} (hd : decode A pc = .ok (.lload k, 2)) (n : Nat) (hn : pc + 2 = n) (hl : L[k]? = some (.val (.long v))) (hr : Steps p.tables e below (T.setTop (mkF m n L (.long v :: S))) t) : Steps p.tables e below (T.setTop (mkF m pc L S)) t := by
  subst hn; exact XS.lload X.here hx rfl (hb hby hd) hl hr
theorem o_aload (X : Stand p l e R s m args below meth c T locs cells slots) (hx : p.tables.exec = Jvm.exec) (hby : c.code = A) {k : Nat} {v : Value} (hd : decode A pc = .ok (.aload k, 2)) (n : Nat) (hn : pc + 2 = n) (hl : L[k]? = some (.val v)) (hv : v.isRef = true) (hr : Steps p.tables e below (T.setTop (mkF m n L (v :: S))) t) : Steps p.tables e below (T.setTop (mkF m pc L S)) t := by
  subst hn; exact XS.aload X.here hx rfl (hb hby hd) hl hv hr
theorem o_istore (X : Stand p l e R s m args below meth c T locs cells slots) (hx : p.tables.exec = Jvm.exec) (hby : c.code = A) {k : Nat} {v : Int32} {l' : Array Slot} (hd : decode A pc = .ok (.istore k, 2)) (n : Nat) (hn : pc + 2 = n) (hl : storeLocals L k (.int v) = some l') (hr : Steps p.tables e below (T.setTop (mkF m n l' S)) t) : Steps p.tables e below (T.setTop (mkF m pc L (.int v :: S))) t := by
  subst hn; exact XS.istore X.here hx rfl (hb hby hd) rfl hl hr
theorem o_lstore (X : Stand p l e R s m args below meth c T locs cells slots) (hx : p.tables.exec = Jvm.exec) (hby : c.code = A) {k : Nat} {v : Int64} {l' : Array Slot} (hd : decode A pc = .ok (.lstore k, 2)) (n : Nat) (hn : pc + 2 = n) (hl : storeLocals L k (.long v) = some l') (hr : Steps p.tables e below (T.setTop (mkF m n l' S)) t) : Steps p.tables e below (T.setTop (mkF m pc L (.long v :: S))) t := by
  subst hn; exact XS.lstore X.here hx rfl (hb hby hd) rfl hl hr
theorem o_astore (X : Stand p l e R s m args below meth c T locs cells slots) (hx : p.tables.exec = Jvm.exec) (hby : c.code = A) {k : Nat} {v : Value} {l' : Array Slot} (hd : decode A pc = .ok (.astore k, 2)) (n : Nat) (hn : pc + 2 = n) (hv : v.isRef = true) (hl : storeLocals L k v = some l') (hr : Steps p.tables e below (T.setTop (mkF m n l' S)) t) : Steps p.tables e below (T.setTop (mkF m pc L (v :: S))) t := by
  subst hn; exact XS.astore X.here hx rfl (hb hby hd) rfl hv hl hr
theorem o_iconst (X : Stand p l e R s m args below meth c T locs cells slots) (hx : p.tables.exec = Jvm.exec) (hby : c.code = A) {i : Int} (hd : decode A pc = .ok (.iconst i, 1)) (n : Nat) (hn : pc + 1 = n) {v : Int32} (hv : Int32.ofInt i = v) (hr : Steps p.tables e below (T.setTop (mkF m n L (.int v :: S))) t) : Steps p.tables e below (T.setTop (mkF m pc L S)) t := by
  subst hn; subst hv; exact XS.iconst X.here hx rfl (hb hby hd) hr
theorem o_bipush (X : Stand p l e R s m args below meth c T locs cells slots) (hx : p.tables.exec = Jvm.exec) (hby : c.code = A) {i : Int} (hd : decode A pc = .ok (.bipush i, 2)) (n : Nat) (hn : pc + 2 = n) {v : Int32} (hv : (Int8.ofInt i).toInt32 = v) (hr : Steps p.tables e below (T.setTop (mkF m n L (.int v :: S))) t) : Steps p.tables e below (T.setTop (mkF m pc L S)) t := by
  subst hn; subst hv; exact XS.bipush X.here hx rfl (hb hby hd) hr
theorem o_sipush (X : Stand p l e R s m args below meth c T locs cells slots) (hx : p.tables.exec = Jvm.exec) (hby : c.code = A) {i : Int} (hd : decode A pc = .ok (.sipush i, 3)) (n : Nat) (hn : pc + 3 = n) {v : Int32} (hv : (Int16.ofInt i).toInt32 = v) (hr : Steps p.tables e below (T.setTop (mkF m n L (.int v :: S))) t) : Steps p.tables e below (T.setTop (mkF m pc L S)) t := by
  subst hn; subst hv; exact XS.sipush X.here hx rfl (hb hby hd) hr
theorem o_lconst (X : Stand p l e R s m args below meth c T locs cells slots) (hx : p.tables.exec = Jvm.exec) (hby : c.code = A) {i : Fin 2} (hd : decode A pc = .ok (.lconst i, 1)) (n : Nat) (hn : pc + 1 = n) {v : Int64} (hv : Int64.ofNat i.val = v) (hr : Steps p.tables e below (T.setTop (mkF m n L (.long v :: S))) t) : Steps p.tables e below (T.setTop (mkF m pc L S)) t := by
  subst hn; subst hv; exact XS.lconst X.here hx rfl (hb hby hd) hr
theorem o_aconstNull (X : Stand p l e R s m args below meth c T locs cells slots) (hx : p.tables.exec = Jvm.exec) (hby : c.code = A) (hd : decode A pc = .ok (.aconst_null, 1)) (n : Nat) (hn : pc + 1 = n) (hr : Steps p.tables e below (T.setTop (mkF m n L (.null :: S))) t) : Steps p.tables e below (T.setTop (mkF m pc L S)) t := by
  subst hn; exact XS.aconstNull X.here hx rfl (hb hby hd) hr
theorem o_iadd (X : Stand p l e R s m args below meth c T locs cells slots) (hx : p.tables.exec = Jvm.exec) (hby : c.code = A) {x y : Int32} (hd : decode A pc = .ok (.iadd, 1)) (n : Nat) (hn : pc + 1 = n) (hr : Steps p.tables e below (T.setTop (mkF m n L (.int (x + y) :: S))) t) : Steps p.tables e below (T.setTop (mkF m pc L (.int y :: .int x :: S))) t := by
  subst hn; exact XS.iadd X.here hx rfl (hb hby hd) rfl hr
theorem o_ladd (X : Stand p l e R s m args below meth c T locs cells slots) (hx : p.tables.exec = Jvm.exec) (hby : c.code = A) {x y : Int64} (hd : decode A pc = .ok (.ladd, 1)) (n : Nat) (hn : pc + 1 = n) (hr : Steps p.tables e below (T.setTop (mkF m n L (.long (x + y) :: S))) t) : Steps p.tables e below (T.setTop (mkF m pc L (.long y :: .long x :: S))) t := by
  subst hn; exact XS.ladd X.here hx rfl (hb hby hd) rfl hr
theorem o_isub (X : Stand p l e R s m args below meth c T locs cells slots) (hx : p.tables.exec = Jvm.exec) (hby : c.code = A) {x y : Int32} (hd : decode A pc = .ok (.isub, 1)) (n : Nat) (hn : pc + 1 = n) (hr : Steps p.tables e below (T.setTop (mkF m n L (.int (x - y) :: S))) t) : Steps p.tables e below (T.setTop (mkF m pc L (.int y :: .int x :: S))) t := by
  subst hn; exact XS.isub X.here hx rfl (hb hby hd) rfl hr
theorem o_lsub (X : Stand p l e R s m args below meth c T locs cells slots) (hx : p.tables.exec = Jvm.exec) (hby : c.code = A) {x y : Int64} (hd : decode A pc = .ok (.lsub, 1)) (n : Nat) (hn : pc + 1 = n) (hr : Steps p.tables e below (T.setTop (mkF m n L (.long (x - y) :: S))) t) : Steps p.tables e below (T.setTop (mkF m pc L (.long y :: .long x :: S))) t := by
  subst hn; exact XS.lsub X.here hx rfl (hb hby hd) rfl hr
theorem o_imul (X : Stand p l e R s m args below meth c T locs cells slots) (hx : p.tables.exec = Jvm.exec) (hby : c.code = A) {x y : Int32} (hd : decode A pc = .ok (.imul, 1)) (n : Nat) (hn : pc + 1 = n) (hr : Steps p.tables e below (T.setTop (mkF m n L (.int (x * y) :: S))) t) : Steps p.tables e below (T.setTop (mkF m pc L (.int y :: .int x :: S))) t := by
  subst hn; exact XS.imul X.here hx rfl (hb hby hd) rfl hr
theorem o_lmul (X : Stand p l e R s m args below meth c T locs cells slots) (hx : p.tables.exec = Jvm.exec) (hby : c.code = A) {x y : Int64} (hd : decode A pc = .ok (.lmul, 1)) (n : Nat) (hn : pc + 1 = n) (hr : Steps p.tables e below (T.setTop (mkF m n L (.long (x * y) :: S))) t) : Steps p.tables e below (T.setTop (mkF m pc L (.long y :: .long x :: S))) t := by
  subst hn; exact XS.lmul X.here hx rfl (hb hby hd) rfl hr
theorem o_iand (X : Stand p l e R s m args below meth c T locs cells slots) (hx : p.tables.exec = Jvm.exec) (hby : c.code = A) {x y : Int32} (hd : decode A pc = .ok (.iand, 1)) (n : Nat) (hn : pc + 1 = n) (hr : Steps p.tables e below (T.setTop (mkF m n L (.int (x &&& y) :: S))) t) : Steps p.tables e below (T.setTop (mkF m pc L (.int y :: .int x :: S))) t := by
  subst hn; exact XS.iand X.here hx rfl (hb hby hd) rfl hr
theorem o_land (X : Stand p l e R s m args below meth c T locs cells slots) (hx : p.tables.exec = Jvm.exec) (hby : c.code = A) {x y : Int64} (hd : decode A pc = .ok (.land, 1)) (n : Nat) (hn : pc + 1 = n) (hr : Steps p.tables e below (T.setTop (mkF m n L (.long (x &&& y) :: S))) t) : Steps p.tables e below (T.setTop (mkF m pc L (.long y :: .long x :: S))) t := by
  subst hn; exact XS.land X.here hx rfl (hb hby hd) rfl hr
theorem o_ior (X : Stand p l e R s m args below meth c T locs cells slots) (hx : p.tables.exec = Jvm.exec) (hby : c.code = A) {x y : Int32} (hd : decode A pc = .ok (.ior, 1)) (n : Nat) (hn : pc + 1 = n) (hr : Steps p.tables e below (T.setTop (mkF m n L (.int (x ||| y) :: S))) t) : Steps p.tables e below (T.setTop (mkF m pc L (.int y :: .int x :: S))) t := by
  subst hn; exact XS.ior X.here hx rfl (hb hby hd) rfl hr
theorem o_lor (X : Stand p l e R s m args below meth c T locs cells slots) (hx : p.tables.exec = Jvm.exec) (hby : c.code = A) {x y : Int64} (hd : decode A pc = .ok (.lor, 1)) (n : Nat) (hn : pc + 1 = n) (hr : Steps p.tables e below (T.setTop (mkF m n L (.long (x ||| y) :: S))) t) : Steps p.tables e below (T.setTop (mkF m pc L (.long y :: .long x :: S))) t := by
  subst hn; exact XS.lor X.here hx rfl (hb hby hd) rfl hr
theorem o_ixor (X : Stand p l e R s m args below meth c T locs cells slots) (hx : p.tables.exec = Jvm.exec) (hby : c.code = A) {x y : Int32} (hd : decode A pc = .ok (.ixor, 1)) (n : Nat) (hn : pc + 1 = n) (hr : Steps p.tables e below (T.setTop (mkF m n L (.int (x ^^^ y) :: S))) t) : Steps p.tables e below (T.setTop (mkF m pc L (.int y :: .int x :: S))) t := by
  subst hn; exact XS.ixor X.here hx rfl (hb hby hd) rfl hr
theorem o_lxor (X : Stand p l e R s m args below meth c T locs cells slots) (hx : p.tables.exec = Jvm.exec) (hby : c.code = A) {x y : Int64} (hd : decode A pc = .ok (.lxor, 1)) (n : Nat) (hn : pc + 1 = n) (hr : Steps p.tables e below (T.setTop (mkF m n L (.long (x ^^^ y) :: S))) t) : Steps p.tables e below (T.setTop (mkF m pc L (.long y :: .long x :: S))) t := by
  subst hn; exact XS.lxor X.here hx rfl (hb hby hd) rfl hr
theorem o_idiv (X : Stand p l e R s m args below meth c T locs cells slots) (hx : p.tables.exec = Jvm.exec) (hby : c.code = A) {x y : Int32} (hd : decode A pc = .ok (.idiv, 1)) (n : Nat) (hn : pc + 1 = n) (hy : ¬ (y = 0)) (hr : Steps p.tables e below (T.setTop (mkF m n L (.int (x / y) :: S))) t) : Steps p.tables e below (T.setTop (mkF m pc L (.int y :: .int x :: S))) t := by
  subst hn; exact XS.idiv X.here hx rfl (hb hby hd) rfl hy hr
theorem o_ldiv (X : Stand p l e R s m args below meth c T locs cells slots) (hx : p.tables.exec = Jvm.exec) (hby : c.code = A) {x y : Int64} (hd : decode A pc = .ok (.ldiv, 1)) (n : Nat) (hn : pc + 1 = n) (hy : ¬ (y = 0)) (hr : Steps p.tables e below (T.setTop (mkF m n L (.long (x / y) :: S))) t) : Steps p.tables e below (T.setTop (mkF m pc L (.long y :: .long x :: S))) t := by
  subst hn; exact XS.ldiv X.here hx rfl (hb hby hd) rfl hy hr
theorem o_irem (X : Stand p l e R s m args below meth c T locs cells slots) (hx : p.tables.exec = Jvm.exec) (hby : c.code = A) {x y : Int32} (hd : decode A pc = .ok (.irem, 1)) (n : Nat) (hn : pc + 1 = n) (hy : ¬ (y = 0)) (hr : Steps p.tables e below (T.setTop (mkF m n L (.int (x % y) :: S))) t) : Steps p.tables e below (T.setTop (mkF m pc L (.int y :: .int x :: S))) t := by
  subst hn; exact XS.irem X.here hx rfl (hb hby hd) rfl hy (by rw [irem_eq_mod]; exact hr)
theorem o_lrem (X : Stand p l e R s m args below meth c T locs cells slots) (hx : p.tables.exec = Jvm.exec) (hby : c.code = A) {x y : Int64} (hd : decode A pc = .ok (.lrem, 1)) (n : Nat) (hn : pc + 1 = n) (hy : ¬ (y = 0)) (hr : Steps p.tables e below (T.setTop (mkF m n L (.long (x % y) :: S))) t) : Steps p.tables e below (T.setTop (mkF m pc L (.long y :: .long x :: S))) t := by
  subst hn; exact XS.lrem X.here hx rfl (hb hby hd) rfl hy (by rw [lrem_mod]; exact hr)
theorem o_ineg (X : Stand p l e R s m args below meth c T locs cells slots) (hx : p.tables.exec = Jvm.exec) (hby : c.code = A) {x : Int32} (hd : decode A pc = .ok (.ineg, 1)) (n : Nat) (hn : pc + 1 = n) (hr : Steps p.tables e below (T.setTop (mkF m n L (.int (-x) :: S))) t) : Steps p.tables e below (T.setTop (mkF m pc L (.int x :: S))) t := by
  subst hn; exact XS.ineg X.here hx rfl (hb hby hd) rfl hr
theorem o_lneg (X : Stand p l e R s m args below meth c T locs cells slots) (hx : p.tables.exec = Jvm.exec) (hby : c.code = A) {x : Int64} (hd : decode A pc = .ok (.lneg, 1)) (n : Nat) (hn : pc + 1 = n) (hr : Steps p.tables e below (T.setTop (mkF m n L (.long (-x) :: S))) t) : Steps p.tables e below (T.setTop (mkF m pc L (.long x :: S))) t := by
  subst hn; exact XS.lneg X.here hx rfl (hb hby hd) rfl hr
theorem o_i2l (X : Stand p l e R s m args below meth c T locs cells slots) (hx : p.tables.exec = Jvm.exec) (hby : c.code = A) {x : Int32} (hd : decode A pc = .ok (.i2l, 1)) (n : Nat) (hn : pc + 1 = n) (hr : Steps p.tables e below (T.setTop (mkF m n L (.long (x.toInt64) :: S))) t) : Steps p.tables e below (T.setTop (mkF m pc L (.int x :: S))) t := by
  subst hn; exact XS.i2l X.here hx rfl (hb hby hd) rfl hr
theorem o_l2i (X : Stand p l e R s m args below meth c T locs cells slots) (hx : p.tables.exec = Jvm.exec) (hby : c.code = A) {x : Int64} (hd : decode A pc = .ok (.l2i, 1)) (n : Nat) (hn : pc + 1 = n) (hr : Steps p.tables e below (T.setTop (mkF m n L (.int (x.toInt32) :: S))) t) : Steps p.tables e below (T.setTop (mkF m pc L (.long x :: S))) t := by
  subst hn; exact XS.l2i X.here hx rfl (hb hby hd) rfl hr
theorem o_i2b (X : Stand p l e R s m args below meth c T locs cells slots) (hx : p.tables.exec = Jvm.exec) (hby : c.code = A) {x : Int32} (hd : decode A pc = .ok (.i2b, 1)) (n : Nat) (hn : pc + 1 = n) (hr : Steps p.tables e below (T.setTop (mkF m n L (.int (x.toInt8.toInt32) :: S))) t) : Steps p.tables e below (T.setTop (mkF m pc L (.int x :: S))) t := by
  subst hn; exact XS.i2b X.here hx rfl (hb hby hd) rfl hr
theorem o_i2s (X : Stand p l e R s m args below meth c T locs cells slots) (hx : p.tables.exec = Jvm.exec) (hby : c.code = A) {x : Int32} (hd : decode A pc = .ok (.i2s, 1)) (n : Nat) (hn : pc + 1 = n) (hr : Steps p.tables e below (T.setTop (mkF m n L (.int (x.toInt16.toInt32) :: S))) t) : Steps p.tables e below (T.setTop (mkF m pc L (.int x :: S))) t := by
  subst hn; exact XS.i2s X.here hx rfl (hb hby hd) rfl hr
theorem o_i2c (X : Stand p l e R s m args below meth c T locs cells slots) (hx : p.tables.exec = Jvm.exec) (hby : c.code = A) {x : Int32} (hd : decode A pc = .ok (.i2c, 1)) (n : Nat) (hn : pc + 1 = n) (hr : Steps p.tables e below (T.setTop (mkF m n L (.int (x.toUInt32.toUInt16.toUInt32.toInt32) :: S))) t) : Steps p.tables e below (T.setTop (mkF m pc L (.int x :: S))) t := by
  subst hn; exact XS.i2c X.here hx rfl (hb hby hd) rfl hr
theorem o_ishl (X : Stand p l e R s m args below meth c T locs cells slots) (hx : p.tables.exec = Jvm.exec) (hby : c.code = A) {x y : Int32} (hd : decode A pc = .ok (.ishl, 1)) (n : Nat) (hn : pc + 1 = n) (hr : Steps p.tables e below (T.setTop (mkF m n L (.int (x <<< (y &&& 31)) :: S))) t) : Steps p.tables e below (T.setTop (mkF m pc L (.int y :: .int x :: S))) t := by
  subst hn; exact XS.ishl X.here hx rfl (hb hby hd) rfl hr
theorem o_ishr (X : Stand p l e R s m args below meth c T locs cells slots) (hx : p.tables.exec = Jvm.exec) (hby : c.code = A) {x y : Int32} (hd : decode A pc = .ok (.ishr, 1)) (n : Nat) (hn : pc + 1 = n) (hr : Steps p.tables e below (T.setTop (mkF m n L (.int (x >>> (y &&& 31)) :: S))) t) : Steps p.tables e below (T.setTop (mkF m pc L (.int y :: .int x :: S))) t := by
  subst hn; exact XS.ishr X.here hx rfl (hb hby hd) rfl hr
theorem o_iushr (X : Stand p l e R s m args below meth c T locs cells slots) (hx : p.tables.exec = Jvm.exec) (hby : c.code = A) {x y : Int32} (hd : decode A pc = .ok (.iushr, 1)) (n : Nat) (hn : pc + 1 = n) (hr : Steps p.tables e below (T.setTop (mkF m n L (.int ((x.toUInt32 >>> (y &&& 31).toUInt32).toInt32) :: S))) t) : Steps p.tables e below (T.setTop (mkF m pc L (.int y :: .int x :: S))) t := by
  subst hn; exact XS.iushr X.here hx rfl (hb hby hd) rfl hr
theorem o_lshl (X : Stand p l e R s m args below meth c T locs cells slots) (hx : p.tables.exec = Jvm.exec) (hby : c.code = A) {x : Int64} {y : Int32} (hd : decode A pc = .ok (.lshl, 1)) (n : Nat) (hn : pc + 1 = n) (hr : Steps p.tables e below (T.setTop (mkF m n L (.long (x <<< (y &&& 0x3f).toInt64) :: S))) t) : Steps p.tables e below (T.setTop (mkF m pc L (.int y :: .long x :: S))) t := by
  subst hn; exact XS.lshl X.here hx rfl (hb hby hd) rfl hr
theorem o_lshr (X : Stand p l e R s m args below meth c T locs cells slots) (hx : p.tables.exec = Jvm.exec) (hby : c.code = A) {x : Int64} {y : Int32} (hd : decode A pc = .ok (.lshr, 1)) (n : Nat) (hn : pc + 1 = n) (hr : Steps p.tables e below (T.setTop (mkF m n L (.long (x >>> (y &&& 0x3f).toInt64) :: S))) t) : Steps p.tables e below (T.setTop (mkF m pc L (.int y :: .long x :: S))) t := by
  subst hn; exact XS.lshr X.here hx rfl (hb hby hd) rfl hr
theorem o_lushr (X : Stand p l e R s m args below meth c T locs cells slots) (hx : p.tables.exec = Jvm.exec) (hby : c.code = A) {x : Int64} {y : Int32} (hd : decode A pc = .ok (.lushr, 1)) (n : Nat) (hn : pc + 1 = n) (hr : Steps p.tables e below (T.setTop (mkF m n L (.long ((x.toUInt64 >>> (y &&& 0x3f).toInt64.toUInt64).toInt64) :: S))) t) : Steps p.tables e below (T.setTop (mkF m pc L (.int y :: .long x :: S))) t := by
  subst hn; exact XS.lushr X.here hx rfl (hb hby hd) rfl hr
theorem o_lcmp (X : Stand p l e R s m args below meth c T locs cells slots) (hx : p.tables.exec = Jvm.exec) (hby : c.code = A) {x y : Int64} (hd : decode A pc = .ok (.lcmp, 1)) (n : Nat) (hn : pc + 1 = n) (hr : Steps p.tables e below (T.setTop (mkF m n L (.int (lcmpW x y) :: S))) t) : Steps p.tables e below (T.setTop (mkF m pc L (.long y :: .long x :: S))) t := by
  subst hn; exact XS.lcmp X.here hx rfl (hb hby hd) rfl hr
theorem o_dup (X : Stand p l e R s m args below meth c T locs cells slots) (hx : p.tables.exec = Jvm.exec) (hby : c.code = A) {x : Value} (hd : decode A pc = .ok (.dup, 1)) (n : Nat) (hn : pc + 1 = n) (hc : x.category = 1) (hr : Steps p.tables e below (T.setTop (mkF m n L (x :: x :: S))) t) : Steps p.tables e below (T.setTop (mkF m pc L (x :: S))) t := by
  subst hn; exact XS.dup X.here hx rfl (hb hby hd) rfl hc hr
theorem o_dupX1 (X : Stand p l e R s m args below meth c T locs cells slots) (hx : p.tables.exec = Jvm.exec) (hby : c.code = A) {x y : Value} (hd : decode A pc = .ok (.dup_x1, 1)) (n : Nat) (hn : pc + 1 = n) (hc : x.category = 1) (hc' : y.category = 1) (hr : Steps p.tables e below (T.setTop (mkF m n L (x :: y :: x :: S))) t) : Steps p.tables e below (T.setTop (mkF m pc L (x :: y :: S))) t := by
  subst hn; exact XT.dupX1 X.here hx rfl (hb hby hd) rfl hc hc' hr
theorem o_dup2 (X : Stand p l e R s m args below meth c T locs cells slots) (hx : p.tables.exec = Jvm.exec) (hby : c.code = A) {x y : Value} (hd : decode A pc = .ok (.dup2, 1)) (n : Nat) (hn : pc + 1 = n) (hc : x.category = 1) (hc' : y.category = 1) (hr : Steps p.tables e below (T.setTop (mkF m n L (x :: y :: x :: y :: S))) t) : Steps p.tables e below (T.setTop (mkF m pc L (x :: y :: S))) t := by
  subst hn; exact XT.dup2 X.here hx rfl (hb hby hd) rfl hc hc' hr
theorem o_iinc (X : Stand p l e R s m args below meth c T locs cells slots) (hx : p.tables.exec = Jvm.exec) (hby : c.code = A) {k : Nat} {cst : Int} {x : Int32} {l' : Array Slot} (hd : decode A pc = .ok (.iinc k cst, 3)) (n : Nat) (hn : pc + 3 = n) (hl : L[k]? = some (.val (.int x))) {i : Int32} (hi : Int32.ofInt cst = i) (hl' : storeLocals L k (.int (x + i)) = some l') (hr : Steps p.tables e below (T.setTop (mkF m n l' S)) t) : Steps p.tables e below (T.setTop (mkF m pc L S)) t := by
  subst hn; subst hi; exact XS.iinc X.here hx rfl (hb hby hd) hl hl' hr
theorem o_pop (X : Stand p l e R s m args below meth c T locs cells slots) (hx : p.tables.exec = Jvm.exec) (hby : c.code = A) {x : Value} (hd : decode A pc = .ok (.pop, 1)) (n : Nat) (hn : pc + 1 = n) (hc : x.category = 1) (hr : Steps p.tables e below (T.setTop (mkF m n L S)) t) : Steps p.tables e below (T.setTop (mkF m pc L (x :: S))) t := by
  subst hn; exact XT.pop X.here hx rfl (hb hby hd) rfl hc hr
theorem o_goto (X : Stand p l e R s m args below meth c T locs cells slots) (hx : p.tables.exec = Jvm.exec) (hby : c.code = A) {o : Int} (hd : decode A pc = .ok (.goto o, 3)) (n : Nat) (hn : (pc : Int) + o = (n : Int)) (hr : Steps p.tables e below (T.setTop (mkF m n L S)) t) : Steps p.tables e below (T.setTop (mkF m pc L S)) t :=
  XS.goto X.here hx rfl (pc0 := pc) (pc' := n) rfl (hb hby hd) (by omega) (by omega) hr
theorem o_ifY (X : Stand p l e R s m args below meth c T locs cells slots) (hx : p.tables.exec = Jvm.exec) (hby : c.code = A) {cd : ClassFile.Cond} {x : Int32} {o : Int} (hd : decode A pc = .ok (.ifCond cd o, 3)) (n : Nat) (hn : (pc : Int) + o = (n : Int)) (hc : if_icmp.holds cd x 0 = true) (hr : Steps p.tables e below (T.setTop (mkF m n L S)) t) : Steps p.tables e below (T.setTop (mkF m pc L (.int x :: S))) t :=
  XS.ifYes X.here hx rfl (pc0 := pc) (pc' := n) rfl (hb hby hd) rfl ((if0 _ _).trans hc) (by omega) (by omega) hr
theorem o_ifN (X : Stand p l e R s m args below meth c T locs cells slots) (hx : p.tables.exec = Jvm.exec) (hby : c.code = A) {cd : ClassFile.Cond} {x : Int32} {o : Int} (hd : decode A pc = .ok (.ifCond cd o, 3)) (n : Nat) (hn : pc + 3 = n) (hc : if_icmp.holds cd x 0 = false) (hr : Steps p.tables e below (T.setTop (mkF m n L S)) t) : Steps p.tables e below (T.setTop (mkF m pc L (.int x :: S))) t := by
  subst hn; exact XS.ifNo X.here hx rfl (hb hby hd) rfl ((if0 _ _).trans hc) hr
theorem o_icmpY (X : Stand p l e R s m args below meth c T locs cells slots) (hx : p.tables.exec = Jvm.exec) (hby : c.code = A) {cd : ClassFile.Cond} {x y : Int32} {o : Int} (hd : decode A pc = .ok (.if_icmp cd o, 3)) (n : Nat) (hn : (pc : Int) + o = (n : Int)) (hc : if_icmp.holds cd x y = true) (hr : Steps p.tables e below (T.setTop (mkF m n L S)) t) : Steps p.tables e below (T.setTop (mkF m pc L (.int y :: .int x :: S))) t :=
  XS.icmpYes X.here hx rfl (pc0 := pc) (pc' := n) rfl (hb hby hd) rfl hc (by omega) (by omega) hr
theorem o_icmpN (X : Stand p l e R s m args below meth c T locs cells slots) (hx : p.tables.exec = Jvm.exec) (hby : c.code = A) {cd : ClassFile.Cond} {x y : Int32} {o : Int} (hd : decode A pc = .ok (.if_icmp cd o, 3)) (n : Nat) (hn : pc + 3 = n) (hc : if_icmp.holds cd x y = false) (hr : Steps p.tables e below (T.setTop (mkF m n L S)) t) : Steps p.tables e below (T.setTop (mkF m pc L (.int y :: .int x :: S))) t := by
  subst hn; exact XS.icmpNo X.here hx rfl (hb hby hd) rfl hc hr
theorem o_ifnullY (X : Stand p l e R s m args below meth c T locs cells slots) (hx : p.tables.exec = Jvm.exec) (hby : c.code = A) {o : Int} (hd : decode A pc = .ok (.ifnull o, 3)) (n : Nat) (hn : (pc : Int) + o = (n : Int)) (hr : Steps p.tables e below (T.setTop (mkF m n L S)) t) : Steps p.tables e below (T.setTop (mkF m pc L (.null :: S))) t :=
  XS.ifnullYes X.here hx rfl (pc0 := pc) (pc' := n) rfl (hb hby hd) rfl (by omega) (by omega) hr
theorem o_ifnullN (X : Stand p l e R s m args below meth c T locs cells slots) (hx : p.tables.exec = Jvm.exec) (hby : c.code = A) {a : Addr} {o : Int} (hd : decode A pc = .ok (.ifnull o, 3)) (n : Nat) (hn : pc + 3 = n) (hr : Steps p.tables e below (T.setTop (mkF m n L S)) t) : Steps p.tables e below (T.setTop (mkF m pc L (.ref a :: S))) t := by
  subst hn; exact XS.ifnullNo X.here hx rfl (hb hby hd) rfl hr
theorem o_ifnonnullY (X : Stand p l e R s m args below meth c T locs cells slots) (hx : p.tables.exec = Jvm.exec) (hby : c.code = A) {a : Addr} {o : Int} (hd : decode A pc = .ok (.ifnonnull o, 3)) (n : Nat) (hn : (pc : Int) + o = (n : Int)) (hr : Steps p.tables e below (T.setTop (mkF m n L S)) t) : Steps p.tables e below (T.setTop (mkF m pc L (.ref a :: S))) t :=
  XS.ifnonnullYes X.here hx rfl (pc0 := pc) (pc' := n) rfl (hb hby hd) rfl (by omega) (by omega) hr
theorem o_ifnonnullN (X : Stand p l e R s m args below meth c T locs cells slots) (hx : p.tables.exec = Jvm.exec) (hby : c.code = A) {o : Int} (hd : decode A pc = .ok (.ifnonnull o, 3)) (n : Nat) (hn : pc + 3 = n) (hr : Steps p.tables e below (T.setTop (mkF m n L S)) t) : Steps p.tables e below (T.setTop (mkF m pc L (.null :: S))) t := by
  subst hn; exact XS.ifnonnullNo X.here hx rfl (hb hby hd) rfl hr
theorem o_acmp (X : Stand p l e R s m args below meth c T locs cells slots) (hx : p.tables.exec = Jvm.exec) (hby : c.code = A) {cd : ClassFile.ACond} {x y : Value} {o : Int} (hd : decode A pc = .ok (.if_acmp cd o, 3)) (n : Nat) {same : Bool} (h1 : x.isRef = true) (h2 : y.isRef = true) (hq : decide (x = y) = same) (ho : 0 ≤ (pc : Int) + o) (hp : n = if acV cd same = true then ((pc : Int) + o).toNat else pc + 3) (hr : Steps p.tables e below (T.setTop (mkF m n L S)) t) : Steps p.tables e below (T.setTop (mkF m pc L (y :: x :: S))) t :=
  Jvm.RoadKit.acmp X hx rfl h1 h2 (pc0 := pc) (pc' := n) rfl (hb hby hd) rfl hq ho hp hr
theorem o_ldcInt (X : Stand p l e R s m args below meth c T locs cells slots) (hx : p.tables.exec = Jvm.exec) (hby : c.code = A) {own : String} {i : Nat} {v : Int32} (hown : s.vm.findClass own = some m.cls) (hc : (Cond.constant own i v).before args s = true) (hd : decode A pc = .ok (.ldc i, 2)) (n : Nat) (hn : pc + 2 = n) (hr : Steps p.tables e below (T.setTop (mkF m n L (.int v :: S))) t) : Steps p.tables e below (T.setTop (mkF m pc L S)) t := by
  subst hn; exact X.ldcInt hx hown hc (g := mkF m pc L S) rfl (hb hby hd) t hr
theorem o_ldcwInt (X : Stand p l e R s m args below meth c T locs cells slots) (hx : p.tables.exec = Jvm.exec) (hby : c.code = A) {own : String} {i : Nat} {v : Int32} (hown : s.vm.findClass own = some m.cls) (hc : (Cond.constant own i v).before args s = true) (hd : decode A pc = .ok (.ldc_w i, 3)) (n : Nat) (hn : pc + 3 = n) (hr : Steps p.tables e below (T.setTop (mkF m n L (.int v :: S))) t) : Steps p.tables e below (T.setTop (mkF m pc L S)) t := by
  subst hn; exact X.ldcwInt hx hown hc (g := mkF m pc L S) rfl (hb hby hd) t hr
theorem o_ldc2Long (X : Stand p l e R s m args below meth c T locs cells slots) (hx : p.tables.exec = Jvm.exec) (hby : c.code = A) {own : String} {i : Nat} {v : Int64} (hown : s.vm.findClass own = some m.cls) (hc : (Cond.constantLong own i v).before args s = true) (hd : decode A pc = .ok (.ldc2_w i, 3)) (n : Nat) (hn : pc + 3 = n) (hr : Steps p.tables e below (T.setTop (mkF m n L (.long v :: S))) t) : Steps p.tables e below (T.setTop (mkF m pc L S)) t := by
  subst hn; exact X.ldc2Long hx hown hc (g := mkF m pc L S) rfl (hb hby hd) t hr
theorem o_b0 : narrow .boolean (.int (0 : Int32)) = .int (0 : Int32) := by decide
theorem o_b1 : narrow .boolean (.int (1 : Int32)) = .int (1 : Int32) := by decide
theorem o_b01 {z : Int32} (h : z = 0 ∨ z = 1) : narrow .boolean (.int z) = .int z := by rcases h with rfl | rfl <;> decide
theorem o_nf {z : Int32} (h : z = 0 ∨ z = 1) : narrow .boolean (.int z) = .int z ∧ fits .boolean (.int z) = true := by rcases h with rfl | rfl <;> decide
theorem o_retZ (X : Stand p l e R s m args below meth c T locs cells slots) (hx : p.tables.exec = Jvm.exec) {Ls : Array Slot} {z : Int32} {rest : List Value} (hret : meth.sig.returnType = some .boolean)
    (hd : decode c.code pc = .ok (.ireturn, 1)) (hz : z = 0 ∨ z = 1) {fs : List Frame} (hl : ∀ (f : JFrame) (acts : List Action), f.method = m → f.locked = none → f.entered = [] → (doReturn e (T.setTop f) acts (some (.int z))).1 = T.setFrames fs) :
    Steps p.tables e below (T.setTop (mkF m pc Ls (.int z :: rest))) (T.setFrames fs) :=
  retOut X hx hret (o_b01 hz) (Or.inl ⟨rfl, Or.inr (Or.inl rfl), z, rfl⟩) hd hl
theorem o_retI (X : Stand p l e R s m args below meth c T locs cells slots) (hx : p.tables.exec = Jvm.exec) {Ls : Array Slot} {z : Int32} {rest : List Value} (hret : meth.sig.returnType = some .int)
    (hd : decode c.code pc = .ok (.ireturn, 1)) {fs : List Frame} (hl : ∀ (f : JFrame) (acts : List Action), f.method = m → f.locked = none → f.entered = [] → (doReturn e (T.setTop f) acts (some (.int z))).1 = T.setFrames fs) :
    Steps p.tables e below (T.setTop (mkF m pc Ls (.int z :: rest))) (T.setFrames fs) :=
  retOut X hx hret rfl (Or.inl ⟨rfl, Or.inl rfl, z, rfl⟩) hd hl
theorem o_retB (X : Stand p l e R s m args below meth c T locs cells slots) (hx : p.tables.exec = Jvm.exec) {Ls : Array Slot} {z : Int32} {rest : List Value} (hret : meth.sig.returnType = some .byte)
    (hd : decode c.code pc = .ok (.ireturn, 1)) (hz : narrow .byte (.int z) = .int z) {fs : List Frame} (hl : ∀ (f : JFrame) (acts : List Action), f.method = m → f.locked = none → f.entered = [] → (doReturn e (T.setTop f) acts (some (.int z))).1 = T.setFrames fs) :
    Steps p.tables e below (T.setTop (mkF m pc Ls (.int z :: rest))) (T.setFrames fs) :=
  retOut X hx hret hz (Or.inl ⟨rfl, Or.inr (Or.inr (Or.inl rfl)), z, rfl⟩) hd hl
theorem o_retJ (X : Stand p l e R s m args below meth c T locs cells slots) (hx : p.tables.exec = Jvm.exec) {Ls : Array Slot} {z : Int64} {rest : List Value} (hret : meth.sig.returnType = some .long)
    (hd : decode c.code pc = .ok (.lreturn, 1)) {fs : List Frame} (hl : ∀ (f : JFrame) (acts : List Action), f.method = m → f.locked = none → f.entered = [] → (doReturn e (T.setTop f) acts (some (.long z))).1 = T.setFrames fs) :
    Steps p.tables e below (T.setTop (mkF m pc Ls (.long z :: rest))) (T.setFrames fs) :=
  retOut X hx hret rfl (Or.inr (Or.inl ⟨rfl, rfl, z, rfl⟩)) hd hl
theorem o_retR (X : Stand p l e R s m args below meth c T locs cells slots) (hx : p.tables.exec = Jvm.exec) {Ls : Array Slot} {w : Value} {ty : FieldType} {rest : List Value} (hret : meth.sig.returnType = some ty) (ht : ty.isReference = true)
    (hd : decode c.code pc = .ok (.areturn, 1)) (hw : w.isRef = true) (hn : narrow ty w = w) {fs : List Frame} (hl : ∀ (f : JFrame) (acts : List Action), f.method = m → f.locked = none → f.entered = [] → (doReturn e (T.setTop f) acts (some w)).1 = T.setFrames fs) :
    Steps p.tables e below (T.setTop (mkF m pc Ls (w :: rest))) (T.setFrames fs) :=
  retOut X hx hret hn (Or.inr (Or.inr (Or.inr (Or.inr ⟨rfl, ht, hw⟩)))) hd hl
end Own

theorem d2_0 : decode prog_12_method_15_code 0 = .ok (.iload_n 0, 1) := by decide +kernel
theorem d2_1 : decode prog_12_method_15_code 1 = .ok (.bipush 48, 2) := by decide +kernel
theorem d2_3 : decode prog_12_method_15_code 3 = .ok (.if_icmp .lt 13, 3) := by decide +kernel
theorem d2_6 : decode prog_12_method_15_code 6 = .ok (.iload_n 0, 1) := by decide +kernel
theorem d2_7 : decode prog_12_method_15_code 7 = .ok (.bipush 57, 2) := by decide +kernel
theorem d2_9 : decode prog_12_method_15_code 9 = .ok (.if_icmp .gt 7, 3) := by decide +kernel
theorem d2_12 : decode prog_12_method_15_code 12 = .ok (.iconst 1, 1) := by decide +kernel
theorem d2_13 : decode prog_12_method_15_code 13 = .ok (.goto 4, 3) := by decide +kernel
theorem d2_16 : decode prog_12_method_15_code 16 = .ok (.iconst 0, 1) := by decide +kernel
theorem d2_17 : decode prog_12_method_15_code 17 = .ok (.ireturn, 1) := by decide +kernel
theorem pn_2 : plainName "org/shardwright/io/RequestHead" = true := by first | (simp [plainName, overriddenIn]; done) | decide +kernel
theorem ef_2 (m : MethodId) (x0 : Int32) : entryFrame m #[(.int x0)] 1 = mkF m 0 #[.val (.int x0)] [] := by first | (simp [entryFrame, mkF, argsToLocals, Value.category]; done) | rfl
def F2 (p0 : Int32) : Int32 := let v2 : Int32 := (if p0 < (48 : Int32) then (0 : Int32) else (if (57 : Int32) < p0 then (0 : Int32) else (1 : Int32))); v2
def Q2 (Z : State) (p0 : Int32) (h0 : Heap) (n0 : Nat) (v : Option Value) (h : Heap) (L : List Loc) : Prop := v = some (.int (F2 p0)) ∧ Fr n0 L ∧ h = h0
set_option maxRecDepth 65536 in
set_option maxHeartbeats 40000000 in
theorem rm2 (l : Launch) (Z : State) (aw : Array Value) (hw : ∀ d ∈ tables_1, d.before aw Z = true) (ws : List Jvm.Cond) (p0 : Int32) (h0 : Heap) (n0 : Nat) (Z0 : n0 ≤ h0.size) :
    MetFree l (⟨"org/shardwright/io/RequestHead", "isDigit", "(C)Z"⟩ : MethodName) (head1 (Jvm.Cond.code (⟨"org/shardwright/io/RequestHead", "isDigit", "(C)Z"⟩ : MethodName) prog_12_method_15_code 1 (some .boolean) :: ws) ({ frames := 0, cells := 0, slots := 0, locals := 0 } : Room)) (fun a U => a = #[(.int p0)] ∧ Z.Warmed39 U.vm ∧ U.heap = h0) (fun _ _ _ _ _ => True) (fun _ U o U' => ∃ v L, o = .returned v ∧ Q2 Z p0 h0 n0 v U'.heap L ∧ FrameEnd U o U' L ({ frames := 0, cells := 0, slots := 0, locals := 0 } : Room).cells ({ frames := 0, cells := 0, slots := 0, locals := 0 } : Room).slots) := by
  refine MetFree.of_bodySF (plainFor_of_name pn_2) hisR ?_
  intro p e s m args below meth c s₁ Bd hml0 hP hK
  obtain ⟨rfl, hZ, hh⟩ := hP
  have hx := Bd.exec
  have hby := Bd.bytes
  have hml : c.maxLocals = 1 := hml0
  have hown : s.vm.findClass "org/shardwright/io/RequestHead" = some m.cls := findClass_of_methodNamed Bd.named
  have hnm := (name_of_methodNamed Bd.named Bd.method).1
  have X0 : Stand p l e ({ frames := 0, cells := 0, slots := 0, locals := 0 } : Room) s m #[(.int p0)] below meth c s₁ [] 0 0 := Stand.of_body Bd
  have e0 : s₁.heap = h0 := by rw [← hh, Bd.state]; rfl
  have N0 := Fr.nil n0
  obtain ⟨A0, hA0⟩ : ∃ A0, A0 = s₁.setTop (entryFrame m #[(.int p0)] 1) := ⟨_, rfl⟩
  have go0 : Go p e below A0 (s₁.setTop (mkF m 0 #[.val (.int p0)] [])) := fun t k => by rw [hA0]; exact castTop (ef_2 m p0) k
  have go1 : Go p e below A0 (s₁.setTop (mkF m 3 #[.val (.int p0)] [(.int (48 : Int32)), (.int p0)])) := by
    intro t k
    refine go0 t ?_
    refine o_iloadN X0 hx hby d2_0 1 rfl rfl ?_
    refine o_bipush X0 hx hby d2_1 3 rfl (v := (48 : Int32)) rfl ?_
    exact k
  obtain ⟨v2, hv2, go7⟩ : ∃ (v2 : Int32), v2 = (if p0 < (48 : Int32) then (0 : Int32) else (if (57 : Int32) < p0 then (0 : Int32) else (1 : Int32))) ∧ Go p e below A0 (s₁.setTop (mkF m 17 #[.val (.int p0)] [(.int v2)])) := by
    by_cases hc3_1 : p0 < (48 : Int32)
    · have go2 : Go p e below A0 (s₁.setTop (mkF m 17 #[.val (.int p0)] [(.int (0 : Int32))])) := by
        intro t k
        refine go1 t ?_
        refine o_icmpY X0 hx hby d2_3 16 rfl (tlt hc3_1).1 ?_
        refine o_iconst X0 hx hby d2_16 17 rfl (v := (0 : Int32)) rfl ?_
        exact k
      exact ⟨(0 : Int32), (if_pos hc3_1).symm, go2⟩
    · have go3 : Go p e below A0 (s₁.setTop (mkF m 9 #[.val (.int p0)] [(.int (57 : Int32)), (.int p0)])) := by
        intro t k
        refine go1 t ?_
        refine o_icmpN X0 hx hby d2_3 6 rfl (flt hc3_1).1 ?_
        refine o_iloadN X0 hx hby d2_6 7 rfl rfl ?_
        refine o_bipush X0 hx hby d2_7 9 rfl (v := (57 : Int32)) rfl ?_
        exact k
      obtain ⟨v1, hv1, go6⟩ : ∃ (v1 : Int32), v1 = (if (57 : Int32) < p0 then (0 : Int32) else (1 : Int32)) ∧ Go p e below A0 (s₁.setTop (mkF m 17 #[.val (.int p0)] [(.int v1)])) := by
        by_cases hc9_2 : (57 : Int32) < p0
        · have go4 : Go p e below A0 (s₁.setTop (mkF m 17 #[.val (.int p0)] [(.int (0 : Int32))])) := by
            intro t k
            refine go3 t ?_
            refine o_icmpY X0 hx hby d2_9 16 rfl (tlt hc9_2).2.2.1 ?_
            refine o_iconst X0 hx hby d2_16 17 rfl (v := (0 : Int32)) rfl ?_
            exact k
          exact ⟨(0 : Int32), (if_pos hc9_2).symm, go4⟩
        · have go5 : Go p e below A0 (s₁.setTop (mkF m 17 #[.val (.int p0)] [(.int (1 : Int32))])) := by
            intro t k
            refine go3 t ?_
            refine o_icmpN X0 hx hby d2_9 12 rfl (flt hc9_2).2.2.1 ?_
            refine o_iconst X0 hx hby d2_12 13 rfl (v := (1 : Int32)) rfl ?_
            refine o_goto X0 hx hby d2_13 17 rfl ?_
            exact k
          exact ⟨(1 : Int32), (if_neg hc9_2).symm, go5⟩
      subst hv1
      exact ⟨(if (57 : Int32) < p0 then (0 : Int32) else (1 : Int32)), (if_neg hc3_1).symm, go6⟩
  have hF : v2 = F2 p0 := by subst hv2; rfl
  subst hA0
  obtain ⟨fs, hr, hrun, hended, hW, hsame⟩ := X0.leave (v := some (.int v2)) (fun h => by rw [Bd.returns] at h; cases h)
  refine ⟨_, _, go7 _ (o_retZ X0 hx Bd.returns (hb hby d2_17) (by rw [hv2]; repeat' (first | exact Or.inl rfl | exact Or.inr rfl | split)) hr), hrun, hended, _, _, rfl, ?_, ⟨_, rfl⟩, hW, hsame.mono (by decide) (by decide)⟩
  show Q2 Z p0 h0 n0 _ s₁.heap _
  rw [e0]
  exact ⟨congrArg (fun z => some (Value.int z)) hF, N0, rfl⟩
theorem d1_0 : decode prog_12_method_13_code 0 = .ok (.iload_n 0, 1) := by decide +kernel
theorem d1_1 : decode prog_12_method_13_code 1 = .ok (.invokestatic 87, 3) := by decide +kernel
theorem d1_4 : decode prog_12_method_13_code 4 = .ok (.ifCond .eq 8, 3) := by decide +kernel
theorem d1_7 : decode prog_12_method_13_code 7 = .ok (.iload_n 0, 1) := by decide +kernel
theorem d1_8 : decode prog_12_method_13_code 8 = .ok (.bipush 48, 2) := by decide +kernel
theorem d1_10 : decode prog_12_method_13_code 10 = .ok (.isub, 1) := by decide +kernel
theorem d1_11 : decode prog_12_method_13_code 11 = .ok (.ireturn, 1) := by decide +kernel
theorem d1_12 : decode prog_12_method_13_code 12 = .ok (.iload_n 0, 1) := by decide +kernel
theorem d1_13 : decode prog_12_method_13_code 13 = .ok (.bipush 32, 2) := by decide +kernel
theorem d1_15 : decode prog_12_method_13_code 15 = .ok (.ior, 1) := by decide +kernel
theorem d1_16 : decode prog_12_method_13_code 16 = .ok (.i2c, 1) := by decide +kernel
theorem d1_17 : decode prog_12_method_13_code 17 = .ok (.istore_n 1, 1) := by decide +kernel
theorem d1_18 : decode prog_12_method_13_code 18 = .ok (.iload_n 1, 1) := by decide +kernel
theorem d1_19 : decode prog_12_method_13_code 19 = .ok (.bipush 97, 2) := by decide +kernel
theorem d1_21 : decode prog_12_method_13_code 21 = .ok (.if_icmp .lt 19, 3) := by decide +kernel
theorem d1_24 : decode prog_12_method_13_code 24 = .ok (.iload_n 1, 1) := by decide +kernel
theorem d1_25 : decode prog_12_method_13_code 25 = .ok (.bipush 102, 2) := by decide +kernel
theorem d1_27 : decode prog_12_method_13_code 27 = .ok (.if_icmp .gt 13, 3) := by decide +kernel
theorem d1_30 : decode prog_12_method_13_code 30 = .ok (.iload_n 1, 1) := by decide +kernel
theorem d1_31 : decode prog_12_method_13_code 31 = .ok (.bipush 97, 2) := by decide +kernel
theorem d1_33 : decode prog_12_method_13_code 33 = .ok (.isub, 1) := by decide +kernel
theorem d1_34 : decode prog_12_method_13_code 34 = .ok (.bipush 10, 2) := by decide +kernel
theorem d1_36 : decode prog_12_method_13_code 36 = .ok (.iadd, 1) := by decide +kernel
theorem d1_37 : decode prog_12_method_13_code 37 = .ok (.goto 4, 3) := by decide +kernel
theorem d1_40 : decode prog_12_method_13_code 40 = .ok (.iconst (-1), 1) := by decide +kernel
theorem d1_41 : decode prog_12_method_13_code 41 = .ok (.ireturn, 1) := by decide +kernel
theorem pd_1 : parseMethodDescriptor "(C)Z" = some ⟨[.char], some .boolean⟩ := by decide +kernel
theorem ef_1 (m : MethodId) (x0 : Int32) : entryFrame m #[(.int x0)] 2 = mkF m 0 #[.val (.int x0), .unset] [] := by first | (simp [entryFrame, mkF, argsToLocals, Value.category]; done) | rfl
def F1 (p0 : Int32) : Int32 := let v1 : Int32 := (F2 p0); let v4 : Int32 := (if v1 = (0 : Int32) then (if ((p0 ||| (32 : Int32)).toUInt32.toUInt16.toUInt32.toInt32) < (97 : Int32) then (-1 : Int32) else (if (102 : Int32) < ((p0 ||| (32 : Int32)).toUInt32.toUInt16.toUInt32.toInt32) then (-1 : Int32) else ((((p0 ||| (32 : Int32)).toUInt32.toUInt16.toUInt32.toInt32) - (97 : Int32)) + (10 : Int32)))) else (p0 - (48 : Int32))); v4
def Q1 (Z : State) (p0 : Int32) (h0 : Heap) (n0 : Nat) (v : Option Value) (h : Heap) (L : List Loc) : Prop := v = some (.int (F1 p0)) ∧ Fr n0 L ∧ h = h0
set_option maxRecDepth 65536 in
set_option maxHeartbeats 40000000 in
theorem rm1 (l : Launch) (Z : State) (aw : Array Value) (hw : ∀ d ∈ tables_1, d.before aw Z = true) (ws : List Jvm.Cond) (p0 : Int32) (h0 : Heap) (n0 : Nat) (Z0 : n0 ≤ h0.size) :
    MetFree l (⟨"org/shardwright/io/RequestHead", "hexValue", "(C)I"⟩ : MethodName) (head1 (Jvm.Cond.code (⟨"org/shardwright/io/RequestHead", "hexValue", "(C)I"⟩ : MethodName) prog_12_method_13_code 2 (some .int) :: ws) ({ frames := 1, cells := 0, slots := 0, locals := 12 } : Room)) (fun a U => a = #[(.int p0)] ∧ Z.Warmed39 U.vm ∧ U.heap = h0) (fun _ _ _ _ _ => True) (fun _ U o U' => ∃ v L, o = .returned v ∧ Q1 Z p0 h0 n0 v U'.heap L ∧ FrameEnd U o U' L ({ frames := 1, cells := 0, slots := 0, locals := 12 } : Room).cells ({ frames := 1, cells := 0, slots := 0, locals := 12 } : Room).slots) := by
  refine MetFree.of_bodySF (plainFor_of_name pn_2) hisR ?_
  intro p e s m args below meth c s₁ Bd hml0 hP hK
  obtain ⟨rfl, hZ, hh⟩ := hP
  have hx := Bd.exec
  have hby := Bd.bytes
  have hml : c.maxLocals = 2 := hml0
  have hown : s.vm.findClass "org/shardwright/io/RequestHead" = some m.cls := findClass_of_methodNamed Bd.named
  have hnm := (name_of_methodNamed Bd.named Bd.method).1
  have X0 : Stand p l e ({ frames := 1, cells := 0, slots := 0, locals := 12 } : Room) s m #[(.int p0)] below meth c s₁ [] 0 0 := Stand.of_body Bd
  have e0 : s₁.heap = h0 := by rw [← hh, Bd.state]; rfl
  have N0 := Fr.nil n0
  obtain ⟨A0, hA0⟩ : ∃ A0, A0 = s₁.setTop (entryFrame m #[(.int p0)] 2) := ⟨_, rfl⟩
  have go0 : Go p e below A0 (s₁.setTop (mkF m 0 #[.val (.int p0), .unset] [])) := fun t k => by rw [hA0]; exact castTop (ef_1 m p0) k
  have go1 : Go p e below A0 (s₁.setTop (mkF m 1 #[.val (.int p0), .unset] [(.int p0)])) := by
    intro t k
    refine go0 t ?_
    refine o_iloadN X0 hx hby d1_0 1 rfl rfl ?_
    exact k
  obtain ⟨_, _, ⟨T1, L1, k1, n1⟩, -, X1, ⟨Lc1, hQ1, l1, y1, z1⟩, st1⟩ := Jvm.LawKit.callS X0 hx (y := (⟨"org/shardwright/io/RequestHead", "isDigit", "(C)Z"⟩ : MethodName)) hown (mvT hZ (hw _ (List.mem_of_getElem? (i := 4) rfl))) (mvT hZ (hw _ (List.mem_of_getElem? (i := 5) rfl))) (mvT hZ (hw _ (List.mem_of_getElem? (i := 2) rfl))) (mvT hZ (hw _ (List.mem_of_getElem? (i := 6) rfl))) (by decide) (backOf (W := 0) (rm2 l Z aw hw [] p0 h0 n0 Z0) hZ (hw _ (List.mem_of_getElem? (i := 6) rfl)) (hw _ (List.mem_of_getElem? (i := 2) rfl)) (by decide) (by decide)) (g := (mkF m 1 #[.val (.int p0), .unset] [(.int p0)])) rfl (by rw [hml]; rfl) (argsL := [(.int p0)]) (rest := []) (lenOf pd_1 rfl) rfl (by show 2 * 0 + _ ≤ _; exact Nat.le_of_eq rfl) (hb hby d1_1) (fun _ _ => ⟨rfl, e0, (by decide : 0 + 0 ≤ _), (by decide : 0 + 0 ≤ _)⟩)
  dsimp only [Pt.U, Pt.locs, Pt.cells, Pt.slots] at X1 l1 y1 z1 st1 hQ1
  subst l1 y1 z1
  obtain ⟨rfl, N1q, e1⟩ := hQ1
  have N1 := Fr.app N0 N1q
  have go2 : Go p e below A0 (T1.setTop (mkF m 4 #[.val (.int p0), .unset] [(.int (F2 p0))])) := by
    intro t k
    refine go1 t ?_
    refine st1 _ ?_
    show Steps p.tables e below (T1.setTop (mkF m 4 #[.val (.int p0), .unset] [(.int (F2 p0))])) _
    exact k
  obtain ⟨v1, hv1, go3⟩ : ∃ v1 : Int32, v1 = (F2 p0) ∧ Go p e below A0 (T1.setTop (mkF m 4 #[.val (.int p0), .unset] [(.int v1)])) := ⟨_, rfl, go2⟩
  obtain ⟨v4, pcr5, Lr5, Sr5, hv4, hd5, go12⟩ : ∃ (v4 : Int32) (pcr5 : Nat) (Lr5 : Array Slot) (Sr5 : List Value), v4 = (if v1 = (0 : Int32) then (if ((p0 ||| (32 : Int32)).toUInt32.toUInt16.toUInt32.toInt32) < (97 : Int32) then (-1 : Int32) else (if (102 : Int32) < ((p0 ||| (32 : Int32)).toUInt32.toUInt16.toUInt32.toInt32) then (-1 : Int32) else ((((p0 ||| (32 : Int32)).toUInt32.toUInt16.toUInt32.toInt32) - (97 : Int32)) + (10 : Int32)))) else (p0 - (48 : Int32))) ∧ decode c.code pcr5 = .ok (.ireturn, 1) ∧ Go p e below A0 (T1.setTop (mkF m pcr5 Lr5 ((.int v4) :: Sr5))) := by
    by_cases hc4_2 : v1 = (0 : Int32)
    · have go4 : Go p e below A0 (T1.setTop (mkF m 21 #[.val (.int p0), .val (.int ((p0 ||| (32 : Int32)).toUInt32.toUInt16.toUInt32.toInt32))] [(.int (97 : Int32)), (.int ((p0 ||| (32 : Int32)).toUInt32.toUInt16.toUInt32.toInt32))])) := by
        intro t k
        refine go3 t ?_
        refine o_ifY X1 hx hby d1_4 12 rfl (teq hc4_2).1 ?_
        refine o_iloadN X1 hx hby d1_12 13 rfl rfl ?_
        refine o_bipush X1 hx hby d1_13 15 rfl (v := (32 : Int32)) rfl ?_
        refine o_ior X1 hx hby d1_15 16 rfl ?_
        refine o_i2c X1 hx hby d1_16 17 rfl ?_
        refine o_istoreN X1 hx hby d1_17 18 rfl (l' := #[.val (.int p0), .val (.int ((p0 ||| (32 : Int32)).toUInt32.toUInt16.toUInt32.toInt32))]) rfl ?_
        refine o_iloadN X1 hx hby d1_18 19 rfl rfl ?_
        refine o_bipush X1 hx hby d1_19 21 rfl (v := (97 : Int32)) rfl ?_
        exact k
      obtain ⟨v3, hv3, go10⟩ : ∃ (v3 : Int32), v3 = (if ((p0 ||| (32 : Int32)).toUInt32.toUInt16.toUInt32.toInt32) < (97 : Int32) then (-1 : Int32) else (if (102 : Int32) < ((p0 ||| (32 : Int32)).toUInt32.toUInt16.toUInt32.toInt32) then (-1 : Int32) else ((((p0 ||| (32 : Int32)).toUInt32.toUInt16.toUInt32.toInt32) - (97 : Int32)) + (10 : Int32)))) ∧ Go p e below A0 (T1.setTop (mkF m 41 #[.val (.int p0), .val (.int ((p0 ||| (32 : Int32)).toUInt32.toUInt16.toUInt32.toInt32))] [(.int v3)])) := by
        by_cases hc21_3 : ((p0 ||| (32 : Int32)).toUInt32.toUInt16.toUInt32.toInt32) < (97 : Int32)
        · have go5 : Go p e below A0 (T1.setTop (mkF m 41 #[.val (.int p0), .val (.int ((p0 ||| (32 : Int32)).toUInt32.toUInt16.toUInt32.toInt32))] [(.int (-1 : Int32))])) := by
            intro t k
            refine go4 t ?_
            refine o_icmpY X1 hx hby d1_21 40 rfl (tlt hc21_3).1 ?_
            refine o_iconst X1 hx hby d1_40 41 rfl (v := (-1 : Int32)) rfl ?_
            exact k
          exact ⟨(-1 : Int32), (if_pos hc21_3).symm, go5⟩
        · have go6 : Go p e below A0 (T1.setTop (mkF m 27 #[.val (.int p0), .val (.int ((p0 ||| (32 : Int32)).toUInt32.toUInt16.toUInt32.toInt32))] [(.int (102 : Int32)), (.int ((p0 ||| (32 : Int32)).toUInt32.toUInt16.toUInt32.toInt32))])) := by
            intro t k
            refine go4 t ?_
            refine o_icmpN X1 hx hby d1_21 24 rfl (flt hc21_3).1 ?_
            refine o_iloadN X1 hx hby d1_24 25 rfl rfl ?_
            refine o_bipush X1 hx hby d1_25 27 rfl (v := (102 : Int32)) rfl ?_
            exact k
          obtain ⟨v2, hv2, go9⟩ : ∃ (v2 : Int32), v2 = (if (102 : Int32) < ((p0 ||| (32 : Int32)).toUInt32.toUInt16.toUInt32.toInt32) then (-1 : Int32) else ((((p0 ||| (32 : Int32)).toUInt32.toUInt16.toUInt32.toInt32) - (97 : Int32)) + (10 : Int32))) ∧ Go p e below A0 (T1.setTop (mkF m 41 #[.val (.int p0), .val (.int ((p0 ||| (32 : Int32)).toUInt32.toUInt16.toUInt32.toInt32))] [(.int v2)])) := by
            by_cases hc27_4 : (102 : Int32) < ((p0 ||| (32 : Int32)).toUInt32.toUInt16.toUInt32.toInt32)
            · have go7 : Go p e below A0 (T1.setTop (mkF m 41 #[.val (.int p0), .val (.int ((p0 ||| (32 : Int32)).toUInt32.toUInt16.toUInt32.toInt32))] [(.int (-1 : Int32))])) := by
                intro t k
                refine go6 t ?_
                refine o_icmpY X1 hx hby d1_27 40 rfl (tlt hc27_4).2.2.1 ?_
                refine o_iconst X1 hx hby d1_40 41 rfl (v := (-1 : Int32)) rfl ?_
                exact k
              exact ⟨(-1 : Int32), (if_pos hc27_4).symm, go7⟩
            · have go8 : Go p e below A0 (T1.setTop (mkF m 41 #[.val (.int p0), .val (.int ((p0 ||| (32 : Int32)).toUInt32.toUInt16.toUInt32.toInt32))] [(.int ((((p0 ||| (32 : Int32)).toUInt32.toUInt16.toUInt32.toInt32) - (97 : Int32)) + (10 : Int32)))])) := by
                intro t k
                refine go6 t ?_
                refine o_icmpN X1 hx hby d1_27 30 rfl (flt hc27_4).2.2.1 ?_
                refine o_iloadN X1 hx hby d1_30 31 rfl rfl ?_
                refine o_bipush X1 hx hby d1_31 33 rfl (v := (97 : Int32)) rfl ?_
                refine o_isub X1 hx hby d1_33 34 rfl ?_
                refine o_bipush X1 hx hby d1_34 36 rfl (v := (10 : Int32)) rfl ?_
                refine o_iadd X1 hx hby d1_36 37 rfl ?_
                refine o_goto X1 hx hby d1_37 41 rfl ?_
                exact k
              exact ⟨((((p0 ||| (32 : Int32)).toUInt32.toUInt16.toUInt32.toInt32) - (97 : Int32)) + (10 : Int32)), (if_neg hc27_4).symm, go8⟩
          subst hv2
          exact ⟨(if (102 : Int32) < ((p0 ||| (32 : Int32)).toUInt32.toUInt16.toUInt32.toInt32) then (-1 : Int32) else ((((p0 ||| (32 : Int32)).toUInt32.toUInt16.toUInt32.toInt32) - (97 : Int32)) + (10 : Int32))), (if_neg hc21_3).symm, go9⟩
      subst hv3
      exact ⟨(if ((p0 ||| (32 : Int32)).toUInt32.toUInt16.toUInt32.toInt32) < (97 : Int32) then (-1 : Int32) else (if (102 : Int32) < ((p0 ||| (32 : Int32)).toUInt32.toUInt16.toUInt32.toInt32) then (-1 : Int32) else ((((p0 ||| (32 : Int32)).toUInt32.toUInt16.toUInt32.toInt32) - (97 : Int32)) + (10 : Int32)))), _, _, _, (if_pos hc4_2).symm, (hb hby d1_41), go10⟩
    · have go11 : Go p e below A0 (T1.setTop (mkF m 11 #[.val (.int p0), .unset] [(.int (p0 - (48 : Int32)))])) := by
        intro t k
        refine go3 t ?_
        refine o_ifN X1 hx hby d1_4 7 rfl (feq hc4_2).1 ?_
        refine o_iloadN X1 hx hby d1_7 8 rfl rfl ?_
        refine o_bipush X1 hx hby d1_8 10 rfl (v := (48 : Int32)) rfl ?_
        refine o_isub X1 hx hby d1_10 11 rfl ?_
        exact k
      exact ⟨(p0 - (48 : Int32)), _, _, _, (if_neg hc4_2).symm, (hb hby d1_11), go11⟩
  have hF : v4 = F1 p0 := by subst hv1; subst hv4; rfl
  subst hA0
  obtain ⟨fs, hr, hrun, hended, hW, hsame⟩ := X1.leave (v := some (.int v4)) (fun h => by rw [Bd.returns] at h; cases h)
  refine ⟨_, _, go12 _ (o_retI X1 hx Bd.returns hd5 hr), hrun, hended, _, _, rfl, ?_, ⟨_, rfl⟩, hW, hsame.mono (by decide) (by decide)⟩
  show Q1 Z p0 h0 n0 _ T1.heap _
  rw [e1]
  exact ⟨congrArg (fun z => some (Value.int z)) hF, N1, rfl⟩
theorem d3_0 : decode method_2_code 0 = .ok (.iload_n 0, 1) := by decide +kernel
theorem d3_1 : decode method_2_code 1 = .ok (.bipush 48, 2) := by decide +kernel
theorem d3_3 : decode method_2_code 3 = .ok (.if_icmp .lt 14, 3) := by decide +kernel
theorem d3_6 : decode method_2_code 6 = .ok (.iload_n 0, 1) := by decide +kernel
theorem d3_7 : decode method_2_code 7 = .ok (.bipush 57, 2) := by decide +kernel
theorem d3_9 : decode method_2_code 9 = .ok (.if_icmp .gt 8, 3) := by decide +kernel
theorem d3_12 : decode method_2_code 12 = .ok (.iload_n 0, 1) := by decide +kernel
theorem d3_13 : decode method_2_code 13 = .ok (.bipush 48, 2) := by decide +kernel
theorem d3_15 : decode method_2_code 15 = .ok (.isub, 1) := by decide +kernel
theorem d3_16 : decode method_2_code 16 = .ok (.ireturn, 1) := by decide +kernel
theorem d3_17 : decode method_2_code 17 = .ok (.iload_n 0, 1) := by decide +kernel
theorem d3_18 : decode method_2_code 18 = .ok (.bipush 97, 2) := by decide +kernel
theorem d3_20 : decode method_2_code 20 = .ok (.if_icmp .lt 17, 3) := by decide +kernel
theorem d3_23 : decode method_2_code 23 = .ok (.iload_n 0, 1) := by decide +kernel
theorem d3_24 : decode method_2_code 24 = .ok (.bipush 102, 2) := by decide +kernel
theorem d3_26 : decode method_2_code 26 = .ok (.if_icmp .gt 11, 3) := by decide +kernel
theorem d3_29 : decode method_2_code 29 = .ok (.iload_n 0, 1) := by decide +kernel
theorem d3_30 : decode method_2_code 30 = .ok (.bipush 97, 2) := by decide +kernel
theorem d3_32 : decode method_2_code 32 = .ok (.isub, 1) := by decide +kernel
theorem d3_33 : decode method_2_code 33 = .ok (.bipush 10, 2) := by decide +kernel
theorem d3_35 : decode method_2_code 35 = .ok (.iadd, 1) := by decide +kernel
theorem d3_36 : decode method_2_code 36 = .ok (.ireturn, 1) := by decide +kernel
theorem d3_37 : decode method_2_code 37 = .ok (.iload_n 0, 1) := by decide +kernel
theorem d3_38 : decode method_2_code 38 = .ok (.bipush 65, 2) := by decide +kernel
theorem d3_40 : decode method_2_code 40 = .ok (.if_icmp .lt 17, 3) := by decide +kernel
theorem d3_43 : decode method_2_code 43 = .ok (.iload_n 0, 1) := by decide +kernel
theorem d3_44 : decode method_2_code 44 = .ok (.bipush 70, 2) := by decide +kernel
theorem d3_46 : decode method_2_code 46 = .ok (.if_icmp .gt 11, 3) := by decide +kernel
theorem d3_49 : decode method_2_code 49 = .ok (.iload_n 0, 1) := by decide +kernel
theorem d3_50 : decode method_2_code 50 = .ok (.bipush 65, 2) := by decide +kernel
theorem d3_52 : decode method_2_code 52 = .ok (.isub, 1) := by decide +kernel
theorem d3_53 : decode method_2_code 53 = .ok (.bipush 10, 2) := by decide +kernel
theorem d3_55 : decode method_2_code 55 = .ok (.iadd, 1) := by decide +kernel
theorem d3_56 : decode method_2_code 56 = .ok (.ireturn, 1) := by decide +kernel
theorem d3_57 : decode method_2_code 57 = .ok (.iconst (-1), 1) := by decide +kernel
theorem d3_58 : decode method_2_code 58 = .ok (.ireturn, 1) := by decide +kernel
theorem pn_3 : plainName "org/shardwright/io/RequestHeadHexValuePinLaw" = true := by first | (simp [plainName, overriddenIn]; done) | decide +kernel
theorem ef_3 (m : MethodId) (x0 : Int32) : entryFrame m #[(.int x0)] 1 = mkF m 0 #[.val (.int x0)] [] := by first | (simp [entryFrame, mkF, argsToLocals, Value.category]; done) | rfl
def F3 (p0 : Int32) : Int32 := let v14 : Int32 := (if p0 < (48 : Int32) then (if p0 < (97 : Int32) then (if p0 < (65 : Int32) then (-1 : Int32) else (if (70 : Int32) < p0 then (-1 : Int32) else ((p0 - (65 : Int32)) + (10 : Int32)))) else (if (102 : Int32) < p0 then (if p0 < (65 : Int32) then (-1 : Int32) else (if (70 : Int32) < p0 then (-1 : Int32) else ((p0 - (65 : Int32)) + (10 : Int32)))) else ((p0 - (97 : Int32)) + (10 : Int32)))) else (if (57 : Int32) < p0 then (if p0 < (97 : Int32) then (if p0 < (65 : Int32) then (-1 : Int32) else (if (70 : Int32) < p0 then (-1 : Int32) else ((p0 - (65 : Int32)) + (10 : Int32)))) else (if (102 : Int32) < p0 then (if p0 < (65 : Int32) then (-1 : Int32) else (if (70 : Int32) < p0 then (-1 : Int32) else ((p0 - (65 : Int32)) + (10 : Int32)))) else ((p0 - (97 : Int32)) + (10 : Int32)))) else (p0 - (48 : Int32)))); v14
def Q3 (Z : State) (p0 : Int32) (h0 : Heap) (n0 : Nat) (v : Option Value) (h : Heap) (L : List Loc) : Prop := v = some (.int (F3 p0)) ∧ Fr n0 L ∧ h = h0
set_option maxRecDepth 65536 in
set_option maxHeartbeats 40000000 in
theorem rm3 (l : Launch) (Z : State) (aw : Array Value) (hw : ∀ d ∈ tables_1, d.before aw Z = true) (ws : List Jvm.Cond) (p0 : Int32) (h0 : Heap) (n0 : Nat) (Z0 : n0 ≤ h0.size) :
    MetFree l (⟨"org/shardwright/io/RequestHeadHexValuePinLaw", "reference", "(C)I"⟩ : MethodName) (head1 (Jvm.Cond.code (⟨"org/shardwright/io/RequestHeadHexValuePinLaw", "reference", "(C)I"⟩ : MethodName) method_2_code 1 (some .int) :: ws) ({ frames := 0, cells := 0, slots := 0, locals := 0 } : Room)) (fun a U => a = #[(.int p0)] ∧ Z.Warmed39 U.vm ∧ U.heap = h0) (fun _ _ _ _ _ => True) (fun _ U o U' => ∃ v L, o = .returned v ∧ Q3 Z p0 h0 n0 v U'.heap L ∧ FrameEnd U o U' L ({ frames := 0, cells := 0, slots := 0, locals := 0 } : Room).cells ({ frames := 0, cells := 0, slots := 0, locals := 0 } : Room).slots) := by
  refine MetFree.of_bodySF (plainFor_of_name pn_3) hisR ?_
  intro p e s m args below meth c s₁ Bd hml0 hP hK
  obtain ⟨rfl, hZ, hh⟩ := hP
  have hx := Bd.exec
  have hby := Bd.bytes
  have hml : c.maxLocals = 1 := hml0
  have hown : s.vm.findClass "org/shardwright/io/RequestHeadHexValuePinLaw" = some m.cls := findClass_of_methodNamed Bd.named
  have hnm := (name_of_methodNamed Bd.named Bd.method).1
  have X0 : Stand p l e ({ frames := 0, cells := 0, slots := 0, locals := 0 } : Room) s m #[(.int p0)] below meth c s₁ [] 0 0 := Stand.of_body Bd
  have e0 : s₁.heap = h0 := by rw [← hh, Bd.state]; rfl
  have N0 := Fr.nil n0
  obtain ⟨A0, hA0⟩ : ∃ A0, A0 = s₁.setTop (entryFrame m #[(.int p0)] 1) := ⟨_, rfl⟩
  have go0 : Go p e below A0 (s₁.setTop (mkF m 0 #[.val (.int p0)] [])) := fun t k => by rw [hA0]; exact castTop (ef_3 m p0) k
  have go1 : Go p e below A0 (s₁.setTop (mkF m 3 #[.val (.int p0)] [(.int (48 : Int32)), (.int p0)])) := by
    intro t k
    refine go0 t ?_
    refine o_iloadN X0 hx hby d3_0 1 rfl rfl ?_
    refine o_bipush X0 hx hby d3_1 3 rfl (v := (48 : Int32)) rfl ?_
    exact k
  obtain ⟨v14, pcr28, Lr28, Sr28, hv14, hd28, go43⟩ : ∃ (v14 : Int32) (pcr28 : Nat) (Lr28 : Array Slot) (Sr28 : List Value), v14 = (if p0 < (48 : Int32) then (if p0 < (97 : Int32) then (if p0 < (65 : Int32) then (-1 : Int32) else (if (70 : Int32) < p0 then (-1 : Int32) else ((p0 - (65 : Int32)) + (10 : Int32)))) else (if (102 : Int32) < p0 then (if p0 < (65 : Int32) then (-1 : Int32) else (if (70 : Int32) < p0 then (-1 : Int32) else ((p0 - (65 : Int32)) + (10 : Int32)))) else ((p0 - (97 : Int32)) + (10 : Int32)))) else (if (57 : Int32) < p0 then (if p0 < (97 : Int32) then (if p0 < (65 : Int32) then (-1 : Int32) else (if (70 : Int32) < p0 then (-1 : Int32) else ((p0 - (65 : Int32)) + (10 : Int32)))) else (if (102 : Int32) < p0 then (if p0 < (65 : Int32) then (-1 : Int32) else (if (70 : Int32) < p0 then (-1 : Int32) else ((p0 - (65 : Int32)) + (10 : Int32)))) else ((p0 - (97 : Int32)) + (10 : Int32)))) else (p0 - (48 : Int32)))) ∧ decode c.code pcr28 = .ok (.ireturn, 1) ∧ Go p e below A0 (s₁.setTop (mkF m pcr28 Lr28 ((.int v14) :: Sr28))) := by
    by_cases hc3_1 : p0 < (48 : Int32)
    · have go2 : Go p e below A0 (s₁.setTop (mkF m 20 #[.val (.int p0)] [(.int (97 : Int32)), (.int p0)])) := by
        intro t k
        refine go1 t ?_
        refine o_icmpY X0 hx hby d3_3 17 rfl (tlt hc3_1).1 ?_
        refine o_iloadN X0 hx hby d3_17 18 rfl rfl ?_
        refine o_bipush X0 hx hby d3_18 20 rfl (v := (97 : Int32)) rfl ?_
        exact k
      obtain ⟨v6, pcr13, Lr13, Sr13, hv6, hd13, go20⟩ : ∃ (v6 : Int32) (pcr13 : Nat) (Lr13 : Array Slot) (Sr13 : List Value), v6 = (if p0 < (97 : Int32) then (if p0 < (65 : Int32) then (-1 : Int32) else (if (70 : Int32) < p0 then (-1 : Int32) else ((p0 - (65 : Int32)) + (10 : Int32)))) else (if (102 : Int32) < p0 then (if p0 < (65 : Int32) then (-1 : Int32) else (if (70 : Int32) < p0 then (-1 : Int32) else ((p0 - (65 : Int32)) + (10 : Int32)))) else ((p0 - (97 : Int32)) + (10 : Int32)))) ∧ decode c.code pcr13 = .ok (.ireturn, 1) ∧ Go p e below A0 (s₁.setTop (mkF m pcr13 Lr13 ((.int v6) :: Sr13))) := by
        by_cases hc20_2 : p0 < (97 : Int32)
        · have go3 : Go p e below A0 (s₁.setTop (mkF m 40 #[.val (.int p0)] [(.int (65 : Int32)), (.int p0)])) := by
            intro t k
            refine go2 t ?_
            refine o_icmpY X0 hx hby d3_20 37 rfl (tlt hc20_2).1 ?_
            refine o_iloadN X0 hx hby d3_37 38 rfl rfl ?_
            refine o_bipush X0 hx hby d3_38 40 rfl (v := (65 : Int32)) rfl ?_
            exact k
          obtain ⟨v2, pcr6, Lr6, Sr6, hv2, hd6, go9⟩ : ∃ (v2 : Int32) (pcr6 : Nat) (Lr6 : Array Slot) (Sr6 : List Value), v2 = (if p0 < (65 : Int32) then (-1 : Int32) else (if (70 : Int32) < p0 then (-1 : Int32) else ((p0 - (65 : Int32)) + (10 : Int32)))) ∧ decode c.code pcr6 = .ok (.ireturn, 1) ∧ Go p e below A0 (s₁.setTop (mkF m pcr6 Lr6 ((.int v2) :: Sr6))) := by
            by_cases hc40_3 : p0 < (65 : Int32)
            · have go4 : Go p e below A0 (s₁.setTop (mkF m 58 #[.val (.int p0)] [(.int (-1 : Int32))])) := by
                intro t k
                refine go3 t ?_
                refine o_icmpY X0 hx hby d3_40 57 rfl (tlt hc40_3).1 ?_
                refine o_iconst X0 hx hby d3_57 58 rfl (v := (-1 : Int32)) rfl ?_
                exact k
              exact ⟨(-1 : Int32), _, _, _, (if_pos hc40_3).symm, (hb hby d3_58), go4⟩
            · have go5 : Go p e below A0 (s₁.setTop (mkF m 46 #[.val (.int p0)] [(.int (70 : Int32)), (.int p0)])) := by
                intro t k
                refine go3 t ?_
                refine o_icmpN X0 hx hby d3_40 43 rfl (flt hc40_3).1 ?_
                refine o_iloadN X0 hx hby d3_43 44 rfl rfl ?_
                refine o_bipush X0 hx hby d3_44 46 rfl (v := (70 : Int32)) rfl ?_
                exact k
              obtain ⟨v1, pcr5, Lr5, Sr5, hv1, hd5, go8⟩ : ∃ (v1 : Int32) (pcr5 : Nat) (Lr5 : Array Slot) (Sr5 : List Value), v1 = (if (70 : Int32) < p0 then (-1 : Int32) else ((p0 - (65 : Int32)) + (10 : Int32))) ∧ decode c.code pcr5 = .ok (.ireturn, 1) ∧ Go p e below A0 (s₁.setTop (mkF m pcr5 Lr5 ((.int v1) :: Sr5))) := by
                by_cases hc46_4 : (70 : Int32) < p0
                · have go6 : Go p e below A0 (s₁.setTop (mkF m 58 #[.val (.int p0)] [(.int (-1 : Int32))])) := by
                    intro t k
                    refine go5 t ?_
                    refine o_icmpY X0 hx hby d3_46 57 rfl (tlt hc46_4).2.2.1 ?_
                    refine o_iconst X0 hx hby d3_57 58 rfl (v := (-1 : Int32)) rfl ?_
                    exact k
                  exact ⟨(-1 : Int32), _, _, _, (if_pos hc46_4).symm, (hb hby d3_58), go6⟩
                · have go7 : Go p e below A0 (s₁.setTop (mkF m 56 #[.val (.int p0)] [(.int ((p0 - (65 : Int32)) + (10 : Int32)))])) := by
                    intro t k
                    refine go5 t ?_
                    refine o_icmpN X0 hx hby d3_46 49 rfl (flt hc46_4).2.2.1 ?_
                    refine o_iloadN X0 hx hby d3_49 50 rfl rfl ?_
                    refine o_bipush X0 hx hby d3_50 52 rfl (v := (65 : Int32)) rfl ?_
                    refine o_isub X0 hx hby d3_52 53 rfl ?_
                    refine o_bipush X0 hx hby d3_53 55 rfl (v := (10 : Int32)) rfl ?_
                    refine o_iadd X0 hx hby d3_55 56 rfl ?_
                    exact k
                  exact ⟨((p0 - (65 : Int32)) + (10 : Int32)), _, _, _, (if_neg hc46_4).symm, (hb hby d3_56), go7⟩
              subst hv1
              exact ⟨(if (70 : Int32) < p0 then (-1 : Int32) else ((p0 - (65 : Int32)) + (10 : Int32))), _, _, _, (if_neg hc40_3).symm, hd5, go8⟩
          subst hv2
          exact ⟨(if p0 < (65 : Int32) then (-1 : Int32) else (if (70 : Int32) < p0 then (-1 : Int32) else ((p0 - (65 : Int32)) + (10 : Int32)))), _, _, _, (if_pos hc20_2).symm, hd6, go9⟩
        · have go10 : Go p e below A0 (s₁.setTop (mkF m 26 #[.val (.int p0)] [(.int (102 : Int32)), (.int p0)])) := by
            intro t k
            refine go2 t ?_
            refine o_icmpN X0 hx hby d3_20 23 rfl (flt hc20_2).1 ?_
            refine o_iloadN X0 hx hby d3_23 24 rfl rfl ?_
            refine o_bipush X0 hx hby d3_24 26 rfl (v := (102 : Int32)) rfl ?_
            exact k
          obtain ⟨v5, pcr12, Lr12, Sr12, hv5, hd12, go19⟩ : ∃ (v5 : Int32) (pcr12 : Nat) (Lr12 : Array Slot) (Sr12 : List Value), v5 = (if (102 : Int32) < p0 then (if p0 < (65 : Int32) then (-1 : Int32) else (if (70 : Int32) < p0 then (-1 : Int32) else ((p0 - (65 : Int32)) + (10 : Int32)))) else ((p0 - (97 : Int32)) + (10 : Int32))) ∧ decode c.code pcr12 = .ok (.ireturn, 1) ∧ Go p e below A0 (s₁.setTop (mkF m pcr12 Lr12 ((.int v5) :: Sr12))) := by
            by_cases hc26_7 : (102 : Int32) < p0
            · have go11 : Go p e below A0 (s₁.setTop (mkF m 40 #[.val (.int p0)] [(.int (65 : Int32)), (.int p0)])) := by
                intro t k
                refine go10 t ?_
                refine o_icmpY X0 hx hby d3_26 37 rfl (tlt hc26_7).2.2.1 ?_
                refine o_iloadN X0 hx hby d3_37 38 rfl rfl ?_
                refine o_bipush X0 hx hby d3_38 40 rfl (v := (65 : Int32)) rfl ?_
                exact k
              obtain ⟨v4, pcr11, Lr11, Sr11, hv4, hd11, go17⟩ : ∃ (v4 : Int32) (pcr11 : Nat) (Lr11 : Array Slot) (Sr11 : List Value), v4 = (if p0 < (65 : Int32) then (-1 : Int32) else (if (70 : Int32) < p0 then (-1 : Int32) else ((p0 - (65 : Int32)) + (10 : Int32)))) ∧ decode c.code pcr11 = .ok (.ireturn, 1) ∧ Go p e below A0 (s₁.setTop (mkF m pcr11 Lr11 ((.int v4) :: Sr11))) := by
                by_cases hc40_8 : p0 < (65 : Int32)
                · have go12 : Go p e below A0 (s₁.setTop (mkF m 58 #[.val (.int p0)] [(.int (-1 : Int32))])) := by
                    intro t k
                    refine go11 t ?_
                    refine o_icmpY X0 hx hby d3_40 57 rfl (tlt hc40_8).1 ?_
                    refine o_iconst X0 hx hby d3_57 58 rfl (v := (-1 : Int32)) rfl ?_
                    exact k
                  exact ⟨(-1 : Int32), _, _, _, (if_pos hc40_8).symm, (hb hby d3_58), go12⟩
                · have go13 : Go p e below A0 (s₁.setTop (mkF m 46 #[.val (.int p0)] [(.int (70 : Int32)), (.int p0)])) := by
                    intro t k
                    refine go11 t ?_
                    refine o_icmpN X0 hx hby d3_40 43 rfl (flt hc40_8).1 ?_
                    refine o_iloadN X0 hx hby d3_43 44 rfl rfl ?_
                    refine o_bipush X0 hx hby d3_44 46 rfl (v := (70 : Int32)) rfl ?_
                    exact k
                  obtain ⟨v3, pcr10, Lr10, Sr10, hv3, hd10, go16⟩ : ∃ (v3 : Int32) (pcr10 : Nat) (Lr10 : Array Slot) (Sr10 : List Value), v3 = (if (70 : Int32) < p0 then (-1 : Int32) else ((p0 - (65 : Int32)) + (10 : Int32))) ∧ decode c.code pcr10 = .ok (.ireturn, 1) ∧ Go p e below A0 (s₁.setTop (mkF m pcr10 Lr10 ((.int v3) :: Sr10))) := by
                    by_cases hc46_9 : (70 : Int32) < p0
                    · have go14 : Go p e below A0 (s₁.setTop (mkF m 58 #[.val (.int p0)] [(.int (-1 : Int32))])) := by
                        intro t k
                        refine go13 t ?_
                        refine o_icmpY X0 hx hby d3_46 57 rfl (tlt hc46_9).2.2.1 ?_
                        refine o_iconst X0 hx hby d3_57 58 rfl (v := (-1 : Int32)) rfl ?_
                        exact k
                      exact ⟨(-1 : Int32), _, _, _, (if_pos hc46_9).symm, (hb hby d3_58), go14⟩
                    · have go15 : Go p e below A0 (s₁.setTop (mkF m 56 #[.val (.int p0)] [(.int ((p0 - (65 : Int32)) + (10 : Int32)))])) := by
                        intro t k
                        refine go13 t ?_
                        refine o_icmpN X0 hx hby d3_46 49 rfl (flt hc46_9).2.2.1 ?_
                        refine o_iloadN X0 hx hby d3_49 50 rfl rfl ?_
                        refine o_bipush X0 hx hby d3_50 52 rfl (v := (65 : Int32)) rfl ?_
                        refine o_isub X0 hx hby d3_52 53 rfl ?_
                        refine o_bipush X0 hx hby d3_53 55 rfl (v := (10 : Int32)) rfl ?_
                        refine o_iadd X0 hx hby d3_55 56 rfl ?_
                        exact k
                      exact ⟨((p0 - (65 : Int32)) + (10 : Int32)), _, _, _, (if_neg hc46_9).symm, (hb hby d3_56), go15⟩
                  subst hv3
                  exact ⟨(if (70 : Int32) < p0 then (-1 : Int32) else ((p0 - (65 : Int32)) + (10 : Int32))), _, _, _, (if_neg hc40_8).symm, hd10, go16⟩
              subst hv4
              exact ⟨(if p0 < (65 : Int32) then (-1 : Int32) else (if (70 : Int32) < p0 then (-1 : Int32) else ((p0 - (65 : Int32)) + (10 : Int32)))), _, _, _, (if_pos hc26_7).symm, hd11, go17⟩
            · have go18 : Go p e below A0 (s₁.setTop (mkF m 36 #[.val (.int p0)] [(.int ((p0 - (97 : Int32)) + (10 : Int32)))])) := by
                intro t k
                refine go10 t ?_
                refine o_icmpN X0 hx hby d3_26 29 rfl (flt hc26_7).2.2.1 ?_
                refine o_iloadN X0 hx hby d3_29 30 rfl rfl ?_
                refine o_bipush X0 hx hby d3_30 32 rfl (v := (97 : Int32)) rfl ?_
                refine o_isub X0 hx hby d3_32 33 rfl ?_
                refine o_bipush X0 hx hby d3_33 35 rfl (v := (10 : Int32)) rfl ?_
                refine o_iadd X0 hx hby d3_35 36 rfl ?_
                exact k
              exact ⟨((p0 - (97 : Int32)) + (10 : Int32)), _, _, _, (if_neg hc26_7).symm, (hb hby d3_36), go18⟩
          subst hv5
          exact ⟨(if (102 : Int32) < p0 then (if p0 < (65 : Int32) then (-1 : Int32) else (if (70 : Int32) < p0 then (-1 : Int32) else ((p0 - (65 : Int32)) + (10 : Int32)))) else ((p0 - (97 : Int32)) + (10 : Int32))), _, _, _, (if_neg hc20_2).symm, hd12, go19⟩
      subst hv6
      exact ⟨(if p0 < (97 : Int32) then (if p0 < (65 : Int32) then (-1 : Int32) else (if (70 : Int32) < p0 then (-1 : Int32) else ((p0 - (65 : Int32)) + (10 : Int32)))) else (if (102 : Int32) < p0 then (if p0 < (65 : Int32) then (-1 : Int32) else (if (70 : Int32) < p0 then (-1 : Int32) else ((p0 - (65 : Int32)) + (10 : Int32)))) else ((p0 - (97 : Int32)) + (10 : Int32)))), _, _, _, (if_pos hc3_1).symm, hd13, go20⟩
    · have go21 : Go p e below A0 (s₁.setTop (mkF m 9 #[.val (.int p0)] [(.int (57 : Int32)), (.int p0)])) := by
        intro t k
        refine go1 t ?_
        refine o_icmpN X0 hx hby d3_3 6 rfl (flt hc3_1).1 ?_
        refine o_iloadN X0 hx hby d3_6 7 rfl rfl ?_
        refine o_bipush X0 hx hby d3_7 9 rfl (v := (57 : Int32)) rfl ?_
        exact k
      obtain ⟨v13, pcr27, Lr27, Sr27, hv13, hd27, go42⟩ : ∃ (v13 : Int32) (pcr27 : Nat) (Lr27 : Array Slot) (Sr27 : List Value), v13 = (if (57 : Int32) < p0 then (if p0 < (97 : Int32) then (if p0 < (65 : Int32) then (-1 : Int32) else (if (70 : Int32) < p0 then (-1 : Int32) else ((p0 - (65 : Int32)) + (10 : Int32)))) else (if (102 : Int32) < p0 then (if p0 < (65 : Int32) then (-1 : Int32) else (if (70 : Int32) < p0 then (-1 : Int32) else ((p0 - (65 : Int32)) + (10 : Int32)))) else ((p0 - (97 : Int32)) + (10 : Int32)))) else (p0 - (48 : Int32))) ∧ decode c.code pcr27 = .ok (.ireturn, 1) ∧ Go p e below A0 (s₁.setTop (mkF m pcr27 Lr27 ((.int v13) :: Sr27))) := by
        by_cases hc9_14 : (57 : Int32) < p0
        · have go22 : Go p e below A0 (s₁.setTop (mkF m 20 #[.val (.int p0)] [(.int (97 : Int32)), (.int p0)])) := by
            intro t k
            refine go21 t ?_
            refine o_icmpY X0 hx hby d3_9 17 rfl (tlt hc9_14).2.2.1 ?_
            refine o_iloadN X0 hx hby d3_17 18 rfl rfl ?_
            refine o_bipush X0 hx hby d3_18 20 rfl (v := (97 : Int32)) rfl ?_
            exact k
          obtain ⟨v12, pcr26, Lr26, Sr26, hv12, hd26, go40⟩ : ∃ (v12 : Int32) (pcr26 : Nat) (Lr26 : Array Slot) (Sr26 : List Value), v12 = (if p0 < (97 : Int32) then (if p0 < (65 : Int32) then (-1 : Int32) else (if (70 : Int32) < p0 then (-1 : Int32) else ((p0 - (65 : Int32)) + (10 : Int32)))) else (if (102 : Int32) < p0 then (if p0 < (65 : Int32) then (-1 : Int32) else (if (70 : Int32) < p0 then (-1 : Int32) else ((p0 - (65 : Int32)) + (10 : Int32)))) else ((p0 - (97 : Int32)) + (10 : Int32)))) ∧ decode c.code pcr26 = .ok (.ireturn, 1) ∧ Go p e below A0 (s₁.setTop (mkF m pcr26 Lr26 ((.int v12) :: Sr26))) := by
            by_cases hc20_15 : p0 < (97 : Int32)
            · have go23 : Go p e below A0 (s₁.setTop (mkF m 40 #[.val (.int p0)] [(.int (65 : Int32)), (.int p0)])) := by
                intro t k
                refine go22 t ?_
                refine o_icmpY X0 hx hby d3_20 37 rfl (tlt hc20_15).1 ?_
                refine o_iloadN X0 hx hby d3_37 38 rfl rfl ?_
                refine o_bipush X0 hx hby d3_38 40 rfl (v := (65 : Int32)) rfl ?_
                exact k
              obtain ⟨v8, pcr19, Lr19, Sr19, hv8, hd19, go29⟩ : ∃ (v8 : Int32) (pcr19 : Nat) (Lr19 : Array Slot) (Sr19 : List Value), v8 = (if p0 < (65 : Int32) then (-1 : Int32) else (if (70 : Int32) < p0 then (-1 : Int32) else ((p0 - (65 : Int32)) + (10 : Int32)))) ∧ decode c.code pcr19 = .ok (.ireturn, 1) ∧ Go p e below A0 (s₁.setTop (mkF m pcr19 Lr19 ((.int v8) :: Sr19))) := by
                by_cases hc40_16 : p0 < (65 : Int32)
                · have go24 : Go p e below A0 (s₁.setTop (mkF m 58 #[.val (.int p0)] [(.int (-1 : Int32))])) := by
                    intro t k
                    refine go23 t ?_
                    refine o_icmpY X0 hx hby d3_40 57 rfl (tlt hc40_16).1 ?_
                    refine o_iconst X0 hx hby d3_57 58 rfl (v := (-1 : Int32)) rfl ?_
                    exact k
                  exact ⟨(-1 : Int32), _, _, _, (if_pos hc40_16).symm, (hb hby d3_58), go24⟩
                · have go25 : Go p e below A0 (s₁.setTop (mkF m 46 #[.val (.int p0)] [(.int (70 : Int32)), (.int p0)])) := by
                    intro t k
                    refine go23 t ?_
                    refine o_icmpN X0 hx hby d3_40 43 rfl (flt hc40_16).1 ?_
                    refine o_iloadN X0 hx hby d3_43 44 rfl rfl ?_
                    refine o_bipush X0 hx hby d3_44 46 rfl (v := (70 : Int32)) rfl ?_
                    exact k
                  obtain ⟨v7, pcr18, Lr18, Sr18, hv7, hd18, go28⟩ : ∃ (v7 : Int32) (pcr18 : Nat) (Lr18 : Array Slot) (Sr18 : List Value), v7 = (if (70 : Int32) < p0 then (-1 : Int32) else ((p0 - (65 : Int32)) + (10 : Int32))) ∧ decode c.code pcr18 = .ok (.ireturn, 1) ∧ Go p e below A0 (s₁.setTop (mkF m pcr18 Lr18 ((.int v7) :: Sr18))) := by
                    by_cases hc46_17 : (70 : Int32) < p0
                    · have go26 : Go p e below A0 (s₁.setTop (mkF m 58 #[.val (.int p0)] [(.int (-1 : Int32))])) := by
                        intro t k
                        refine go25 t ?_
                        refine o_icmpY X0 hx hby d3_46 57 rfl (tlt hc46_17).2.2.1 ?_
                        refine o_iconst X0 hx hby d3_57 58 rfl (v := (-1 : Int32)) rfl ?_
                        exact k
                      exact ⟨(-1 : Int32), _, _, _, (if_pos hc46_17).symm, (hb hby d3_58), go26⟩
                    · have go27 : Go p e below A0 (s₁.setTop (mkF m 56 #[.val (.int p0)] [(.int ((p0 - (65 : Int32)) + (10 : Int32)))])) := by
                        intro t k
                        refine go25 t ?_
                        refine o_icmpN X0 hx hby d3_46 49 rfl (flt hc46_17).2.2.1 ?_
                        refine o_iloadN X0 hx hby d3_49 50 rfl rfl ?_
                        refine o_bipush X0 hx hby d3_50 52 rfl (v := (65 : Int32)) rfl ?_
                        refine o_isub X0 hx hby d3_52 53 rfl ?_
                        refine o_bipush X0 hx hby d3_53 55 rfl (v := (10 : Int32)) rfl ?_
                        refine o_iadd X0 hx hby d3_55 56 rfl ?_
                        exact k
                      exact ⟨((p0 - (65 : Int32)) + (10 : Int32)), _, _, _, (if_neg hc46_17).symm, (hb hby d3_56), go27⟩
                  subst hv7
                  exact ⟨(if (70 : Int32) < p0 then (-1 : Int32) else ((p0 - (65 : Int32)) + (10 : Int32))), _, _, _, (if_neg hc40_16).symm, hd18, go28⟩
              subst hv8
              exact ⟨(if p0 < (65 : Int32) then (-1 : Int32) else (if (70 : Int32) < p0 then (-1 : Int32) else ((p0 - (65 : Int32)) + (10 : Int32)))), _, _, _, (if_pos hc20_15).symm, hd19, go29⟩
            · have go30 : Go p e below A0 (s₁.setTop (mkF m 26 #[.val (.int p0)] [(.int (102 : Int32)), (.int p0)])) := by
                intro t k
                refine go22 t ?_
                refine o_icmpN X0 hx hby d3_20 23 rfl (flt hc20_15).1 ?_
                refine o_iloadN X0 hx hby d3_23 24 rfl rfl ?_
                refine o_bipush X0 hx hby d3_24 26 rfl (v := (102 : Int32)) rfl ?_
                exact k
              obtain ⟨v11, pcr25, Lr25, Sr25, hv11, hd25, go39⟩ : ∃ (v11 : Int32) (pcr25 : Nat) (Lr25 : Array Slot) (Sr25 : List Value), v11 = (if (102 : Int32) < p0 then (if p0 < (65 : Int32) then (-1 : Int32) else (if (70 : Int32) < p0 then (-1 : Int32) else ((p0 - (65 : Int32)) + (10 : Int32)))) else ((p0 - (97 : Int32)) + (10 : Int32))) ∧ decode c.code pcr25 = .ok (.ireturn, 1) ∧ Go p e below A0 (s₁.setTop (mkF m pcr25 Lr25 ((.int v11) :: Sr25))) := by
                by_cases hc26_20 : (102 : Int32) < p0
                · have go31 : Go p e below A0 (s₁.setTop (mkF m 40 #[.val (.int p0)] [(.int (65 : Int32)), (.int p0)])) := by
                    intro t k
                    refine go30 t ?_
                    refine o_icmpY X0 hx hby d3_26 37 rfl (tlt hc26_20).2.2.1 ?_
                    refine o_iloadN X0 hx hby d3_37 38 rfl rfl ?_
                    refine o_bipush X0 hx hby d3_38 40 rfl (v := (65 : Int32)) rfl ?_
                    exact k
                  obtain ⟨v10, pcr24, Lr24, Sr24, hv10, hd24, go37⟩ : ∃ (v10 : Int32) (pcr24 : Nat) (Lr24 : Array Slot) (Sr24 : List Value), v10 = (if p0 < (65 : Int32) then (-1 : Int32) else (if (70 : Int32) < p0 then (-1 : Int32) else ((p0 - (65 : Int32)) + (10 : Int32)))) ∧ decode c.code pcr24 = .ok (.ireturn, 1) ∧ Go p e below A0 (s₁.setTop (mkF m pcr24 Lr24 ((.int v10) :: Sr24))) := by
                    by_cases hc40_21 : p0 < (65 : Int32)
                    · have go32 : Go p e below A0 (s₁.setTop (mkF m 58 #[.val (.int p0)] [(.int (-1 : Int32))])) := by
                        intro t k
                        refine go31 t ?_
                        refine o_icmpY X0 hx hby d3_40 57 rfl (tlt hc40_21).1 ?_
                        refine o_iconst X0 hx hby d3_57 58 rfl (v := (-1 : Int32)) rfl ?_
                        exact k
                      exact ⟨(-1 : Int32), _, _, _, (if_pos hc40_21).symm, (hb hby d3_58), go32⟩
                    · have go33 : Go p e below A0 (s₁.setTop (mkF m 46 #[.val (.int p0)] [(.int (70 : Int32)), (.int p0)])) := by
                        intro t k
                        refine go31 t ?_
                        refine o_icmpN X0 hx hby d3_40 43 rfl (flt hc40_21).1 ?_
                        refine o_iloadN X0 hx hby d3_43 44 rfl rfl ?_
                        refine o_bipush X0 hx hby d3_44 46 rfl (v := (70 : Int32)) rfl ?_
                        exact k
                      obtain ⟨v9, pcr23, Lr23, Sr23, hv9, hd23, go36⟩ : ∃ (v9 : Int32) (pcr23 : Nat) (Lr23 : Array Slot) (Sr23 : List Value), v9 = (if (70 : Int32) < p0 then (-1 : Int32) else ((p0 - (65 : Int32)) + (10 : Int32))) ∧ decode c.code pcr23 = .ok (.ireturn, 1) ∧ Go p e below A0 (s₁.setTop (mkF m pcr23 Lr23 ((.int v9) :: Sr23))) := by
                        by_cases hc46_22 : (70 : Int32) < p0
                        · have go34 : Go p e below A0 (s₁.setTop (mkF m 58 #[.val (.int p0)] [(.int (-1 : Int32))])) := by
                            intro t k
                            refine go33 t ?_
                            refine o_icmpY X0 hx hby d3_46 57 rfl (tlt hc46_22).2.2.1 ?_
                            refine o_iconst X0 hx hby d3_57 58 rfl (v := (-1 : Int32)) rfl ?_
                            exact k
                          exact ⟨(-1 : Int32), _, _, _, (if_pos hc46_22).symm, (hb hby d3_58), go34⟩
                        · have go35 : Go p e below A0 (s₁.setTop (mkF m 56 #[.val (.int p0)] [(.int ((p0 - (65 : Int32)) + (10 : Int32)))])) := by
                            intro t k
                            refine go33 t ?_
                            refine o_icmpN X0 hx hby d3_46 49 rfl (flt hc46_22).2.2.1 ?_
                            refine o_iloadN X0 hx hby d3_49 50 rfl rfl ?_
                            refine o_bipush X0 hx hby d3_50 52 rfl (v := (65 : Int32)) rfl ?_
                            refine o_isub X0 hx hby d3_52 53 rfl ?_
                            refine o_bipush X0 hx hby d3_53 55 rfl (v := (10 : Int32)) rfl ?_
                            refine o_iadd X0 hx hby d3_55 56 rfl ?_
                            exact k
                          exact ⟨((p0 - (65 : Int32)) + (10 : Int32)), _, _, _, (if_neg hc46_22).symm, (hb hby d3_56), go35⟩
                      subst hv9
                      exact ⟨(if (70 : Int32) < p0 then (-1 : Int32) else ((p0 - (65 : Int32)) + (10 : Int32))), _, _, _, (if_neg hc40_21).symm, hd23, go36⟩
                  subst hv10
                  exact ⟨(if p0 < (65 : Int32) then (-1 : Int32) else (if (70 : Int32) < p0 then (-1 : Int32) else ((p0 - (65 : Int32)) + (10 : Int32)))), _, _, _, (if_pos hc26_20).symm, hd24, go37⟩
                · have go38 : Go p e below A0 (s₁.setTop (mkF m 36 #[.val (.int p0)] [(.int ((p0 - (97 : Int32)) + (10 : Int32)))])) := by
                    intro t k
                    refine go30 t ?_
                    refine o_icmpN X0 hx hby d3_26 29 rfl (flt hc26_20).2.2.1 ?_
                    refine o_iloadN X0 hx hby d3_29 30 rfl rfl ?_
                    refine o_bipush X0 hx hby d3_30 32 rfl (v := (97 : Int32)) rfl ?_
                    refine o_isub X0 hx hby d3_32 33 rfl ?_
                    refine o_bipush X0 hx hby d3_33 35 rfl (v := (10 : Int32)) rfl ?_
                    refine o_iadd X0 hx hby d3_35 36 rfl ?_
                    exact k
                  exact ⟨((p0 - (97 : Int32)) + (10 : Int32)), _, _, _, (if_neg hc26_20).symm, (hb hby d3_36), go38⟩
              subst hv11
              exact ⟨(if (102 : Int32) < p0 then (if p0 < (65 : Int32) then (-1 : Int32) else (if (70 : Int32) < p0 then (-1 : Int32) else ((p0 - (65 : Int32)) + (10 : Int32)))) else ((p0 - (97 : Int32)) + (10 : Int32))), _, _, _, (if_neg hc20_15).symm, hd25, go39⟩
          subst hv12
          exact ⟨(if p0 < (97 : Int32) then (if p0 < (65 : Int32) then (-1 : Int32) else (if (70 : Int32) < p0 then (-1 : Int32) else ((p0 - (65 : Int32)) + (10 : Int32)))) else (if (102 : Int32) < p0 then (if p0 < (65 : Int32) then (-1 : Int32) else (if (70 : Int32) < p0 then (-1 : Int32) else ((p0 - (65 : Int32)) + (10 : Int32)))) else ((p0 - (97 : Int32)) + (10 : Int32)))), _, _, _, (if_pos hc9_14).symm, hd26, go40⟩
        · have go41 : Go p e below A0 (s₁.setTop (mkF m 16 #[.val (.int p0)] [(.int (p0 - (48 : Int32)))])) := by
            intro t k
            refine go21 t ?_
            refine o_icmpN X0 hx hby d3_9 12 rfl (flt hc9_14).2.2.1 ?_
            refine o_iloadN X0 hx hby d3_12 13 rfl rfl ?_
            refine o_bipush X0 hx hby d3_13 15 rfl (v := (48 : Int32)) rfl ?_
            refine o_isub X0 hx hby d3_15 16 rfl ?_
            exact k
          exact ⟨(p0 - (48 : Int32)), _, _, _, (if_neg hc9_14).symm, (hb hby d3_16), go41⟩
      subst hv13
      exact ⟨(if (57 : Int32) < p0 then (if p0 < (97 : Int32) then (if p0 < (65 : Int32) then (-1 : Int32) else (if (70 : Int32) < p0 then (-1 : Int32) else ((p0 - (65 : Int32)) + (10 : Int32)))) else (if (102 : Int32) < p0 then (if p0 < (65 : Int32) then (-1 : Int32) else (if (70 : Int32) < p0 then (-1 : Int32) else ((p0 - (65 : Int32)) + (10 : Int32)))) else ((p0 - (97 : Int32)) + (10 : Int32)))) else (p0 - (48 : Int32))), _, _, _, (if_neg hc3_1).symm, hd27, go42⟩
  have hF : v14 = F3 p0 := by subst hv14; rfl
  subst hA0
  obtain ⟨fs, hr, hrun, hended, hW, hsame⟩ := X0.leave (v := some (.int v14)) (fun h => by rw [Bd.returns] at h; cases h)
  refine ⟨_, _, go43 _ (o_retI X0 hx Bd.returns hd28 hr), hrun, hended, _, _, rfl, ?_, ⟨_, rfl⟩, hW, hsame.mono (by decide) (by decide)⟩
  show Q3 Z p0 h0 n0 _ s₁.heap _
  rw [e0]
  exact ⟨congrArg (fun z => some (Value.int z)) hF, N0, rfl⟩
theorem own_small : ∀ n : Fin 128, F1 (Int32.ofNat n.val) = F3 (Int32.ofNat n.val) := by decide +kernel
theorem own_chr (x : Int32) : ∃ n : Nat, n < 65536 ∧ x.toUInt32.toUInt16.toUInt32.toInt32 = Int32.ofNat n := by
  refine ⟨x.toUInt32.toUInt16.toNat, x.toUInt32.toUInt16.toNat_lt, ?_⟩
  apply Int32.toBitVec_inj.mp
  apply BitVec.eq_of_toNat_eq
  show x.toUInt32.toUInt16.toUInt32.toNat = (BitVec.ofNat 32 x.toUInt32.toUInt16.toNat).toNat
  have := x.toUInt32.toUInt16.toNat_lt
  rw [UInt16.toNat_toUInt32, BitVec.toNat_ofNat, Nat.mod_eq_of_lt (by omega)]
theorem own_big (n : Nat) (h1 : 128 ≤ n) (h2 : n < 65536) : F1 (Int32.ofNat n) = F3 (Int32.ofNat n) := by
  have t : (Int32.ofNat n).toInt = n := Int32.toInt_ofNat_of_lt (by omega)
  have o : ∃ k : Nat, 128 ≤ k ∧ k < 65536 ∧ ((Int32.ofNat n) ||| 32).toUInt32.toUInt16.toUInt32.toInt32 = Int32.ofNat k := by
    refine ⟨n ||| 32, Nat.le_trans h1 Nat.left_le_or, Nat.or_lt_two_pow (n := 16) h2 (by decide), ?_⟩
    apply Int32.toBitVec_inj.mp
    apply BitVec.eq_of_toNat_eq
    have h3 : n ||| 32 < 65536 := Nat.or_lt_two_pow (n := 16) h2 (by decide)
    show (((Int32.ofNat n) ||| 32).toUInt32.toUInt16.toUInt32).toNat = (BitVec.ofNat 32 (n ||| 32)).toNat
    rw [UInt16.toNat_toUInt32, UInt32.toNat_toUInt16, BitVec.toNat_ofNat]
    have h4 : ((Int32.ofNat n) ||| 32).toUInt32.toNat = n ||| 32 := by
      show (BitVec.ofNat 32 n ||| BitVec.ofNat 32 32).toNat = _
      rw [BitVec.toNat_or, BitVec.toNat_ofNat, BitVec.toNat_ofNat, Nat.mod_eq_of_lt (by omega), Nat.mod_eq_of_lt (by omega)]
    rw [h4]; omega
  obtain ⟨k, k1, k2, ek⟩ := o
  have tk : (Int32.ofNat k).toInt = k := Int32.toInt_ofNat_of_lt (by omega)
  have L : ∀ (m : Nat) (c : Int32), 128 ≤ m → m < 65536 → c.toInt < 128 → 0 ≤ c.toInt → ¬ Int32.ofNat m < c ∧ c < Int32.ofNat m := fun m c a b d e => by
    have tm : (Int32.ofNat m).toInt = m := Int32.toInt_ofNat_of_lt (by omega)
    simp only [Int32.lt_iff_toInt_lt, tm]; omega
  have F : F2 (Int32.ofNat n) = 0 := by unfold F2; rw [if_neg (L n 48 h1 h2 (by decide) (by decide)).1, if_pos (L n 57 h1 h2 (by decide) (by decide)).2]
  unfold F1 F3
  simp only [F, ek, if_true]
  rw [if_neg (L k 97 k1 k2 (by decide) (by decide)).1, if_pos (L k 102 k1 k2 (by decide) (by decide)).2, if_neg (L n 48 h1 h2 (by decide) (by decide)).1, if_pos (L n 57 h1 h2 (by decide) (by decide)).2, if_neg (L n 97 h1 h2 (by decide) (by decide)).1, if_pos (L n 102 h1 h2 (by decide) (by decide)).2, if_neg (L n 65 h1 h2 (by decide) (by decide)).1, if_pos (L n 70 h1 h2 (by decide) (by decide)).2]
theorem own_same (x : Int32) : F1 (x.toUInt32.toUInt16.toUInt32.toInt32) = F3 (x.toUInt32.toUInt16.toUInt32.toInt32) := by
  obtain ⟨n, h, e⟩ := own_chr x
  rw [e]
  by_cases q : n < 128
  · exact own_small ⟨n, q⟩
  · exact own_big n (by omega) h

theorem pd_3 : parseMethodDescriptor "(C)I" = some ⟨[.char], some .int⟩ := by decide +kernel
theorem ef_0 (m : MethodId) (x0 : Int32) (x1 : Int32) : entryFrame m #[(.int x0), (.int x1)] maxLocals = mkF m 0 #[.val (.int x0), .val (.int x1), .unset, .unset] [] := by first | (simp [entryFrame, mkF, argsToLocals, Value.category, maxLocals]; done) | rfl
set_option maxRecDepth 65536 in
set_option maxHeartbeats 4000000 in
theorem pl_0_0 (p0 : Int32) (p1 : Int32) (v1 : Int32) (v2 : Int32) (v3 : Int32) (v4 : Int32) (v5 : Int32) (hv1 : v1 = (if (p0 &&& (1 : Int32)) = (0 : Int32) then (0 : Int32) else (1 : Int32))) (hv2 : v2 = (if v1 = (0 : Int32) then (p1.toUInt32.toUInt16.toUInt32.toInt32) else ((p1 &&& (127 : Int32)).toUInt32.toUInt16.toUInt32.toInt32))) (hv3 : v3 = (F1 v2)) (hv4 : v4 = (F3 v2)) (hv5 : v5 = (if v3 = v4 then (1 : Int32) else (0 : Int32))) : v5 = (1 : Int32) := by
  have key : v3 = v4 := by
    rw [hv3, hv4, hv2]
    split
    · exact own_same _
    · exact own_same _
  rw [hv5, if_pos key]
def Q0 (Z : State) (p0 : Int32) (p1 : Int32) (h0 : Heap) (n0 : Nat) (v : Option Value) (h : Heap) (L : List Loc) : Prop := v = some (.int 1) ∧ Fr n0 L
set_option maxRecDepth 65536 in
set_option maxHeartbeats 40000000 in
theorem rm0 (l : Launch) (Z : State) (aw : Array Value) (hw : ∀ d ∈ tables_1, d.before aw Z = true) (ws : List Jvm.Cond) (p0 : Int32) (p1 : Int32) (h0 : Heap) (n0 : Nat) (Z0 : n0 ≤ h0.size) :
    MetFree l x (head1 (Jvm.Cond.code x code maxLocals ret :: ws) room_1) (fun a U => a = #[(.int p0), (.int p1)] ∧ Z.Warmed39 U.vm ∧ U.heap = h0) (fun _ _ _ _ _ => True) (fun _ U o U' => ∃ v L, o = .returned v ∧ Q0 Z p0 p1 h0 n0 v U'.heap L ∧ FrameEnd U o U' L room_1.cells room_1.slots) := by
  refine MetFree.of_bodySF (plainFor_of_name pn_3) hisR ?_
  intro p e s m args below meth c s₁ Bd hml0 hP hK
  obtain ⟨rfl, hZ, hh⟩ := hP
  have hx := Bd.exec
  have hby := Bd.bytes
  have hml : c.maxLocals = 4 := hml0
  have hown : s.vm.findClass "org/shardwright/io/RequestHeadHexValuePinLaw" = some m.cls := findClass_of_methodNamed Bd.named
  have hnm := (name_of_methodNamed Bd.named Bd.method).1
  have X0 : Stand p l e room_1 s m #[(.int p0), (.int p1)] below meth c s₁ [] 0 0 := Stand.of_body Bd
  have e0 : s₁.heap = h0 := by rw [← hh, Bd.state]; rfl
  have N0 := Fr.nil n0
  obtain ⟨A0, hA0⟩ : ∃ A0, A0 = s₁.setTop (entryFrame m #[(.int p0), (.int p1)] maxLocals) := ⟨_, rfl⟩
  have go0 : Go p e below A0 (s₁.setTop (mkF m 0 #[.val (.int p0), .val (.int p1), .unset, .unset] [])) := fun t k => by rw [hA0]; exact castTop (ef_0 m p0 p1) k
  have go1 : Go p e below A0 (s₁.setTop (mkF m 3 #[.val (.int p0), .val (.int p1), .unset, .unset] [(.int (p0 &&& (1 : Int32)))])) := by
    intro t k
    refine go0 t ?_
    refine o_iloadN X0 hx hby at_0 1 rfl rfl ?_
    refine o_iconst X0 hx hby at_1 2 rfl (v := (1 : Int32)) rfl ?_
    refine o_iand X0 hx hby at_2 3 rfl ?_
    exact k
  obtain ⟨v1, hv1, go4⟩ : ∃ (v1 : Int32), v1 = (if (p0 &&& (1 : Int32)) = (0 : Int32) then (0 : Int32) else (1 : Int32)) ∧ Go p e below A0 (s₁.setTop (mkF m 11 #[.val (.int p0), .val (.int p1), .unset, .unset] [(.int v1)])) := by
    by_cases hc3_1 : (p0 &&& (1 : Int32)) = (0 : Int32)
    · have go2 : Go p e below A0 (s₁.setTop (mkF m 11 #[.val (.int p0), .val (.int p1), .unset, .unset] [(.int (0 : Int32))])) := by
        intro t k
        refine go1 t ?_
        refine o_ifY X0 hx hby at_3 10 rfl (teq hc3_1).1 ?_
        refine o_iconst X0 hx hby at_10 11 rfl (v := (0 : Int32)) rfl ?_
        exact k
      exact ⟨(0 : Int32), (if_pos hc3_1).symm, go2⟩
    · have go3 : Go p e below A0 (s₁.setTop (mkF m 11 #[.val (.int p0), .val (.int p1), .unset, .unset] [(.int (1 : Int32))])) := by
        intro t k
        refine go1 t ?_
        refine o_ifN X0 hx hby at_3 6 rfl (feq hc3_1).1 ?_
        refine o_iconst X0 hx hby at_6 7 rfl (v := (1 : Int32)) rfl ?_
        refine o_goto X0 hx hby at_7 11 rfl ?_
        exact k
      exact ⟨(1 : Int32), (if_neg hc3_1).symm, go3⟩
  have go5 : Go p e below A0 (s₁.setTop (mkF m 12 #[.val (.int p0), .val (.int p1), .val (.int v1), .unset] [])) := by
    intro t k
    refine go4 t ?_
    refine o_istoreN X0 hx hby at_11 12 rfl (l' := #[.val (.int p0), .val (.int p1), .val (.int v1), .unset]) rfl ?_
    exact k
  have go6 : Go p e below A0 (s₁.setTop (mkF m 13 #[.val (.int p0), .val (.int p1), .val (.int v1), .unset] [(.int v1)])) := by
    intro t k
    refine go5 t ?_
    refine o_iloadN X0 hx hby at_12 13 rfl rfl ?_
    exact k
  obtain ⟨v2, hv2, go9⟩ : ∃ (v2 : Int32), v2 = (if v1 = (0 : Int32) then (p1.toUInt32.toUInt16.toUInt32.toInt32) else ((p1 &&& (127 : Int32)).toUInt32.toUInt16.toUInt32.toInt32)) ∧ Go p e below A0 (s₁.setTop (mkF m 26 #[.val (.int p0), .val (.int p1), .val (.int v1), .unset] [(.int v2)])) := by
    by_cases hc13_2 : v1 = (0 : Int32)
    · have go7 : Go p e below A0 (s₁.setTop (mkF m 26 #[.val (.int p0), .val (.int p1), .val (.int v1), .unset] [(.int (p1.toUInt32.toUInt16.toUInt32.toInt32))])) := by
        intro t k
        refine go6 t ?_
        refine o_ifY X0 hx hby at_13 24 rfl (teq hc13_2).1 ?_
        refine o_iloadN X0 hx hby at_24 25 rfl rfl ?_
        refine o_i2c X0 hx hby at_25 26 rfl ?_
        exact k
      exact ⟨(p1.toUInt32.toUInt16.toUInt32.toInt32), (if_pos hc13_2).symm, go7⟩
    · have go8 : Go p e below A0 (s₁.setTop (mkF m 26 #[.val (.int p0), .val (.int p1), .val (.int v1), .unset] [(.int ((p1 &&& (127 : Int32)).toUInt32.toUInt16.toUInt32.toInt32))])) := by
        intro t k
        refine go6 t ?_
        refine o_ifN X0 hx hby at_13 16 rfl (feq hc13_2).1 ?_
        refine o_iloadN X0 hx hby at_16 17 rfl rfl ?_
        refine o_bipush X0 hx hby at_17 19 rfl (v := (127 : Int32)) rfl ?_
        refine o_iand X0 hx hby at_19 20 rfl ?_
        refine o_i2c X0 hx hby at_20 21 rfl ?_
        refine o_goto X0 hx hby at_21 26 rfl ?_
        exact k
      exact ⟨((p1 &&& (127 : Int32)).toUInt32.toUInt16.toUInt32.toInt32), (if_neg hc13_2).symm, go8⟩
  have go10 : Go p e below A0 (s₁.setTop (mkF m 27 #[.val (.int p0), .val (.int p1), .val (.int v1), .val (.int v2)] [])) := by
    intro t k
    refine go9 t ?_
    refine o_istoreN X0 hx hby at_26 27 rfl (l' := #[.val (.int p0), .val (.int p1), .val (.int v1), .val (.int v2)]) rfl ?_
    exact k
  have go11 : Go p e below A0 (s₁.setTop (mkF m 28 #[.val (.int p0), .val (.int p1), .val (.int v1), .val (.int v2)] [(.int v2)])) := by
    intro t k
    refine go10 t ?_
    refine o_iloadN X0 hx hby at_27 28 rfl rfl ?_
    exact k
  obtain ⟨_, _, ⟨T3, L3, k3, n3⟩, -, X3, ⟨Lc3, hQ3, l3, y3, z3⟩, st3⟩ := Jvm.LawKit.callS X0 hx (y := (⟨"org/shardwright/io/RequestHead", "hexValue", "(C)I"⟩ : MethodName)) hown (mvT hZ (hw _ (List.mem_of_getElem? (i := 0) rfl))) (mvT hZ (hw _ (List.mem_of_getElem? (i := 1) rfl))) (mvT hZ (hw _ (List.mem_of_getElem? (i := 2) rfl))) (mvT hZ (hw _ (List.mem_of_getElem? (i := 3) rfl))) (by decide) (backOf (W := 0) (rm1 l Z aw hw [] v2 h0 n0 Z0) hZ (hw _ (List.mem_of_getElem? (i := 3) rfl)) (hw _ (List.mem_of_getElem? (i := 2) rfl)) (by decide) (by decide)) (g := (mkF m 28 #[.val (.int p0), .val (.int p1), .val (.int v1), .val (.int v2)] [(.int v2)])) rfl (by rw [hml]; rfl) (argsL := [(.int v2)]) (rest := []) (lenOf pd_3 rfl) rfl (by show 2 * 0 + _ ≤ _; exact Nat.le_of_eq rfl) (hb hby at_28) (fun _ _ => ⟨rfl, e0, (by decide : 0 + 0 ≤ _), (by decide : 0 + 0 ≤ _)⟩)
  dsimp only [Pt.U, Pt.locs, Pt.cells, Pt.slots] at X3 l3 y3 z3 st3 hQ3
  subst l3 y3 z3
  obtain ⟨rfl, N3q, e3⟩ := hQ3
  have N3 := Fr.app N0 N3q
  have go12 : Go p e below A0 (T3.setTop (mkF m 31 #[.val (.int p0), .val (.int p1), .val (.int v1), .val (.int v2)] [(.int (F1 v2))])) := by
    intro t k
    refine go11 t ?_
    refine st3 _ ?_
    show Steps p.tables e below (T3.setTop (mkF m 31 #[.val (.int p0), .val (.int p1), .val (.int v1), .val (.int v2)] [(.int (F1 v2))])) _
    exact k
  obtain ⟨v3, hv3, go13⟩ : ∃ v3 : Int32, v3 = (F1 v2) ∧ Go p e below A0 (T3.setTop (mkF m 31 #[.val (.int p0), .val (.int p1), .val (.int v1), .val (.int v2)] [(.int v3)])) := ⟨_, rfl, go12⟩
  have go14 : Go p e below A0 (T3.setTop (mkF m 32 #[.val (.int p0), .val (.int p1), .val (.int v1), .val (.int v2)] [(.int v2), (.int v3)])) := by
    intro t k
    refine go13 t ?_
    refine o_iloadN X3 hx hby at_31 32 rfl rfl ?_
    exact k
  obtain ⟨_, _, ⟨T4, L4, k4, n4⟩, -, X4, ⟨Lc4, hQ4, l4, y4, z4⟩, st4⟩ := Jvm.LawKit.callS X3 hx (y := (⟨"org/shardwright/io/RequestHeadHexValuePinLaw", "reference", "(C)I"⟩ : MethodName)) hown (mvT hZ (hw _ (List.mem_of_getElem? (i := 7) rfl))) (mvT hZ (hw _ (List.mem_of_getElem? (i := 8) rfl))) (mvT hZ (hw _ (List.mem_of_getElem? (i := 9) rfl))) (mvT hZ (hw _ (List.mem_of_getElem? (i := 10) rfl))) (by decide) (backOf (W := 1) (rm3 l Z aw hw [] v2 h0 n0 Z0) hZ (hw _ (List.mem_of_getElem? (i := 10) rfl)) (hw _ (List.mem_of_getElem? (i := 9) rfl)) (by decide) (by decide)) (g := (mkF m 32 #[.val (.int p0), .val (.int p1), .val (.int v1), .val (.int v2)] [(.int v2), (.int v3)])) rfl (by rw [hml]; rfl) (argsL := [(.int v2)]) (rest := [(.int v3)]) (lenOf pd_3 rfl) rfl (by show 2 * 0 + _ ≤ _; exact Nat.le_of_eq rfl) (hb hby at_32) (fun _ _ => ⟨rfl, e3, (by decide : 0 + 0 ≤ _), (by decide : 0 + 0 ≤ _)⟩)
  dsimp only [Pt.U, Pt.locs, Pt.cells, Pt.slots] at X4 l4 y4 z4 st4 hQ4
  subst l4 y4 z4
  obtain ⟨rfl, N4q, e4⟩ := hQ4
  have N4 := Fr.app N3 N4q
  have go15 : Go p e below A0 (T4.setTop (mkF m 35 #[.val (.int p0), .val (.int p1), .val (.int v1), .val (.int v2)] [(.int (F3 v2)), (.int v3)])) := by
    intro t k
    refine go14 t ?_
    refine st4 _ ?_
    show Steps p.tables e below (T4.setTop (mkF m 35 #[.val (.int p0), .val (.int p1), .val (.int v1), .val (.int v2)] [(.int (F3 v2)), (.int v3)])) _
    exact k
  obtain ⟨v4, hv4, go16⟩ : ∃ v4 : Int32, v4 = (F3 v2) ∧ Go p e below A0 (T4.setTop (mkF m 35 #[.val (.int p0), .val (.int p1), .val (.int v1), .val (.int v2)] [(.int v4), (.int v3)])) := ⟨_, rfl, go15⟩
  obtain ⟨v5, hv5, go19⟩ : ∃ (v5 : Int32), v5 = (if v3 = v4 then (1 : Int32) else (0 : Int32)) ∧ Go p e below A0 (T4.setTop (mkF m 43 #[.val (.int p0), .val (.int p1), .val (.int v1), .val (.int v2)] [(.int v5)])) := by
    by_cases hc35_5 : v3 = v4
    · have go17 : Go p e below A0 (T4.setTop (mkF m 43 #[.val (.int p0), .val (.int p1), .val (.int v1), .val (.int v2)] [(.int (1 : Int32))])) := by
        intro t k
        refine go16 t ?_
        refine o_icmpN X4 hx hby at_35 38 rfl (teq hc35_5).2 ?_
        refine o_iconst X4 hx hby at_38 39 rfl (v := (1 : Int32)) rfl ?_
        refine o_goto X4 hx hby at_39 43 rfl ?_
        exact k
      exact ⟨(1 : Int32), (if_pos hc35_5).symm, go17⟩
    · have go18 : Go p e below A0 (T4.setTop (mkF m 43 #[.val (.int p0), .val (.int p1), .val (.int v1), .val (.int v2)] [(.int (0 : Int32))])) := by
        intro t k
        refine go16 t ?_
        refine o_icmpY X4 hx hby at_35 42 rfl (feq hc35_5).2 ?_
        refine o_iconst X4 hx hby at_42 43 rfl (v := (0 : Int32)) rfl ?_
        exact k
      exact ⟨(0 : Int32), (if_neg hc35_5).symm, go18⟩
  obtain rfl : v5 = (1 : Int32) := pl_0_0 p0 p1 v1 v2 v3 v4 v5 hv1 hv2 hv3 hv4 hv5
  subst hA0
  obtain ⟨fs, hr, hrun, hended, hW, hsame⟩ := X4.leave (v := some (.int (1 : Int32))) (fun h => by rw [Bd.returns] at h; cases h)
  refine ⟨_, _, go19 _ (o_retZ X4 hx Bd.returns (hb hby at_43) (Or.inr rfl) hr), hrun, hended, _, _, rfl, ?_, ⟨_, rfl⟩, hW, hsame.mono (by decide) (by decide)⟩
  show Q0 Z p0 p1 h0 n0 _ T4.heap _
  rw [e4]
  exact ⟨rfl, N4⟩
set_option maxRecDepth 65536 in
set_option maxHeartbeats 40000000 in
theorem comes_1 {Post : Tables → Env → Array Value → State → Outcome → State → Prop} (hpost : ∀ tb e args s v u, (limb_1_1.after args s (.returned v) u = true ∧ limb_1_2.after args s (.returned v) u = true ∧ True) → FrameEnd s (.returned v) u (Jvm.fieldLocs frame_1_writes args s ++ Jvm.arrayLocs frame_1_arrays args s ++ Jvm.staticLocs frame_1_statics s) 0 0 → Post tb e args s (.returned v) u) :
    ArmFor flags0 classFile x code maxLocals ret World_1 tables_1 room_1 Calls_1 rest_1 Pre_1 Post := by
  intro l hfl _ _ p e ha hc hk s m args below hf hA hF happ hP
  obtain ⟨hcalls, hrest, hpre⟩ := hP
  obtain ⟨-, -, -, hnamed, -, -, -, hat⟩ := (Spec.applies_iff hf).mp happ
  obtain ⟨hg, hn⟩ := and_e (Cond.before_iff.mp (show (Jvm.Cond.and given_1 narrow_1).before args s = true from hpre))
  obtain ⟨g1, g2⟩ := and_e hg
  obtain ⟨g3, g4⟩ := and_e g2
  obtain ⟨w0, w1, rfl⟩ : ∃ w0 w1 : Value, args = #[w0, w1] := by
    have hs : args.size = 2 := by simpa [Cond.value, given_1] using g1
    obtain ⟨L⟩ := args
    match L, hs with
    | [w0, w1], _ => exact ⟨w0, w1, rfl⟩
  have hw := fun d (hd : d ∈ tables_1) => atoms_spec (ws := Jvm.Cond.code x code maxLocals ret :: tables_1) hat d (List.mem_cons_of_mem _ hd)
  have hfit : Fit s := fun {y c} hc i hi => by
    obtain ⟨ha, rfl⟩ := Array.getElem?_eq_some_iff.mp hc
    have q := List.all_eq_true.mp ((Array.all_eq_true_iff_forall_mem.mp hF) _ (Array.getElem_mem ha)) i (List.mem_range.mpr hi)
    simpa [Array.getElem?_eq_getElem hi] using q
  obtain ⟨i0, ei0⟩ := is_v g3
  obtain rfl : w0 = (.int i0) := Option.some.inj ei0
  obtain ⟨i1, ei1⟩ := is_v g4
  obtain rfl : w1 = (.int i1) := Option.some.inj ei1
  obtain ⟨n, o, h1, h2, h3, _, L, rfl, ⟨rfl, N⟩, hq⟩ := rm0 l s _ hw tables_1 i0 i1 s.heap s.heap.size (Nat.le_refl _)  p e ha hc hk s m _ below hf ((Spec.applies_iff_loose hf).mp happ).1 ⟨rfl, State.Warmed39.refl s, rfl⟩ trivial
  refine ⟨n, _, h1, h2, h3, hpost _ _ _ _ _ _ ⟨Cond.after_iff.mpr rfl, Cond.after_iff.mpr (eq_i res_at (Term.int_eval (1)) rfl), trivial⟩ ⟨hq.1, hq.2.1, (hq.2.2.sift fun y hy => Or.inr (N y hy)).mono (by decide) (by decide)⟩⟩
theorem main_1_1 : Claimed_1_1 := comes_1 fun _ _ _ _ _ _ h hF => ⟨h.1, hF⟩
theorem main_1_2 : Claimed_1_2 := comes_1 fun _ _ _ _ _ _ h hF => ⟨h.2.1, hF⟩
end Jvm.Pilot.@@N@@
namespace Jvm.Pilot.@@N@@
open Jvm Jvm.ClassFile Sem Op Lib Jvm.Free Jvm.Stand Jvm.Pilot.@@N@@.Jvm.D
/-! MADE BY PROGRAM (witnessworld.py) out of the Statement's table words and the real class files: 10 classes; the members and pool entries that the words name. The judged class is class 1, her method 2. -/
namespace start1
open Jvm.ClassFile
def u (s : String) : CpInfo := .utf8 (stringToUtf16 s)
/-- a pool by its gaps: so many unusable entries, then the entry; so many at the end -/
def gap : Nat → List CpInfo → List CpInfo
  | 0, r => r
  | n + 1, r => .unusable :: gap n r
def poolList (es : List (Nat × CpInfo)) (last : Nat) : List CpInfo := es.foldr (fun e r => gap e.1 (e.2 :: r)) (gap last [])
def pool (es : List (Nat × CpInfo)) (last : Nat) : Array CpInfo := ⟨poolList es last⟩
def fileOf (pool : Array CpInfo) (this : Nat) (attrs : Array Attribute := #[]) (ms : Array MethodInfo := #[]) (fl : Nat := 33) (sup : Nat := 0) (ifs : Array Nat := #[]) (fds : Array FieldInfo := #[]) : ClassFile where
  minorVersion := 0
  majorVersion := 65
  constantPool := pool
  accessFlags := fl
  thisClass := this
  superClass := sup
  interfaces := ifs
  fields := fds
  methods := ms
  attributes := attrs
def plain (name : String) (sup : Option ClassId) : Class where
  name := name
  kind := .ordinary
  loader := none
  accessFlags := 33
  super := sup
  interfaces := #[]
  cf := none
  fields := #[]
  methods := #[]
  instanceTypes := #[]
  staticTypes := #[]
  resolved := #[]
  callSites := []
  init := .initialized
  statics := none
  mirror := none

def pool0 : Array CpInfo := pool [(5, u "<init>"), (0, u "()V"), (1, .class_ 10), (1, u "java/lang/Object")] 113

def k0m0 : Method := { name := "<init>", desc := "()V", sig := { parameters := [], returnType := none }, accessFlags := 1, code := none }
/-- java/lang/Object -/
def k0 : Class := { plain "java/lang/Object" none with
  accessFlags := 33
  interfaces := #[]
  cf := some (fileOf pool0 8 #[] #[{ accessFlags := 1, nameIndex := 5, descriptorIndex := 6, attributes := #[] }] 33 0 #[] #[])
  fields := #[]
  methods := #[k0m0]
  instanceTypes := #[]
  staticTypes := #[]
  resolved := Array.replicate 124 none
  statics := none }

def pool1 : Array CpInfo := pool [(2, .class_ 4), (1, u "java/lang/Object"), (0, u "<init>"), (0, u "()V"), (0, .methodref 8 9), (0, .class_ 10), (0, .nameAndType 11 12), (0, u "org/shardwright/io/RequestHead"), (0, u "hexValue"), (0, u "(C)I"), (0, .methodref 14 15), (0, .class_ 16), (0, .nameAndType 17 12), (0, u "org/shardwright/io/RequestHeadHexValuePinLaw"), (0, u "reference"), (3, u "law"), (0, u "(II)Z")] 2

def k1m0 : Method := { name := "<init>", desc := "()V", sig := { parameters := [], returnType := none }, accessFlags := 2, code := none }
def k1c1 : Code := { maxStack := 2, maxLocals := 1, code := method_2_code, exceptionTable := #[], attributes := #[] }
def k1m1 : Method := { name := "reference", desc := "(C)I", sig := { parameters := [.char], returnType := some .int }, accessFlags := 10, code := some k1c1 }
def k1c2 : Code := { maxStack := 2, maxLocals := 4, code := code, exceptionTable := #[], attributes := #[] }
def k1m2 : Method := { name := "law", desc := "(II)Z", sig := { parameters := [.int, .int], returnType := some .boolean }, accessFlags := 9, code := some k1c2 }
/-- org/shardwright/io/RequestHeadHexValuePinLaw -/
def k1 : Class := { plain "org/shardwright/io/RequestHeadHexValuePinLaw" (some 0) with
  accessFlags := 49
  interfaces := #[]
  cf := some (fileOf pool1 14 #[] #[{ accessFlags := 2, nameIndex := 5, descriptorIndex := 6, attributes := #[] }, { accessFlags := 10, nameIndex := 17, descriptorIndex := 12, attributes := #[] }, { accessFlags := 9, nameIndex := 21, descriptorIndex := 22, attributes := #[] }] 49 2 #[] #[])
  fields := #[]
  methods := #[k1m0, k1m1, k1m2]
  instanceTypes := #[]
  staticTypes := #[]
  resolved := Array.replicate 25 none
  statics := none }

def pool2 : Array CpInfo := pool [(2, .class_ 4), (1, u "java/lang/Object"), (0, u "<init>"), (0, u "()V"), (0, .class_ 8), (0, u "java/lang/Record")] 13

def k2m0 : Method := { name := "<init>", desc := "()V", sig := { parameters := [], returnType := none }, accessFlags := 4, code := none }
/-- java/lang/Record -/
def k2 : Class := { plain "java/lang/Record" (some 0) with
  accessFlags := 1057
  interfaces := #[]
  cf := some (fileOf pool2 7 #[] #[{ accessFlags := 4, nameIndex := 5, descriptorIndex := 6, attributes := #[] }] 1057 2 #[] #[])
  fields := #[]
  methods := #[k2m0]
  instanceTypes := #[]
  staticTypes := #[]
  resolved := Array.replicate 22 none
  statics := none }

def pool3 : Array CpInfo := pool [(2, .class_ 4), (1, u "java/lang/Record"), (3, .class_ 10), (1, u "org/shardwright/io/RequestHead"), (0, u "method"), (0, u "Ljava/lang/String;"), (2, u "path"), (2, u "query"), (2, u "contentLength"), (0, u "J"), (2, u "expectsContinue"), (0, u "Z"), (2, u "keepAlive"), (0, .class_ 31), (0, u "org/shardwright/io/RequestHead$Reader"), (55, .methodref 8 88), (0, .nameAndType 89 90), (0, u "isDigit"), (0, u "(C)Z"), (25, u "hexValue"), (0, u "(C)I"), (179, u "FIELDS_READ"), (0, u "Ljava/util/Set;"), (0, u "CHUNKED"), (1, u "MAX_REQUEST_LINE_BYTES"), (0, u "I"), (1, u "MAX_FIELD_BYTES"), (1, u "TOKEN_SYMBOLS"), (0, u "PATH_SYMBOLS"), (27, .class_ 336), (0, u "org/shardwright/io/RequestHead$Fields")] 37

def k3c0 : Code := { maxStack := 2, maxLocals := 2, code := prog_12_method_13_code, exceptionTable := #[], attributes := #[] }
def k3m0 : Method := { name := "hexValue", desc := "(C)I", sig := { parameters := [.char], returnType := some .int }, accessFlags := 8, code := some k3c0 }
def k3c1 : Code := { maxStack := 2, maxLocals := 1, code := prog_12_method_15_code, exceptionTable := #[], attributes := #[] }
def k3m1 : Method := { name := "isDigit", desc := "(C)Z", sig := { parameters := [.char], returnType := some .boolean }, accessFlags := 10, code := some k3c1 }
/-- org/shardwright/io/RequestHead -/
def k3 : Class := { plain "org/shardwright/io/RequestHead" (some 2) with
  accessFlags := 48
  interfaces := #[]
  cf := some (fileOf pool3 8 #[.nestMembers #[335, 30]] #[{ accessFlags := 8, nameIndex := 116, descriptorIndex := 117, attributes := #[] }, { accessFlags := 10, nameIndex := 89, descriptorIndex := 90, attributes := #[] }] 48 2 #[] #[{ accessFlags := 18, nameIndex := 11, descriptorIndex := 12, attributes := #[] }, { accessFlags := 18, nameIndex := 15, descriptorIndex := 12, attributes := #[] }, { accessFlags := 18, nameIndex := 18, descriptorIndex := 12, attributes := #[] }, { accessFlags := 18, nameIndex := 21, descriptorIndex := 22, attributes := #[] }, { accessFlags := 18, nameIndex := 25, descriptorIndex := 26, attributes := #[] }, { accessFlags := 18, nameIndex := 29, descriptorIndex := 26, attributes := #[] }, { accessFlags := 24, nameIndex := 299, descriptorIndex := 22, attributes := #[] }, { accessFlags := 24, nameIndex := 301, descriptorIndex := 302, attributes := #[] }, { accessFlags := 24, nameIndex := 304, descriptorIndex := 302, attributes := #[] }, { accessFlags := 26, nameIndex := 306, descriptorIndex := 12, attributes := #[] }, { accessFlags := 26, nameIndex := 307, descriptorIndex := 12, attributes := #[] }, { accessFlags := 26, nameIndex := 297, descriptorIndex := 298, attributes := #[] }])
  fields := #[{ name := "method", type := (.object "java/lang/String"), accessFlags := 18, slot := 0, constantValue := 0 }, { name := "path", type := (.object "java/lang/String"), accessFlags := 18, slot := 1, constantValue := 0 }, { name := "query", type := (.object "java/lang/String"), accessFlags := 18, slot := 2, constantValue := 0 }, { name := "contentLength", type := .long, accessFlags := 18, slot := 3, constantValue := 0 }, { name := "expectsContinue", type := .boolean, accessFlags := 18, slot := 4, constantValue := 0 }, { name := "keepAlive", type := .boolean, accessFlags := 18, slot := 5, constantValue := 0 }, { name := "CHUNKED", type := .long, accessFlags := 24, slot := 0, constantValue := 0 }, { name := "MAX_REQUEST_LINE_BYTES", type := .int, accessFlags := 24, slot := 1, constantValue := 0 }, { name := "MAX_FIELD_BYTES", type := .int, accessFlags := 24, slot := 2, constantValue := 0 }, { name := "TOKEN_SYMBOLS", type := (.object "java/lang/String"), accessFlags := 26, slot := 3, constantValue := 0 }, { name := "PATH_SYMBOLS", type := (.object "java/lang/String"), accessFlags := 26, slot := 4, constantValue := 0 }, { name := "FIELDS_READ", type := (.object "java/util/Set"), accessFlags := 26, slot := 5, constantValue := 0 }]
  methods := #[k3m0, k3m1]
  instanceTypes := #[(.object "java/lang/String"), (.object "java/lang/String"), (.object "java/lang/String"), .long, .boolean, .boolean]
  staticTypes := #[.long, .int, .int, (.object "java/lang/String"), (.object "java/lang/String"), (.object "java/util/Set")]
  resolved := Array.replicate 374 none
  statics := none }

def pool4 : Array CpInfo := pool [(1, u "java/lang/Cloneable"), (0, .class_ 1), (0, u "java/lang/Object"), (0, .class_ 3)] 3

/-- java/lang/Cloneable -/
def k4 : Class := { plain "java/lang/Cloneable" (some 0) with
  accessFlags := 1537
  interfaces := #[]
  cf := some (fileOf pool4 2 #[] #[] 1537 4 #[] #[])
  fields := #[]
  methods := #[]
  instanceTypes := #[]
  staticTypes := #[]
  resolved := Array.replicate 8 none
  statics := none }

def pool5 : Array CpInfo := pool [(1, u "java/io/Serializable"), (0, .class_ 1), (0, u "java/lang/Object"), (0, .class_ 3)] 3

/-- java/io/Serializable -/
def k5 : Class := { plain "java/io/Serializable" (some 0) with
  accessFlags := 1537
  interfaces := #[]
  cf := some (fileOf pool5 2 #[] #[] 1537 4 #[] #[])
  fields := #[]
  methods := #[]
  instanceTypes := #[]
  staticTypes := #[]
  resolved := Array.replicate 8 none
  statics := none }

/-- the primitive byte -/
def k6 : Class := { plain "byte" none with kind := .primitive 'B', accessFlags := 0x411 }
/-- [B -/
def k7 : Class := { plain "[B" (some 0) with kind := .array 6 .byte, interfaces := #[4, 5], accessFlags := 1041 }

/-- the primitive int -/
def k8 : Class := { plain "int" none with kind := .primitive 'I', accessFlags := 0x411 }
/-- [I -/
def k9 : Class := { plain "[I" (some 0) with kind := .array 8 .int, interfaces := #[4, 5], accessFlags := 1041 }

def heap : Heap := #[]
def classes : Array Class := #[k0, k1, k2, k3, k4, k5, k6, k7, k8, k9]
def interned : List (Array UInt16 × Addr) := []
def slotsUsed : Nat := 0
def theMethod : MethodId := ⟨1, 2⟩
def args0 : Array Value := #[.int 5, .int 7]
def aboutOver (below : List Frame) : State where
  vm := { classes := classes, interned := interned.toArray }
  heap := heap
  slotsUsed := slotsUsed
  threads := #[{ frames := .invoking theMethod args0 :: below }]
def below0 : List Frame := [.native { method := ⟨0, 0⟩, args := #[] }]
def about1 : State := aboutOver below0
def p0 : Program := .bare "" "" ""
def e0 : Env := launch0.env 0 0 0
theorem w_frames : about1.frames = Frame.invoking theMethod args0 :: below0 := rfl
set_option maxRecDepth 65536 in
theorem w_args : argsFit about1.vm theMethod args0 = true := by decide +kernel
set_option maxRecDepth 65536 in
theorem w_heap : heapFits about1 = true := by decide +kernel
set_option maxRecDepth 65536 in
theorem w_runnable : about1.curStatus? = some .runnable := by decide +kernel
set_option maxRecDepth 65536 in
theorem w_alone : about1.alone = true := by decide +kernel
set_option maxRecDepth 65536 in
theorem w_named : about1.methodNamed? x = some theMethod := by decide +kernel
set_option maxRecDepth 65536 in
theorem w_hears : about1.hears theMethod below0 = true := by decide +kernel
set_option maxRecDepth 65536 in
theorem w_ripe : about1.ripe theMethod args0 below0 = true := by decide +kernel
theorem w_running : about1.status = .running := rfl
set_option maxRecDepth 65536 in
theorem w_room : about1.hasRoom e0.platform room_1 = true :=
  launch0.hasRoom_least _ room_1 (by decide +kernel) (by decide +kernel) (by decide +kernel) (by decide +kernel) (by decide +kernel) (by decide +kernel)
theorem allAtoms_all (ts : List Jvm.Cond) (a : Array Jvm.Value) (st : Jvm.State) : (allAtoms ts).before a st = ts.all (fun c => c.before a st) := by
  induction ts with
  | nil => rfl
  | cons c t ih =>
    show (Jvm.Cond.and c (allAtoms t)).before a st = _
    rw [Jvm.Cond.before_and, ih, List.all_cons]
def words1 : List Jvm.Cond := Jvm.Cond.code x code maxLocals ret :: tables_1
/-- a 'code' word, met by the world's own term for the bytes: nothing is compared byte by byte -/
theorem code_word {y : MethodName} {bytes : ByteArray} {mx : Nat} {rt : Option FieldType} {a : Array Value} {s : State} {m : MethodId} {meth : Method} {c : Code} (h1 : s.methodNamed? y = some m) (h2 : s.vm.method? m = some meth) (h3 : meth.code = some c) (h4 : c.code = bytes)
    (h5 : (c.maxLocals == mx && c.exceptionTable.isEmpty && decide (c.maxStack ≤ mostOperands) && decide (meth.sig.returnType = rt) && !meth.locks && decide (parseMethodDescriptor y.desc = some meth.sig)) = true) : (Jvm.Cond.code y bytes mx rt).before a s = true := by
  simp only [Bool.and_eq_true, beq_iff_eq, Bool.not_eq_true', decide_eq_true_eq] at h5
  obtain ⟨⟨⟨⟨⟨g1, g2⟩, g3⟩, g4⟩, g5⟩, g6⟩ := h5
  simp [Cond.before, Cond.holds, Cond.value, h1, h2, h3, h4, g1, g2, g3, g4, g5, g6]
def isCode : Jvm.Cond → Bool
  | .code _ _ _ _ => true
  | _ => false
theorem all_split {L : List Jvm.Cond} {P : Jvm.Cond → Bool} (h1 : L.all (fun c => isCode c || P c) = true) (h2 : ∀ c ∈ L.filter isCode, P c = true) : L.all P = true := by
  refine List.all_eq_true.mpr fun c hc => ?_
  have h := List.all_eq_true.mp h1 c hc
  rcases Bool.eq_false_or_eq_true (isCode c) with hi | hi
  · exact h2 c (List.mem_filter.mpr ⟨hc, hi⟩)
  · simpa [hi] using h
set_option maxRecDepth 65536 in
theorem w_c0 : (Jvm.Cond.code x code maxLocals ret).before args0 about1 = true := code_word (m := ⟨1, 2⟩) (meth := k1m2) (c := k1c2) (by decide +kernel) rfl rfl rfl (by decide +kernel)
set_option maxRecDepth 65536 in
theorem w_c1 : (Jvm.Cond.code ({ cls := "org/shardwright/io/RequestHead", name := "hexValue", desc := "(C)I" } : Jvm.MethodName) prog_12_method_13_code (2 : Nat) (Option.some Jvm.ClassFile.FieldType.int)).before args0 about1 = true := code_word (m := ⟨3, 0⟩) (meth := k3m0) (c := k3c0) (by decide +kernel) rfl rfl rfl (by decide +kernel)
set_option maxRecDepth 65536 in
theorem w_c2 : (Jvm.Cond.code ({ cls := "org/shardwright/io/RequestHead", name := "isDigit", desc := "(C)Z" } : Jvm.MethodName) prog_12_method_15_code (1 : Nat) (Option.some Jvm.ClassFile.FieldType.boolean)).before args0 about1 = true := code_word (m := ⟨3, 1⟩) (meth := k3m1) (c := k3c1) (by decide +kernel) rfl rfl rfl (by decide +kernel)
set_option maxRecDepth 65536 in
theorem w_c3 : (Jvm.Cond.code ({ cls := "org/shardwright/io/RequestHeadHexValuePinLaw", name := "reference", desc := "(C)I" } : Jvm.MethodName) method_2_code (1 : Nat) (Option.some Jvm.ClassFile.FieldType.int)).before args0 about1 = true := code_word (m := ⟨1, 1⟩) (meth := k1m1) (c := k1c1) (by decide +kernel) rfl rfl rfl (by decide +kernel)
def codes1 : List Jvm.Cond := [Jvm.Cond.code x code maxLocals ret, Jvm.Cond.code ({ cls := "org/shardwright/io/RequestHead", name := "hexValue", desc := "(C)I" } : Jvm.MethodName) prog_12_method_13_code (2 : Nat) (Option.some Jvm.ClassFile.FieldType.int), Jvm.Cond.code ({ cls := "org/shardwright/io/RequestHead", name := "isDigit", desc := "(C)Z" } : Jvm.MethodName) prog_12_method_15_code (1 : Nat) (Option.some Jvm.ClassFile.FieldType.boolean), Jvm.Cond.code ({ cls := "org/shardwright/io/RequestHeadHexValuePinLaw", name := "reference", desc := "(C)I" } : Jvm.MethodName) method_2_code (1 : Nat) (Option.some Jvm.ClassFile.FieldType.int)]
set_option maxRecDepth 65536 in
theorem codes_eq : words1.filter isCode = codes1 := rfl
theorem w_codes : ∀ c ∈ words1.filter isCode, c.before args0 about1 = true := by
  rw [codes_eq]
  intro c hc
  simp only [codes1, List.mem_cons, List.not_mem_nil, or_false] at hc
  rcases hc with rfl | rfl | rfl | rfl
  · exact w_c0
  · exact w_c1
  · exact w_c2
  · exact w_c3
set_option maxRecDepth 65536 in
theorem w_t1 : words1.all (fun c => isCode c || c.before args0 about1) = true := by decide +kernel
theorem w_tables : (allAtoms (Jvm.Cond.code x code maxLocals ret :: tables_1)).before args0 about1 = true := by
  rw [allAtoms_all]
  show words1.all (fun c => c.before args0 about1) = true
  refine all_split ?_ w_codes
  rw [w_t1]
set_option maxRecDepth 65536 in
theorem w_case : (Jvm.Cond.and given_1 narrow_1).before args0 about1 = true := by decide +kernel
theorem w_applies : (headSpec (Jvm.Cond.code x code maxLocals ret :: tables_1) room_1).applies x e0.platform about1 = true :=
  (Spec.applies_iff w_frames).mpr ⟨w_running, w_runnable, w_alone, w_named, w_hears, w_ripe, w_room, w_tables⟩
theorem atStart : AtStart classFile x code maxLocals ret World_1 tables_1 room_1 Calls_1 rest_1 Pre_1 launch0 p0 e0 about1 theMethod args0 below0 :=
  ⟨lists_1, trivial, launch0.admits_env _ _ _, launch0.least_env, fairChoices_fair.cas, fairChoices_fair.clock, w_frames, w_args, w_heap, w_applies, trivial, trivial, w_case⟩
end start1
theorem witness_1 : WitnessClaimed_1 := ⟨start1.p0, start1.e0, start1.about1, start1.theMethod, start1.args0, start1.below0, start1.atStart⟩
end Jvm.Pilot.@@N@@
