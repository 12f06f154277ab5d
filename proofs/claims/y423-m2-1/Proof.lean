import JvmDerived
import JvmDerived.Pilot.@@N@@Statement
import JvmDerived.Pilot.@@N@@Code
set_option linter.unusedVariables false
set_option linter.unusedSimpArgs false
namespace Jvm.Pilot.@@N@@
open Jvm Jvm.ClassFile Sem Op Lib Jvm.Free Jvm.Stand Jvm.LawKit Jvm.RoadKit Bundle Jvm.Pilot.@@N@@.Jvm.D
/-- from A the run comes to B -/
abbrev Go (p : Program) (e : Env) (below : List Frame) (A B : State) : Prop := ∀ t, Steps p.tables e below B t → Steps p.tables e below A t
section Own
variable {p : Program} {l : Launch} {e : Env} {R : Room} {s : State} {m : MethodId} {args : Array Value} {below : List Frame} {meth : Method} {c : Code} {T : State} {locs : List Loc} {cells slots : Nat} {t : State} {A : ByteArray} {pc : Nat} {L : Array Slot} {S : List Value}
theorem o_iloadN (X : Stand p l e R s m args below meth c T locs cells slots) (hx : p.tables.exec = Jvm.exec) (hby : c.code = A) {k : Fin 4} {v : Int32} (hd : decode A pc = .ok (.iload_n k, 1)) (n : Nat) (hn : pc + 1 = n) (hl : L[k.val]? = some (.val (.int v))) (hr : Steps p.tables e below (T.setTop (mkF m n L (.int v :: S))) t) : Steps p.tables e below (T.setTop (mkF m pc L S)) t := by
  subst hn; exact XS.iloadN X.here hx rfl (hb hby hd) hl hr
theorem o_lloadN (X : Stand p l e R s m args below meth c T locs cells slots) (hx : p.tables.exec = Jvm.exec) (hby : c.code = A) {k : Fin 4} {v : Int64} (hd : decode A pc = .ok (.lload_n k, 1)) (n : Nat) (hn : pc + 1 = n) (hl : L[k.val]? = some (.val (.long v))) (hr : Steps p.tables e below (T.setTop (mkF m n L (.long v :: S))) t) : Steps p.tables e below (T.setTop (mkF m pc L S)) t := by
  subst hn; exact XS.lloadN X.here hx rfl (hb hby hd) hl hr
theorem o_aloadN (X : Stand p l e R s m args below meth c T locs cells slots) (hx : p.tables.exec = Jvm.exec) (hby : c.code = A) {k : Fin 4} {v : Value} (hd : decode A pc = .ok (.aload_n k, 1)) (n : Nat) (hn : pc + 1 = n) (hl : L[k.val]? = some (.val v)) (hv : v.isRef = true) (hr : Steps p.tables e below (T.setTop (mkF m n L (v :: S))) t) : Steps p.tables e below (T.setTop (mkF m pc L S)) t := by
  subst hn; exact XS.aloadN X.here hx rfl (hb hby hd) hl hv hr
theorem o_istoreN (X : Stand p l e R s m args below meth c T locs cells slots) (hx : p.tables.exec = Jvm.exec) (hby : c.code = A) {k : Fin 4} {v : Int32} {l' : Array Slot} (hd : decode A pc = .ok (.istore_n k, 1)) (n : Nat) (hn : pc + 1 = n) (hl : storeLocals L k.val (.int v) = some l') (hr : Steps p.tables e below (T.setTop (mkF m n l' S)) t) : Steps p.tables e below (T.setTop (mkF m pc L (.int v :: S))) t := by
  subst hn; exact XS.istoreN X.here hx rfl (hb hby hd) rfl hl hr
theorem o_lstoreN (X : Stand p l e R s m args below meth c T locs cells slots) (hx : p.tables.exec = Jvm.exec) (hby : c.code = A) {k : Fin 4} {v : Int64} {l' : Array Slot} (hd : decode A pc = .ok (.lstore_n k, 1)) (n : Nat) (hn : pc + 1 = n) (hl : storeLocals L k.val (.long v) = some l') (hr : Steps p.tables e below (T.setTop (mkF m n l' S)) t) : Steps p.tables e below (T.setTop (mkF m pc L (.long v :: S))) t := by
  subst hn; exact XS.lstoreN X.here hx rfl (hb hby hd) rfl hl hr
theorem o_astoreN (X : Stand p l e R s m args below meth c T locs cells slots) (hx : p.tables.exec = Jvm.exec) (hby : c.code = A) {k : Fin 4} {v : Value} {l' : Array Slot} (hd : decode A pc = .ok (.astore_n k, 1)) (n : Nat) (hn : pc + 1 = n) (hv : v.isRef = true) (hl : storeLocals L k.val v = some l') (hr : Steps p.tables e below (T.setTop (mkF m n l' S)) t) : Steps p.tables e below (T.setTop (mkF m pc L (v :: S))) t := by
  subst hn; exact XS.astoreN X.here hx rfl (hb hby hd) rfl hv hl hr
theorem o_iload (X : Stand p l e R s m args below meth c T locs cells slots) (hx : p.tables.exec = Jvm.exec) (hby : c.code = A) {k : Nat} {v : Int32} (hd : decode A pc = .ok (.iload k, 2)) (n : Nat) (hn : pc + 2 = n) (hl : L[k]? = some (.val (.int v))) (hr : Steps p.tables e below (T.setTop (mkF m n L (.int v :: S))) t) : Steps p.tables e below (T.setTop (mkF m pc L S)) t := by
  subst hn; exact XS.iload X.here hx rfl (hb hby hd) hl hr
theorem o_lload (X : Stand p l e R s m args below meth c T locs cells slots) (hx : p.tables.exec = Jvm.exec) (hby : c.code = A) {k : Nat} {v : Int64} (hd : decode A pc = .ok (.lload k, 2)) (n : Nat) (hn : pc + 2 = n) (hl : L[k]? = some (.val (.long v))) (hr : Steps p.tables e below (T.setTop (mkF m n L (.long v :: S))) t) : Steps p.tables e below (T.setTop (mkF m pc L S)) t := by
  subst hn; exact XS.lload X.here hx rfl (hb hby hd) hl hr
theorem o_aload (X : Stand p l e R s m args below meth c T locs cells slots) (hx : p.tables.exec = Jvm.exec) (hby : c.code = A) {k : Nat} {v : Value} (hd : decode A pc = .ok (.aload k, 2)) (n : Nat) (hn : pc + 2 = n) (hl : L[k]? = some (.val v)) (hv : v.isRef = true) (hr : Steps p.tables e below (T.setTop (mkF m n L (v :: S))) t) : Steps p.tables e below (T.setTop (mkF m pc L S)) t := by
  subst hn; exact XS.aload X.here hx rfl (hb hby hd) hl hv hr
theorem o_istore (X : Stand p l e R s m args below meth c T locs cells slots) (hx : p.tables.exec = Jvm.exec) (hby : c.code = A) {k : Nat} {v : Int32} {l' : Array Slot} (hd : decode A pc = .ok (.istore k, 2)) (n : Nat) (hn : pc + 2 = n) (hl : storeLocals L k (.int v) = some l') (hr : Steps p.tables e below (T.setTop (mkF m n l' S)) t) : Steps p.tables e below (T.setTop (mkF m pc L (.int v :: S))) t := by
  subst hn; exact XS.istore X.here hx rfl (hb hby hd) rfl hl hr
theorem o_lstore (X : Stand p l e R s m args below meth c T locs cells slots) (hx : p.tables.exec = Jvm.exec) (hby : c.code = A) {k : Nat} {v : Int64} {l' : Array Slot} (hd : decode A pc = .ok (.lstore k, 2)) (n : Nat) (hn : pc + 2 = n) (hl : storeLocals L k (.long v) = some l') (hr : Steps p.tables e below (T.setTop (mkF m n l' S)) t) : Steps p.tables e below (T.setTop (mkF m pc L (.long v :: S))) t := by
  subst hn; exact XS.lstore X.here hx rfl (hb hby hd) rfl hl hr
theorem o_astore (X : Stand p l e R s m args below meth c T locs cells slots) (hx : p.tables.exec = Jvm.exec) (hby : c.code = A) {k : Nat} {v : Value} {l' : Array Slot} (hd : decode A pc = .ok (.astore k, 2)) (n : Nat) (hn : pc + 2 = n) (hv : v.isRef = true) (hl : storeLocals L k v = some l') (hr : Steps p.tables e below (T.setTop (mkF m n l' S)) t) : Steps p.tables e below (T.setTop (mkF m pc L (v :: S))) t := by
  subst hn; exact XS.astore X.here hx rfl (hb hby hd) rfl hv hl hr
theorem o_iconst (X : Stand p l e R s m args below meth c T locs cells slots) (hx : p.tables.exec = Jvm.exec) (hby : c.code = A) {i : Int} (hd : decode A pc = .ok (.iconst i, 1)) (n : Nat) (hn : pc + 1 = n) {v : Int32} (hv : Int32.ofInt i = v) (hr : Steps p.tables e below (T.setTop (mkF m n L (.int v :: S))) t) : Steps p.tables e below (T.setTop (mkF m pc L S)) t := by
  subst hn; subst hv; exact XS.iconst X.here hx rfl (hb hby hd) hr
theorem o_bipush (X : Stand p l e R s m args below meth c T locs cells slots) (hx : p.tables.exec = Jvm.exec) (hby : c.code = A) {i : Int} (hd : decode A pc = .ok (.bipush i, 2)) (n : Nat) (hn : pc + 2 = n) {v : Int32} (hv : (Int8.ofInt i).toInt32 = v) (hr : Steps p.tables e below (T.setTop (mkF m n L (.int v :: S))) t) : Steps p.tables e below (T.setTop (mkF m pc L S)) t := by
  subst hn; subst hv; exact XS.bipush X.here hx rfl (hb hby hd) hr
theorem o_sipush (X : Stand p l e R s m args below meth c T locs cells slots) (hx : p.tables.exec = Jvm.exec) (hby : c.code = A) {i : Int} (hd : decode A pc = .ok (.sipush i, 3)) (n : Nat) (hn : pc + 3 = n) {v : Int32} (hv : (Int16.ofInt i).toInt32 = v) (hr : Steps p.tables e below (T.setTop (mkF m n L (.int v :: S))) t) : Steps p.tables e below (T.setTop (mkF m pc L S)) t := by
  subst hn; subst hv; exact XS.sipush X.here hx rfl (hb hby hd) hr
theorem o_lconst (X : Stand p l e R s m args below meth c T locs cells slots) (hx : p.tables.exec = Jvm.exec) (hby : c.code = A) {i : Fin 2} (hd : decode A pc = .ok (.lconst i, 1)) (n : Nat) (hn : pc + 1 = n) {v : Int64} (hv : Int64.ofNat i.val = v) (hr : Steps p.tables e below (T.setTop (mkF m n L (.long v :: S))) t) : Steps p.tables e below (T.setTop (mkF m pc L S)) t := by
  subst hn; subst hv; exact XS.lconst X.here hx rfl (hb hby hd) hr
theorem o_aconstNull (X : Stand p l e R s m args below meth c T locs cells slots) (hx : p.tables.exec = Jvm.exec) (hby : c.code = A) (hd : decode A pc = .ok (.aconst_null, 1)) (n : Nat) (hn : pc + 1 = n) (hr : Steps p.tables e below (T.setTop (mkF m n L (.null :: S))) t) : Steps p.tables e below (T.setTop (mkF m pc L S)) t := by
  subst hn; exact XS.aconstNull X.here hx rfl (hb hby hd) hr
theorem o_iadd (X : Stand p l e R s m args below meth c T locs cells slots) (hx : p.tables.exec = Jvm.exec) (hby : c.code = A) {x y : Int32} (hd : decode A pc = .ok (.iadd, 1)) (n : Nat) (hn : pc + 1 = n) (hr : Steps p.tables e below (T.setTop (mkF m n L (.int (x + y) :: S))) t) : Steps p.tables e below (T.setTop (mkF m pc L (.int y :: .int x :: S))) t := by
  subst hn; exact XS.iadd X.here hx rfl (hb hby hd) rfl hr
theorem o_ladd (X : Stand p l e R s m args below meth c T locs cells slots) (hx : p.tables.exec = Jvm.exec) (hby : c.code = A) {x y : Int64} (hd : decode A pc = .ok (.ladd, 1)) (n : Nat) (hn : pc + 1 = n) (hr : Steps p.tables e below (T.setTop (mkF m n L (.long (x + y) :: S))) t) : Steps p.tables e below (T.setTop (mkF m pc L (.long y :: .long x :: S))) t := by
  subst hn; exact XS.ladd X.here hx rfl (hb hby hd) rfl hr
theorem o_isub (X : Stand p l e R s m args below meth c T locs cells slots) (hx : p.tables.exec = Jvm.exec) (hby : c.code = A) {x y : Int32} (hd : decode A pc = .ok (.isub, 1)) (n : Nat) (hn : pc + 1 = n) (hr : Steps p.tables e below (T.setTop (mkF m n L (.int (x - y) :: S))) t) : Steps p.tables e below (T.setTop (mkF m pc L (.int y :: .int x :: S))) t := by
  subst hn; exact XS.isub X.here hx rfl (hb hby hd) rfl hr
theorem o_lsub (X : Stand p l e R s m args below meth c T locs cells slots) (hx : p.tables.exec = Jvm.exec) (hby : c.code = A) {x y : Int64} (hd : decode A pc = .ok (.lsub, 1)) (n : Nat) (hn : pc + 1 = n) (hr : Steps p.tables e below (T.setTop (mkF m n L (.long (x - y) :: S))) t) : Steps p.tables e below (T.setTop (mkF m pc L (.long y :: .long x :: S))) t := by
  subst hn; exact XS.lsub X.here hx rfl (hb hby hd) rfl hr
theorem o_imul (X : Stand p l e R s m args below meth c T locs cells slots) (hx : p.tables.exec = Jvm.exec) (hby : c.code = A) {x y : Int32} (hd : decode A pc = .ok (.imul, 1)) (n : Nat) (hn : pc + 1 = n) (hr : Steps p.tables e below (T.setTop (mkF m n L (.int (x * y) :: S))) t) : Steps p.tables e below (T.setTop (mkF m pc L (.int y :: .int x :: S))) t := by
  subst hn; exact XS.imul X.here hx rfl (hb hby hd) rfl hr
theorem o_lmul (X : Stand p l e R s m args below meth c T locs cells slots) (hx : p.tables.exec = Jvm.exec) (hby : c.code = A) {x y : Int64} (hd : decode A pc = .ok (.lmul, 1)) (n : Nat) (hn : pc + 1 = n) (hr : Steps p.tables e below (T.setTop (mkF m n L (.long (x * y) :: S))) t) : Steps p.tables e below (T.setTop (mkF m pc L (.long y :: .long x :: S))) t := by
  subst hn; exact XS.lmul X.here hx rfl (hb hby hd) rfl hr
theorem o_iand (X : Stand p l e R s m args below meth c T locs cells slots) (hx : p.tables.exec = Jvm.exec) (hby : c.code = A) {x y : Int32} (hd : decode A pc = .ok (.iand, 1)) (n : Nat) (hn : pc + 1 = n) (hr : Steps p.tables e below (T.setTop (mkF m n L (.int (x &&& y) :: S))) t) : Steps p.tables e below (T.setTop (mkF m pc L (.int y :: .int x :: S))) t := by
  subst hn; exact XS.iand X.here hx rfl (hb hby hd) rfl hr
theorem o_land (X : Stand p l e R s m args below meth c T locs cells slots) (hx : p.tables.exec = Jvm.exec) (hby : c.code = A) {x y : Int64} (hd : decode A pc = .ok (.land, 1)) (n : Nat) (hn : pc + 1 = n) (hr : Steps p.tables e below (T.setTop (mkF m n L (.long (x &&& y) :: S))) t) : Steps p.tables e below (T.setTop (mkF m pc L (.long y :: .long x :: S))) t := by
  subst hn; exact XS.land X.here hx rfl (hb hby hd) rfl hr
theorem o_ior (X : Stand p l e R s m args below meth c T locs cells slots) (hx : p.tables.exec = Jvm.exec) (hby : c.code = A) {x y : Int32} (hd : decode A pc = .ok (.ior, 1)) (n : Nat) (hn : pc + 1 = n) (hr : Steps p.tables e below (T.setTop (mkF m n L (.int (x ||| y) :: S))) t) : Steps p.tables e below (T.setTop (mkF m pc L (.int y :: .int x :: S))) t := by
  subst hn; exact XS.ior X.here hx rfl (hb hby hd) rfl hr
theorem o_lor (X : Stand p l e R s m args below meth c T locs cells slots) (hx : p.tables.exec = Jvm.exec) (hby : c.code = A) {x y : Int64} (hd : decode A pc = .ok (.lor, 1)) (n : Nat) (hn : pc + 1 = n) (hr : Steps p.tables e below (T.setTop (mkF m n L (.long (x ||| y) :: S))) t) : Steps p.tables e below (T.setTop (mkF m pc L (.long y :: .long x :: S))) t := by
  subst hn; exact XS.lor X.here hx rfl (hb hby hd) rfl hr
theorem o_ixor (X : Stand p l e R s m args below meth c T locs cells slots) (hx : p.tables.exec = Jvm.exec) (hby : c.code = A) {x y : Int32} (hd : decode A pc = .ok (.ixor, 1)) (n : Nat) (hn : pc + 1 = n) (hr : Steps p.tables e below (T.setTop (mkF m n L (.int (x ^^^ y) :: S))) t) : Steps p.tables e below (T.setTop (mkF m pc L (.int y :: .int x :: S))) t := by
  subst hn; exact XS.ixor X.here hx rfl (hb hby hd) rfl hr
theorem o_lxor (X : Stand p l e R s m args below meth c T locs cells slots) (hx : p.tables.exec = Jvm.exec) (hby : c.code = A) {x y : Int64} (hd : decode A pc = .ok (.lxor, 1)) (n : Nat) (hn : pc + 1 = n) (hr : Steps p.tables e below (T.setTop (mkF m n L (.long (x ^^^ y) :: S))) t) : Steps p.tables e below (T.setTop (mkF m pc L (.long y :: .long x :: S))) t := by
  subst hn; exact XS.lxor X.here hx rfl (hb hby hd) rfl hr
theorem o_idiv (X : Stand p l e R s m args below meth c T locs cells slots) (hx : p.tables.exec = Jvm.exec) (hby : c.code = A) {x y : Int32} (hd : decode A pc = .ok (.idiv, 1)) (n : Nat) (hn : pc + 1 = n) (hy : ¬ (y = 0)) (hr : Steps p.tables e below (T.setTop (mkF m n L (.int (x / y) :: S))) t) : Steps p.tables e below (T.setTop (mkF m pc L (.int y :: .int x :: S))) t := by
  subst hn; exact XS.idiv X.here hx rfl (hb hby hd) rfl hy hr
theorem o_ldiv (X : Stand p l e R s m args below meth c T locs cells slots) (hx : p.tables.exec = Jvm.exec) (hby : c.code = A) {x y : Int64} (hd : decode A pc = .ok (.ldiv, 1)) (n : Nat) (hn : pc + 1 = n) (hy : ¬ (y = 0)) (hr : Steps p.tables e below (T.setTop (mkF m n L (.long (x / y) :: S))) t) : Steps p.tables e below (T.setTop (mkF m pc L (.long y :: .long x :: S))) t := by
  subst hn; exact XS.ldiv X.here hx rfl (hb hby hd) rfl hy hr
theorem o_irem (X : Stand p l e R s m args below meth c T locs cells slots) (hx : p.tables.exec = Jvm.exec) (hby : c.code = A) {x y : Int32} (hd : decode A pc = .ok (.irem, 1)) (n : Nat) (hn : pc + 1 = n) (hy : ¬ (y = 0)) (hr : Steps p.tables e below (T.setTop (mkF m n L (.int (x % y) :: S))) t) : Steps p.tables e below (T.setTop (mkF m pc L (.int y :: .int x :: S))) t := by
  subst hn; exact XS.irem X.here hx rfl (hb hby hd) rfl hy (by rw [irem_eq_mod]; exact hr)
theorem o_lrem (X : Stand p l e R s m args below meth c T locs cells slots) (hx : p.tables.exec = Jvm.exec) (hby : c.code = A) {x y : Int64} (hd : decode A pc = .ok (.lrem, 1)) (n : Nat) (hn : pc + 1 = n) (hy : ¬ (y = 0)) (hr : Steps p.tables e below (T.setTop (mkF m n L (.long (x % y) :: S))) t) : Steps p.tables e below (T.setTop (mkF m pc L (.long y :: .long x :: S))) t := by
  subst hn; exact XS.lrem X.here hx rfl (hb hby hd) rfl hy (by rw [lrem_mod]; exact hr)
theorem o_ineg (X : Stand p l e R s m args below meth c T locs cells slots) (hx : p.tables.exec = Jvm.exec) (hby : c.code = A) {x : Int32} (hd : decode A pc = .ok (.ineg, 1)) (n : Nat) (hn : pc + 1 = n) (hr : Steps p.tables e below (T.setTop (mkF m n L (.int (-x) :: S))) t) : Steps p.tables e below (T.setTop (mkF m pc L (.int x :: S))) t := by
  subst hn; exact XS.ineg X.here hx rfl (hb hby hd) rfl hr
theorem o_lneg (X : Stand p l e R s m args below meth c T locs cells slots) (hx : p.tables.exec = Jvm.exec) (hby : c.code = A) {x : Int64} (hd : decode A pc = .ok (.lneg, 1)) (n : Nat) (hn : pc + 1 = n) (hr : Steps p.tables e below (T.setTop (mkF m n L (.long (-x) :: S))) t) : Steps p.tables e below (T.setTop (mkF m pc L (.long x :: S))) t := by
  subst hn; exact XS.lneg X.here hx rfl (hb hby hd) rfl hr
theorem o_i2l (X : Stand p l e R s m args below meth c T locs cells slots) (hx : p.tables.exec = Jvm.exec) (hby : c.code = A) {x : Int32} (hd : decode A pc = .ok (.i2l, 1)) (n : Nat) (hn : pc + 1 = n) (hr : Steps p.tables e below (T.setTop (mkF m n L (.long (x.toInt64) :: S))) t) : Steps p.tables e below (T.setTop (mkF m pc L (.int x :: S))) t := by
  subst hn; exact XS.i2l X.here hx rfl (hb hby hd) rfl hr
theorem o_l2i (X : Stand p l e R s m args below meth c T locs cells slots) (hx : p.tables.exec = Jvm.exec) (hby : c.code = A) {x : Int64} (hd : decode A pc = .ok (.l2i, 1)) (n : Nat) (hn : pc + 1 = n) (hr : Steps p.tables e below (T.setTop (mkF m n L (.int (x.toInt32) :: S))) t) : Steps p.tables e below (T.setTop (mkF m pc L (.long x :: S))) t := by
  subst hn; exact XS.l2i X.here hx rfl (hb hby hd) rfl hr
theorem o_i2b (X : Stand p l e R s m args below meth c T locs cells slots) (hx : p.tables.exec = Jvm.exec) (hby : c.code = A) {x : Int32} (hd : decode A pc = .ok (.i2b, 1)) (n : Nat) (hn : pc + 1 = n) (hr : Steps p.tables e below (T.setTop (mkF m n L (.int (x.toInt8.toInt32) :: S))) t) : Steps p.tables e below (T.setTop (mkF m pc L (.int x :: S))) t := by
  subst hn; exact XS.i2b X.here hx rfl (hb hby hd) rfl hr
theorem o_i2s (X : Stand p l e R s m args below meth c T locs cells slots) (hx : p.tables.exec = Jvm.exec) (hby : c.code = A) {x : Int32} (hd : decode A pc = .ok (.i2s, 1)) (n : Nat) (hn : pc + 1 = n) (hr : Steps p.tables e below (T.setTop (mkF m n L (.int (x.toInt16.toInt32) :: S))) t) : Steps p.tables e below (T.setTop (mkF m pc L (.int x :: S))) t := by
  subst hn; exact XS.i2s X.here hx rfl (hb hby hd) rfl hr
theorem o_i2c (X : Stand p l e R s m args below meth c T locs cells slots) (hx : p.tables.exec = Jvm.exec) (hby : c.code = A) {x : Int32} (hd : decode A pc = .ok (.i2c, 1)) (n : Nat) (hn : pc + 1 = n) (hr : Steps p.tables e below (T.setTop (mkF m n L (.int (x.toUInt32.toUInt16.toUInt32.toInt32) :: S))) t) : Steps p.tables e below (T.setTop (mkF m pc L (.int x :: S))) t := by
  subst hn; exact XS.i2c X.here hx rfl (hb hby hd) rfl hr
theorem o_ishl (X : Stand p l e R s m args below meth c T locs cells slots) (hx : p.tables.exec = Jvm.exec) (hby : c.code = A) {x y : Int32} (hd : decode A pc = .ok (.ishl, 1)) (n : Nat) (hn : pc + 1 = n) (hr : Steps p.tables e below (T.setTop (mkF m n L (.int (x <<< (y &&& 31)) :: S))) t) : Steps p.tables e below (T.setTop (mkF m pc L (.int y :: .int x :: S))) t := by
  subst hn; exact XS.ishl X.here hx rfl (hb hby hd) rfl hr
theorem o_ishr (X : Stand p l e R s m args below meth c T locs cells slots) (hx : p.tables.exec = Jvm.exec) (hby : c.code = A) {x y : Int32} (hd : decode A pc = .ok (.ishr, 1)) (n : Nat) (hn : pc + 1 = n) (hr : Steps p.tables e below (T.setTop (mkF m n L (.int (x >>> (y &&& 31)) :: S))) t) : Steps p.tables e below (T.setTop (mkF m pc L (.int y :: .int x :: S))) t := by
  subst hn; exact XS.ishr X.here hx rfl (hb hby hd) rfl hr
theorem o_iushr (X : Stand p l e R s m args below meth c T locs cells slots) (hx : p.tables.exec = Jvm.exec) (hby : c.code = A) {x y : Int32} (hd : decode A pc = .ok (.iushr, 1)) (n : Nat) (hn : pc + 1 = n) (hr : Steps p.tables e below (T.setTop (mkF m n L (.int ((x.toUInt32 >>> (y &&& 31).toUInt32).toInt32) :: S))) t) : Steps p.tables e below (T.setTop (mkF m pc L (.int y :: .int x :: S))) t := by
  subst hn; exact XS.iushr X.here hx rfl (hb hby hd) rfl hr
theorem o_lshl (X : Stand p l e R s m args below meth c T locs cells slots) (hx : p.tables.exec = Jvm.exec) (hby : c.code = A) {x : Int64} {y : Int32} (hd : decode A pc = .ok (.lshl, 1)) (n : Nat) (hn : pc + 1 = n) (hr : Steps p.tables e below (T.setTop (mkF m n L (.long (x <<< (y &&& 0x3f).toInt64) :: S))) t) : Steps p.tables e below (T.setTop (mkF m pc L (.int y :: .long x :: S))) t := by
  subst hn; exact XS.lshl X.here hx rfl (hb hby hd) rfl hr
theorem o_lshr (X : Stand p l e R s m args below meth c T locs cells slots) (hx : p.tables.exec = Jvm.exec) (hby : c.code = A) {x : Int64} {y : Int32} (hd : decode A pc = .ok (.lshr, 1)) (n : Nat) (hn : pc + 1 = n) (hr : Steps p.tables e below (T.setTop (mkF m n L (.long (x >>> (y &&& 0x3f).toInt64) :: S))) t) : Steps p.tables e below (T.setTop (mkF m pc L (.int y :: .long x :: S))) t := by
  subst hn; exact XS.lshr X.here hx rfl (hb hby hd) rfl hr
theorem o_lushr (X : Stand p l e R s m args below meth c T locs cells slots) (hx : p.tables.exec = Jvm.exec) (hby : c.code = A) {x : Int64} {y : Int32} (hd : decode A pc = .ok (.lushr, 1)) (n : Nat) (hn : pc + 1 = n) (hr : Steps p.tables e below (T.setTop (mkF m n L (.long ((x.toUInt64 >>> (y &&& 0x3f).toInt64.toUInt64).toInt64) :: S))) t) : Steps p.tables e below (T.setTop (mkF m pc L (.int y :: .long x :: S))) t := by
  subst hn; exact XS.lushr X.here hx rfl (hb hby hd) rfl hr
theorem o_lcmp (X : Stand p l e R s m args below meth c T locs cells slots) (hx : p.tables.exec = Jvm.exec) (hby : c.code = A) {x y : Int64} (hd : decode A pc = .ok (.lcmp, 1)) (n : Nat) (hn : pc + 1 = n) (hr : Steps p.tables e below (T.setTop (mkF m n L (.int (lcmpW x y) :: S))) t) : Steps p.tables e below (T.setTop (mkF m pc L (.long y :: .long x :: S))) t := by
  subst hn; exact XS.lcmp X.here hx rfl (hb hby hd) rfl hr
theorem o_dup (X : Stand p l e R s m args below meth c T locs cells slots) (hx : p.tables.exec = Jvm.exec) (hby : c.code = A) {x : Value} (hd : decode A pc = .ok (.dup, 1)) (n : Nat) (hn : pc + 1 = n) (hc : x.category = 1) (hr : Steps p.tables e below (T.setTop (mkF m n L (x :: x :: S))) t) : Steps p.tables e below (T.setTop (mkF m pc L (x :: S))) t := by
  subst hn; exact XS.dup X.here hx rfl (hb hby hd) rfl hc hr
theorem o_dupX1 (X : Stand p l e R s m args below meth c T locs cells slots) (hx : p.tables.exec = Jvm.exec) (hby : c.code = A) {x y : Value} (hd : decode A pc = .ok (.dup_x1, 1)) (n : Nat) (hn : pc + 1 = n) (hc : x.category = 1) (hc' : y.category = 1) (hr : Steps p.tables e below (T.setTop (mkF m n L (x :: y :: x :: S))) t) : Steps p.tables e below (T.setTop (mkF m pc L (x :: y :: S))) t := by
  subst hn; exact XT.dupX1 X.here hx rfl (hb hby hd) rfl hc hc' hr
theorem o_dup2 (X : Stand p l e R s m args below meth c T locs cells slots) (hx : p.tables.exec = Jvm.exec) (hby : c.code = A) {x y : Value} (hd : decode A pc = .ok (.dup2, 1)) (n : Nat) (hn : pc + 1 = n) (hc : x.category = 1) (hc' : y.category = 1) (hr : Steps p.tables e below (T.setTop (mkF m n L (x :: y :: x :: y :: S))) t) : Steps p.tables e below (T.setTop (mkF m pc L (x :: y :: S))) t := by
  subst hn; exact XT.dup2 X.here hx rfl (hb hby hd) rfl hc hc' hr
theorem o_iinc (X : Stand p l e R s m args below meth c T locs cells slots) (hx : p.tables.exec = Jvm.exec) (hby : c.code = A) {k : Nat} {cst : Int} {x : Int32} {l' : Array Slot} (hd : decode A pc = .ok (.iinc k cst, 3)) (n : Nat) (hn : pc + 3 = n) (hl : L[k]? = some (.val (.int x))) {i : Int32} (hi : Int32.ofInt cst = i) (hl' : storeLocals L k (.int (x + i)) = some l') (hr : Steps p.tables e below (T.setTop (mkF m n l' S)) t) : Steps p.tables e below (T.setTop (mkF m pc L S)) t := by
  subst hn; subst hi; exact XS.iinc X.here hx rfl (hb hby hd) hl hl' hr
theorem o_pop (X : Stand p l e R s m args below meth c T locs cells slots) (hx : p.tables.exec = Jvm.exec) (hby : c.code = A) {x : Value} (hd : decode A pc = .ok (.pop, 1)) (n : Nat) (hn : pc + 1 = n) (hc : x.category = 1) (hr : Steps p.tables e below (T.setTop (mkF m n L S)) t) : Steps p.tables e below (T.setTop (mkF m pc L (x :: S))) t := by
  subst hn; exact XT.pop X.here hx rfl (hb hby hd) rfl hc hr
theorem o_goto (X : Stand p l e R s m args below meth c T locs cells slots) (hx : p.tables.exec = Jvm.exec) (hby : c.code = A) {o : Int} (hd : decode A pc = .ok (.goto o, 3)) (n : Nat) (hn : (pc : Int) + o = (n : Int)) (hr : Steps p.tables e below (T.setTop (mkF m n L S)) t) : Steps p.tables e below (T.setTop (mkF m pc L S)) t :=
  XS.goto X.here hx rfl (pc0 := pc) (pc' := n) rfl (hb hby hd) (by omega) (by omega) hr
theorem o_ifY (X : Stand p l e R s m args below meth c T locs cells slots) (hx : p.tables.exec = Jvm.exec) (hby : c.code = A) {cd : ClassFile.Cond} {x : Int32} {o : Int} (hd : decode A pc = .ok (.ifCond cd o, 3)) (n : Nat) (hn : (pc : Int) + o = (n : Int)) (hc : if_icmp.holds cd x 0 = true) (hr : Steps p.tables e below (T.setTop (mkF m n L S)) t) : Steps p.tables e below (T.setTop (mkF m pc L (.int x :: S))) t :=
  XS.ifYes X.here hx rfl (pc0 := pc) (pc' := n) rfl (hb hby hd) rfl ((if0 _ _).trans hc) (by omega) (by omega) hr
theorem o_ifN (X : Stand p l e R s m args below meth c T locs cells slots) (hx : p.tables.exec = Jvm.exec) (hby : c.code = A) {cd : ClassFile.Cond} {x : Int32} {o : Int} (hd : decode A pc = .ok (.ifCond cd o, 3)) (n : Nat) (hn : pc + 3 = n) (hc : if_icmp.holds cd x 0 = false) (hr : Steps p.tables e below (T.setTop (mkF m n L S)) t) : Steps p.tables e below (T.setTop (mkF m pc L (.int x :: S))) t := by
  subst hn; exact XS.ifNo X.here hx rfl (hb hby hd) rfl ((if0 _ _).trans hc) hr
theorem o_icmpY (X : Stand p l e R s m args below meth c T locs cells slots) (hx : p.tables.exec = Jvm.exec) (hby : c.code = A) {cd : ClassFile.Cond} {x y : Int32} {o : Int} (hd : decode A pc = .ok (.if_icmp cd o, 3)) (n : Nat) (hn : (pc : Int) + o = (n : Int)) (hc : if_icmp.holds cd x y = true) (hr : Steps p.tables e below (T.setTop (mkF m n L S)) t) : Steps p.tables e below (T.setTop (mkF m pc L (.int y :: .int x :: S))) t :=
  XS.icmpYes X.here hx rfl (pc0 := pc) (pc' := n) rfl (hb hby hd) rfl hc (by omega) (by omega) hr
theorem o_icmpN (X : Stand p l e R s m args below meth c T locs cells slots) (hx : p.tables.exec = Jvm.exec) (hby : c.code = A) {cd : ClassFile.Cond} {x y : Int32} {o : Int} (hd : decode A pc = .ok (.if_icmp cd o, 3)) (n : Nat) (hn : pc + 3 = n) (hc : if_icmp.holds cd x y = false) (hr : Steps p.tables e below (T.setTop (mkF m n L S)) t) : Steps p.tables e below (T.setTop (mkF m pc L (.int y :: .int x :: S))) t := by
  subst hn; exact XS.icmpNo X.here hx rfl (hb hby hd) rfl hc hr
theorem o_ifnullY (X : Stand p l e R s m args below meth c T locs cells slots) (hx : p.tables.exec = Jvm.exec) (hby : c.code = A) {o : Int} (hd : decode A pc = .ok (.ifnull o, 3)) (n : Nat) (hn : (pc : Int) + o = (n : Int)) (hr : Steps p.tables e below (T.setTop (mkF m n L S)) t) : Steps p.tables e below (T.setTop (mkF m pc L (.null :: S))) t :=
  XS.ifnullYes X.here hx rfl (pc0 := pc) (pc' := n) rfl (hb hby hd) rfl (by omega) (by omega) hr
theorem o_ifnullN (X : Stand p l e R s m args below meth c T locs cells slots) (hx : p.tables.exec = Jvm.exec) (hby : c.code = A) {a : Addr} {o : Int} (hd : decode A pc = .ok (.ifnull o, 3)) (n : Nat) (hn : pc + 3 = n) (hr : Steps p.tables e below (T.setTop (mkF m n L S)) t) : Steps p.tables e below (T.setTop (mkF m pc L (.ref a :: S))) t := by
  subst hn; exact XS.ifnullNo X.here hx rfl (hb hby hd) rfl hr
theorem o_ifnonnullY (X : Stand p l e R s m args below meth c T locs cells slots) (hx : p.tables.exec = Jvm.exec) (hby : c.code = A) {a : Addr} {o : Int} (hd : decode A pc = .ok (.ifnonnull o, 3)) (n : Nat) (hn : (pc : Int) + o = (n : Int)) (hr : Steps p.tables e below (T.setTop (mkF m n L S)) t) : Steps p.tables e below (T.setTop (mkF m pc L (.ref a :: S))) t :=
  XS.ifnonnullYes X.here hx rfl (pc0 := pc) (pc' := n) rfl (hb hby hd) rfl (by omega) (by omega) hr
theorem o_ifnonnullN (X : Stand p l e R s m args below meth c T locs cells slots) (hx : p.tables.exec = Jvm.exec) (hby : c.code = A) {o : Int} (hd : decode A pc = .ok (.ifnonnull o, 3)) (n : Nat) (hn : pc + 3 = n) (hr : Steps p.tables e below (T.setTop (mkF m n L S)) t) : Steps p.tables e below (T.setTop (mkF m pc L (.null :: S))) t := by
  subst hn; exact XS.ifnonnullNo X.here hx rfl (hb hby hd) rfl hr
theorem o_acmp (X : Stand p l e R s m args below meth c T locs cells slots) (hx : p.tables.exec = Jvm.exec) (hby : c.code = A) {cd : ClassFile.ACond} {x y : Value} {o : Int} (hd : decode A pc = .ok (.if_acmp cd o, 3)) (n : Nat) {same : Bool} (h1 : x.isRef = true) (h2 : y.isRef = true) (hq : decide (x = y) = same) (ho : 0 ≤ (pc : Int) + o) (hp : n = if acV cd same = true then ((pc : Int) + o).toNat else pc + 3) (hr : Steps p.tables e below (T.setTop (mkF m n L S)) t) : Steps p.tables e below (T.setTop (mkF m pc L (y :: x :: S))) t :=
  Jvm.RoadKit.acmp X hx rfl h1 h2 (pc0 := pc) (pc' := n) rfl (hb hby hd) rfl hq ho hp hr
theorem o_ldcInt (X : Stand p l e R s m args below meth c T locs cells slots) (hx : p.tables.exec = Jvm.exec) (hby : c.code = A) {own : String} {i : Nat} {v : Int32} (hown : s.vm.findClass own = some m.cls) (hc : (Cond.constant own i v).before args s = true) (hd : decode A pc = .ok (.ldc i, 2)) (n : Nat) (hn : pc + 2 = n) (hr : Steps p.tables e below (T.setTop (mkF m n L (.int v :: S))) t) : Steps p.tables e below (T.setTop (mkF m pc L S)) t := by
  subst hn; exact X.ldcInt hx hown hc (g := mkF m pc L S) rfl (hb hby hd) t hr
theorem o_ldcwInt (X : Stand p l e R s m args below meth c T locs cells slots) (hx : p.tables.exec = Jvm.exec) (hby : c.code = A) {own : String} {i : Nat} {v : Int32} (hown : s.vm.findClass own = some m.cls) (hc : (Cond.constant own i v).before args s = true) (hd : decode A pc = .ok (.ldc_w i, 3)) (n : Nat) (hn : pc + 3 = n) (hr : Steps p.tables e below (T.setTop (mkF m n L (.int v :: S))) t) : Steps p.tables e below (T.setTop (mkF m pc L S)) t := by
  subst hn; exact X.ldcwInt hx hown hc (g := mkF m pc L S) rfl (hb hby hd) t hr
theorem o_ldc2Long (X : Stand p l e R s m args below meth c T locs cells slots) (hx : p.tables.exec = Jvm.exec) (hby : c.code = A) {own : String} {i : Nat} {v : Int64} (hown : s.vm.findClass own = some m.cls) (hc : (Cond.constantLong own i v).before args s = true) (hd : decode A pc = .ok (.ldc2_w i, 3)) (n : Nat) (hn : pc + 3 = n) (hr : Steps p.tables e below (T.setTop (mkF m n L (.long v :: S))) t) : Steps p.tables e below (T.setTop (mkF m pc L S)) t := by
  subst hn; exact X.ldc2Long hx hown hc (g := mkF m pc L S) rfl (hb hby hd) t hr
theorem o_b0 : narrow .boolean (.int (0 : Int32)) = .int (0 : Int32) := by decide
theorem o_b1 : narrow .boolean (.int (1 : Int32)) = .int (1 : Int32) := by decide
theorem o_b01 {z : Int32} (h : z = 0 ∨ z = 1) : narrow .boolean (.int z) = .int z := by rcases h with rfl | rfl <;> decide
theorem o_nf {z : Int32} (h : z = 0 ∨ z = 1) : narrow .boolean (.int z) = .int z ∧ fits .boolean (.int z) = true := by rcases h with rfl | rfl <;> decide
theorem o_retZ (X : Stand p l e R s m args below meth c T locs cells slots) (hx : p.tables.exec = Jvm.exec) {Ls : Array Slot} {z : Int32} {rest : List Value} (hret : meth.sig.returnType = some .boolean)
    (hd : decode c.code pc = .ok (.ireturn, 1)) (hz : z = 0 ∨ z = 1) {fs : List Frame} (hl : ∀ (f : JFrame) (acts : List Action), f.method = m → f.locked = none → f.entered = [] → (doReturn e (T.setTop f) acts (some (.int z))).1 = T.setFrames fs) :
    Steps p.tables e below (T.setTop (mkF m pc Ls (.int z :: rest))) (T.setFrames fs) :=
  retOut X hx hret (o_b01 hz) (Or.inl ⟨rfl, Or.inr (Or.inl rfl), z, rfl⟩) hd hl
theorem o_retI (X : Stand p l e R s m args below meth c T locs cells slots) (hx : p.tables.exec = Jvm.exec) {Ls : Array Slot} {z : Int32} {rest : List Value} (hret : meth.sig.returnType = some .int)
    (hd : decode c.code pc = .ok (.ireturn, 1)) {fs : List Frame} (hl : ∀ (f : JFrame) (acts : List Action), f.method = m → f.locked = none → f.entered = [] → (doReturn e (T.setTop f) acts (some (.int z))).1 = T.setFrames fs) :
    Steps p.tables e below (T.setTop (mkF m pc Ls (.int z :: rest))) (T.setFrames fs) :=
  retOut X hx hret rfl (Or.inl ⟨rfl, Or.inl rfl, z, rfl⟩) hd hl
theorem o_retB (X : Stand p l e R s m args below meth c T locs cells slots) (hx : p.tables.exec = Jvm.exec) {Ls : Array Slot} {z : Int32} {rest : List Value} (hret : meth.sig.returnType = some .byte)
    (hd : decode c.code pc = .ok (.ireturn, 1)) (hz : narrow .byte (.int z) = .int z) {fs : List Frame} (hl : ∀ (f : JFrame) (acts : List Action), f.method = m → f.locked = none → f.entered = [] → (doReturn e (T.setTop f) acts (some (.int z))).1 = T.setFrames fs) :
    Steps p.tables e below (T.setTop (mkF m pc Ls (.int z :: rest))) (T.setFrames fs) :=
  retOut X hx hret hz (Or.inl ⟨rfl, Or.inr (Or.inr (Or.inl rfl)), z, rfl⟩) hd hl
theorem o_retJ (X : Stand p l e R s m args below meth c T locs cells slots) (hx : p.tables.exec = Jvm.exec) {Ls : Array Slot} {z : Int64} {rest : List Value} (hret : meth.sig.returnType = some .long)
    (hd : decode c.code pc = .ok (.lreturn, 1)) {fs : List Frame} (hl : ∀ (f : JFrame) (acts : List Action), f.method = m → f.locked = none → f.entered = [] → (doReturn e (T.setTop f) acts (some (.long z))).1 = T.setFrames fs) :
    Steps p.tables e below (T.setTop (mkF m pc Ls (.long z :: rest))) (T.setFrames fs) :=
  retOut X hx hret rfl (Or.inr (Or.inl ⟨rfl, rfl, z, rfl⟩)) hd hl
theorem o_retR (X : Stand p l e R s m args below meth c T locs cells slots) (hx : p.tables.exec = Jvm.exec) {Ls : Array Slot} {w : Value} {ty : FieldType} {rest : List Value} (hret : meth.sig.returnType = some ty) (ht : ty.isReference = true)
    (hd : decode c.code pc = .ok (.areturn, 1)) (hw : w.isRef = true) (hn : narrow ty w = w) {fs : List Frame} (hl : ∀ (f : JFrame) (acts : List Action), f.method = m → f.locked = none → f.entered = [] → (doReturn e (T.setTop f) acts (some w)).1 = T.setFrames fs) :
    Steps p.tables e below (T.setTop (mkF m pc Ls (w :: rest))) (T.setFrames fs) :=
  retOut X hx hret hn (Or.inr (Or.inr (Or.inr (Or.inr ⟨rfl, ht, hw⟩)))) hd hl
end Own

def own_vs (g : Nat → Int32) (n : Int32) : List Value := (List.range n.toNatClampNeg).map fun i => Value.int (g i)
def own_upd (g : Nat → Int32) (j x : Int32) : Nat → Int32 := fun i => if i = j.toNatClampNeg then x else g i
theorem own_len (g : Nat → Int32) (n : Int32) : (own_vs g n).length = n.toNatClampNeg := by simp [own_vs]
theorem own_get (g : Nat → Int32) (n : Int32) (i : Nat) (h : i < n.toNatClampNeg) : (own_vs g n).getD i (.int 0) = .int (g i) := by
  simp [own_vs, List.getD_eq_getElem?_getD, h]
theorem own_vset (g : Nat → Int32) (n j x : Int32) (h : j.toNatClampNeg < n.toNatClampNeg) : (own_vs g n).set j.toNatClampNeg (.int x) = own_vs (own_upd g j x) n := by
  apply List.ext_getElem
  · simp [own_vs]
  · intro i h1 h2
    simp only [own_vs, own_upd, List.getElem_set, List.getElem_map, List.getElem_range]
    by_cases q : j.toNatClampNeg = i
    · rw [if_pos q, if_pos q.symm]
    · rw [if_neg q, if_neg (fun e => q e.symm)]
theorem own_copy (g : Nat → Int32) (n m : Int32) (h : n.toNatClampNeg ≤ m.toNatClampNeg) (h0 : ∀ i, n.toNatClampNeg ≤ i → g i = 0) :
    (List.replicate m.toNatClampNeg (Value.int 0)).take (0 : Int32).toNatClampNeg ++ (List.range n.toNatClampNeg).map (fun i => (own_vs g n).getD ((0 : Int32).toNatClampNeg + i) (.int 0)) ++ (List.replicate m.toNatClampNeg (Value.int 0)).drop ((0 : Int32).toNatClampNeg + n.toNatClampNeg) = own_vs g m := by
  have z : (0 : Int32).toNatClampNeg = 0 := by decide
  rw [z, List.take_zero, List.nil_append, Nat.zero_add, List.drop_replicate]
  apply List.ext_getElem
  · simp [own_vs]; omega
  · intro i h1 h2
    by_cases q : i < n.toNatClampNeg
    · rw [List.getElem_append_left (by simpa using q)]
      simp only [List.getElem_map, List.getElem_range, Nat.zero_add]; rw [own_get g n i q]; simp [own_vs]
    · rw [List.getElem_append_right (by simpa using Nat.le_of_not_lt q)]
      simp only [List.getElem_replicate, own_vs, List.getElem_map, List.getElem_range, h0 i (Nat.le_of_not_lt q)]
theorem own_clamp {x : Int32} (h : ¬ x < 0) : (x.toNatClampNeg : Int) = x.toInt := (nat_of h).symm
theorem own_ne {a b : Int32} (h : a < b) : ¬ b = a := fun e => by subst e; rw [Int32.lt_iff_toInt_lt] at h; omega
theorem own_cap {x : Int32} (h : ¬ x < 0) (q : x.toInt ≤ 8) : x.toNatClampNeg ≤ 8 := by have := own_clamp h; omega
theorem own_lt {a b : Int32} (ha : ¬ a < 0) (hb : ¬ b < 0) (h : a < b) : a.toNatClampNeg < b.toNatClampNeg := by
  have := own_clamp ha; have := own_clamp hb; rw [Int32.lt_iff_toInt_lt] at h; omega
theorem own_nlt {a b : Int32} (ha : ¬ a < 0) (hb : ¬ b < 0) (h : ¬ a < b) : b.toNatClampNeg ≤ a.toNatClampNeg := by
  have := own_clamp ha; have := own_clamp hb; rw [Int32.lt_iff_toInt_lt] at h; omega
theorem own_one {a : Int32} (ha : ¬ a < 0) (h7 : a.toInt ≤ 7) : (a + 1).toInt = a.toInt + 1 := by
  have k := c_iadd a 1; have r := rng32 (a + 1); rw [Int32.lt_iff_toInt_lt] at ha; simp only [Int32.reduceToInt] at ha k; omega
theorem own_nn {a : Int32} (ha : ¬ a < 0) (h7 : a.toInt ≤ 7) : ¬ (a + 1) < 0 := by
  have k := own_one ha h7; rw [Int32.lt_iff_toInt_lt] at ha ⊢; simp only [Int32.reduceToInt] at ha ⊢; omega
theorem own_up {a n : Int32} (ha : ¬ a < 0) (h7 : a.toInt ≤ 7) (h : ¬ a < n) : n < a + 1 := by
  have k := own_one ha h7; rw [Int32.lt_iff_toInt_lt] at h ⊢; omega
theorem own_in1 {a : Int32} (ha : ¬ a < 0) (h7 : a.toInt ≤ 7) : a < a + 1 := by
  have k := own_one ha h7; rw [Int32.lt_iff_toInt_lt]; omega
theorem own_upd0 {g : Nat → Int32} {n j x : Int32} (h0 : ∀ i, n.toNatClampNeg ≤ i → g i = 0) (h : j.toNatClampNeg < n.toNatClampNeg) : ∀ i, n.toNatClampNeg ≤ i → own_upd g j x i = 0 := fun i hi => by
  unfold own_upd; rw [if_neg (by omega)]; exact h0 i hi
theorem own_more {g : Nat → Int32} {n n' : Int32} (h0 : ∀ i, n.toNatClampNeg ≤ i → g i = 0) (h : n.toNatClampNeg ≤ n'.toNatClampNeg) : ∀ i, n'.toNatClampNeg ≤ i → g i = 0 := fun i hi => h0 i (by omega)
theorem d6_0 : decode jdk_29_method_69_code 0 = .ok (.iload_n 0, 1) := by decide +kernel
theorem d6_1 : decode jdk_29_method_69_code 1 = .ok (.iload_n 1, 1) := by decide +kernel
theorem d6_2 : decode jdk_29_method_69_code 2 = .ok (.if_icmp .gt 7, 3) := by decide +kernel
theorem d6_5 : decode jdk_29_method_69_code 5 = .ok (.iload_n 0, 1) := by decide +kernel
theorem d6_6 : decode jdk_29_method_69_code 6 = .ok (.goto 4, 3) := by decide +kernel
theorem d6_9 : decode jdk_29_method_69_code 9 = .ok (.iload_n 1, 1) := by decide +kernel
theorem d6_10 : decode jdk_29_method_69_code 10 = .ok (.ireturn, 1) := by decide +kernel
theorem ef_6 (m : MethodId) (x0 : Int32) (x1 : Int32) : entryFrame m #[(.int x0), (.int x1)] 2 = mkF m 0 #[.val (.int x0), .val (.int x1)] [] := by first | (simp [entryFrame, mkF, argsToLocals, Value.category]; done) | rfl
def Fmin (p0 : Int32) (p1 : Int32) : Int32 := let v1 : Int32 := (if p1 < p0 then p1 else p0); v1
def Q6 (Z : State) (p0 : Int32) (p1 : Int32) (h0 : Heap) (n0 : Nat) (v : Option Value) (h : Heap) (L : List Loc) : Prop := v = some (.int (Fmin p0 p1)) ∧ Fr n0 L ∧ h = h0
set_option maxRecDepth 65536 in
set_option maxHeartbeats 40000000 in
theorem rm6 (l : Launch) (Z : State) (aw : Array Value) (hw : ∀ d ∈ tables_1, d.before aw Z = true) (ws : List Jvm.Cond) (p0 : Int32) (p1 : Int32) (h0 : Heap) (n0 : Nat) (Z0 : n0 ≤ h0.size) :
    MetFree l (⟨"java/lang/Math", "min", "(II)I"⟩ : MethodName) (head1 (Jvm.Cond.code (⟨"java/lang/Math", "min", "(II)I"⟩ : MethodName) jdk_29_method_69_code 2 (some .int) :: ws) ({ frames := 0, cells := 0, slots := 0, locals := 0 } : Room)) (fun a U => a = #[(.int p0), (.int p1)] ∧ Z.Warmed39 U.vm ∧ U.heap = h0) (fun _ _ _ _ _ => True) (fun _ U o U' => ∃ v L, o = .returned v ∧ Q6 Z p0 p1 h0 n0 v U'.heap L ∧ FrameEnd U o U' L ({ frames := 0, cells := 0, slots := 0, locals := 0 } : Room).cells ({ frames := 0, cells := 0, slots := 0, locals := 0 } : Room).slots) := by
  refine MetFree.of_bodySF (Jvm.Free.JP.mathPlain rfl (by decide +kernel)) hisR ?_
  intro p e s m args below meth c s₁ Bd hml0 hP hK
  obtain ⟨rfl, hZ, hh⟩ := hP
  have hx := Bd.exec
  have hby := Bd.bytes
  have hml : c.maxLocals = 2 := hml0
  have hown : s.vm.findClass "java/lang/Math" = some m.cls := findClass_of_methodNamed Bd.named
  have hnm := (name_of_methodNamed Bd.named Bd.method).1
  have X0 : Stand p l e ({ frames := 0, cells := 0, slots := 0, locals := 0 } : Room) s m #[(.int p0), (.int p1)] below meth c s₁ [] 0 0 := Stand.of_body Bd
  have e0 : s₁.heap = h0 := by rw [← hh, Bd.state]; rfl
  have N0 := Fr.nil n0
  obtain ⟨A0, hA0⟩ : ∃ A0, A0 = s₁.setTop (entryFrame m #[(.int p0), (.int p1)] 2) := ⟨_, rfl⟩
  have go0 : Go p e below A0 (s₁.setTop (mkF m 0 #[.val (.int p0), .val (.int p1)] [])) := fun t k => by rw [hA0]; exact castTop (ef_6 m p0 p1) k
  have go1 : Go p e below A0 (s₁.setTop (mkF m 2 #[.val (.int p0), .val (.int p1)] [(.int p1), (.int p0)])) := by
    intro t k
    refine go0 t ?_
    refine o_iloadN X0 hx hby d6_0 1 rfl rfl ?_
    refine o_iloadN X0 hx hby d6_1 2 rfl rfl ?_
    exact k
  obtain ⟨v1, hv1, go4⟩ : ∃ (v1 : Int32), v1 = (if p1 < p0 then p1 else p0) ∧ Go p e below A0 (s₁.setTop (mkF m 10 #[.val (.int p0), .val (.int p1)] [(.int v1)])) := by
    by_cases hc2_1 : p1 < p0
    · have go2 : Go p e below A0 (s₁.setTop (mkF m 10 #[.val (.int p0), .val (.int p1)] [(.int p1)])) := by
        intro t k
        refine go1 t ?_
        refine o_icmpY X0 hx hby d6_2 9 rfl (tlt hc2_1).2.2.1 ?_
        refine o_iloadN X0 hx hby d6_9 10 rfl rfl ?_
        exact k
      exact ⟨p1, (if_pos hc2_1).symm, go2⟩
    · have go3 : Go p e below A0 (s₁.setTop (mkF m 10 #[.val (.int p0), .val (.int p1)] [(.int p0)])) := by
        intro t k
        refine go1 t ?_
        refine o_icmpN X0 hx hby d6_2 5 rfl (flt hc2_1).2.2.1 ?_
        refine o_iloadN X0 hx hby d6_5 6 rfl rfl ?_
        refine o_goto X0 hx hby d6_6 10 rfl ?_
        exact k
      exact ⟨p0, (if_neg hc2_1).symm, go3⟩
  have hF : v1 = Fmin p0 p1 := by subst hv1; rfl
  subst hA0
  obtain ⟨fs, hr, hrun, hended, hW, hsame⟩ := X0.leave (v := some (.int v1)) (fun h => by rw [Bd.returns] at h; cases h)
  refine ⟨_, _, go4 _ (o_retI X0 hx Bd.returns (hb hby d6_10) hr), hrun, hended, _, _, rfl, ?_, ⟨_, rfl⟩, hW, hsame.mono (by decide) (by decide)⟩
  show Q6 Z p0 p1 h0 n0 _ s₁.heap _
  rw [e0]
  exact ⟨congrArg (fun z => some (Value.int z)) hF, N0, rfl⟩
theorem d5_0 : decode jdk_65_method_123_code 0 = .ok (.iload_n 1, 1) := by decide +kernel
theorem d5_1 : decode jdk_65_method_123_code 1 = .ok (.aload_n 0, 1) := by decide +kernel
theorem d5_2 : decode jdk_65_method_123_code 2 = .ok (.arraylength, 1) := by decide +kernel
theorem d5_3 : decode jdk_65_method_123_code 3 = .ok (.if_icmp .ne 11, 3) := by decide +kernel
theorem d5_6 : decode jdk_65_method_123_code 6 = .ok (.aload_n 0, 1) := by decide +kernel
theorem d5_7 : decode jdk_65_method_123_code 7 = .ok (.invokevirtual 316, 3) := by decide +kernel
theorem d5_10 : decode jdk_65_method_123_code 10 = .ok (.checkcast 317, 3) := by decide +kernel
theorem d5_13 : decode jdk_65_method_123_code 13 = .ok (.areturn, 1) := by decide +kernel
theorem d5_14 : decode jdk_65_method_123_code 14 = .ok (.iload_n 1, 1) := by decide +kernel
theorem d5_15 : decode jdk_65_method_123_code 15 = .ok (.newarray .int, 2) := by decide +kernel
theorem d5_17 : decode jdk_65_method_123_code 17 = .ok (.astore_n 2, 1) := by decide +kernel
theorem d5_18 : decode jdk_65_method_123_code 18 = .ok (.aload_n 0, 1) := by decide +kernel
theorem d5_19 : decode jdk_65_method_123_code 19 = .ok (.iconst 0, 1) := by decide +kernel
theorem d5_20 : decode jdk_65_method_123_code 20 = .ok (.aload_n 2, 1) := by decide +kernel
theorem d5_21 : decode jdk_65_method_123_code 21 = .ok (.iconst 0, 1) := by decide +kernel
theorem d5_22 : decode jdk_65_method_123_code 22 = .ok (.aload_n 0, 1) := by decide +kernel
theorem d5_23 : decode jdk_65_method_123_code 23 = .ok (.arraylength, 1) := by decide +kernel
theorem d5_24 : decode jdk_65_method_123_code 24 = .ok (.iload_n 1, 1) := by decide +kernel
theorem d5_25 : decode jdk_65_method_123_code 25 = .ok (.invokestatic 304, 3) := by decide +kernel
theorem d5_28 : decode jdk_65_method_123_code 28 = .ok (.invokestatic 150, 3) := by decide +kernel
theorem d5_31 : decode jdk_65_method_123_code 31 = .ok (.aload_n 2, 1) := by decide +kernel
theorem d5_32 : decode jdk_65_method_123_code 32 = .ok (.areturn, 1) := by decide +kernel
theorem pn_5 : plainName "java/util/Arrays" = true := by first | (simp [plainName, overriddenIn]; done) | decide +kernel
theorem pd_1 : parseMethodDescriptor "(II)I" = some ⟨[.int, .int], some .int⟩ := by decide +kernel
theorem ef_5 (m : MethodId) (x0 : Addr) (x1 : Int32) : entryFrame m #[(.ref x0), (.int x1)] 3 = mkF m 0 #[.val (.ref x0), .val (.int x1), .unset] [] := by first | (simp [entryFrame, mkF, argsToLocals, Value.category]; done) | rfl
def Q5 (Z : State) (a0 : Addr) (p1 : Int32) (ka : ClassId) (n : Int32) (g : Nat → Int32) (h0 : Heap) (n0 : Nat) (v : Option Value) (h : Heap) (L : List Loc) : Prop := ∃ kb : ClassId, ∃ b : Addr, v = some (.ref b) ∧ Fr n0 L ∧ Keep h0 h [] ∧ h0.size ≤ b ∧ Arv Z h b kb .int p1 (own_vs g p1) (.int (0 : Int32)) ∧ True
set_option maxRecDepth 65536 in
set_option maxHeartbeats 40000000 in
theorem rm5 (l : Launch) (Z : State) (aw : Array Value) (hw : ∀ d ∈ tables_1, d.before aw Z = true) (ws : List Jvm.Cond) (a0 : Addr) (p1 : Int32) (ka : ClassId) (n : Int32) (g : Nat → Int32) (h0 : Heap) (n0 : Nat) (Z0 : n0 ≤ h0.size) (r0 : Arv Z h0 a0 ka .int n (own_vs g n) (.int (0 : Int32))) (hlt : (n < p1)) (hnn : (¬ p1 < 0)) (hp : (p1.toInt ≤ 8)) (h0g : (∀ i, n.toNatClampNeg ≤ i → g i = 0)) :
    MetFree l (⟨"java/util/Arrays", "copyOf", "([II)[I"⟩ : MethodName) (head1 (Jvm.Cond.code (⟨"java/util/Arrays", "copyOf", "([II)[I"⟩ : MethodName) jdk_65_method_123_code 3 (some (.array .int)) :: ws) ({ frames := 1, cells := 1, slots := 8, locals := 40 } : Room)) (fun a U => a = #[(.ref a0), (.int p1)] ∧ Z.Warmed39 U.vm ∧ U.heap = h0) (fun _ _ _ _ _ => True) (fun _ U o U' => ∃ v L, o = .returned v ∧ Q5 Z a0 p1 ka n g h0 n0 v U'.heap L ∧ FrameEnd U o U' L ({ frames := 1, cells := 1, slots := 8, locals := 40 } : Room).cells ({ frames := 1, cells := 1, slots := 8, locals := 40 } : Room).slots) := by
  refine MetFree.of_bodySF (plainFor_of_name pn_5) hisR ?_
  intro p e s m args below meth c s₁ Bd hml0 hP hK
  obtain ⟨rfl, hZ, hh⟩ := hP
  have hx := Bd.exec
  have hby := Bd.bytes
  have hml : c.maxLocals = 3 := hml0
  have hown : s.vm.findClass "java/util/Arrays" = some m.cls := findClass_of_methodNamed Bd.named
  have hnm := (name_of_methodNamed Bd.named Bd.method).1
  have X0 : Stand p l e ({ frames := 1, cells := 1, slots := 8, locals := 40 } : Room) s m #[(.ref a0), (.int p1)] below meth c s₁ [] 0 0 := Stand.of_body Bd
  have e0 : s₁.heap = h0 := by rw [← hh, Bd.state]; rfl
  have N0 := Fr.nil n0
  obtain ⟨A0, hA0⟩ : ∃ A0, A0 = s₁.setTop (entryFrame m #[(.ref a0), (.int p1)] 3) := ⟨_, rfl⟩
  have go0 : Go p e below A0 (s₁.setTop (mkF m 0 #[.val (.ref a0), .val (.int p1), .unset] [])) := fun t k => by rw [hA0]; exact castTop (ef_5 m a0 p1) k
  obtain ⟨cl1, Ar1, q1, S1, M1, H1, G1⟩ := id r0
  obtain ⟨T2, h2, k2, X2, e2, E2, A2, st2⟩ := newP X0 hx hZ (hw _ (List.mem_of_getElem? (i := 9) rfl)) e0 (g := (mkF m 15 #[.val (.ref a0), .val (.int p1), .unset] [(.int p1)])) rfl (hb hby d5_15) rfl hnn (cap := 8) (own_cap hnn hp) (by decide) (by decide) (by decide)
  obtain ⟨b2, g2⟩ : ∃ z, z = h0.size := ⟨_, rfl⟩
  rw [← g2] at A2 st2
  have ne_a0_b2 : a0 ≠ b2 := Nat.ne_of_lt (Nat.lt_of_lt_of_le r0.lt (Nat.le_of_eq g2.symm))
  have g_b2 : n0 ≤ b2 := Nat.le_trans Z0 (Nat.le_of_eq g2.symm)
  have sz_b2 : h0.size ≤ b2 := Nat.le_trans (Keep.refl h0 []).1 (Nat.le_of_eq g2.symm)
  have f1 : Arv Z h2 a0 ka .int n (own_vs g n) (.int (0 : Int32)) := r0.ext E2
  have Zp2 : n0 ≤ h2.size := Nat.le_trans Z0 E2.1
  have K2 : Keep h0 h2 [] := (Keep.refl h0 []).ext E2
  have f2 : Arv Z h2 b2 k2 .int p1 [] (.int (0 : Int32)) := Arv.new A2 hnn
  obtain ⟨cl3, Ar3, q3, S3, M3, H3, G3⟩ := id f1
  have go1 : Go p e below A0 (T2.setTop (mkF m 25 #[.val (.ref a0), .val (.int p1), .val (.ref b2)] [(.int p1), (.int n), (.int (0 : Int32)), (.ref b2), (.int (0 : Int32)), (.ref a0)])) := by
    intro t k
    refine go0 t ?_
    refine o_iloadN X0 hx hby d5_0 1 rfl rfl ?_
    refine o_aloadN X0 hx hby d5_1 2 rfl rfl rfl ?_
    refine X0.arraylength hx (by rw [e0]; exact Ar1.1) (State.isArrayOf_alike hZ.alike Ar1.2.1) (g := (mkF m 2 #[.val (.ref a0), .val (.int p1), .unset] [(.ref a0), (.int p1)])) rfl rfl (hb hby d5_2) _ ?_
    rw [len_of S1 M1]
    show Steps p.tables e below (s₁.setTop (mkF m 3 #[.val (.ref a0), .val (.int p1), .unset] [(.int n), (.int p1)])) _
    refine o_icmpY X0 hx hby d5_3 14 rfl (feq (own_ne hlt)).2 ?_
    refine o_iloadN X0 hx hby d5_14 15 rfl rfl ?_
    refine st2 _ ?_
    show Steps p.tables e below (T2.setTop (mkF m 17 #[.val (.ref a0), .val (.int p1), .unset] [(.ref b2)])) _
    refine o_astoreN X2 hx hby d5_17 18 rfl rfl (l' := #[.val (.ref a0), .val (.int p1), .val (.ref b2)]) rfl ?_
    refine o_aloadN X2 hx hby d5_18 19 rfl rfl rfl ?_
    refine o_iconst X2 hx hby d5_19 20 rfl (v := (0 : Int32)) rfl ?_
    refine o_aloadN X2 hx hby d5_20 21 rfl rfl rfl ?_
    refine o_iconst X2 hx hby d5_21 22 rfl (v := (0 : Int32)) rfl ?_
    refine o_aloadN X2 hx hby d5_22 23 rfl rfl rfl ?_
    refine X2.arraylength hx (by rw [e2]; exact Ar3.1) (State.isArrayOf_alike hZ.alike Ar3.2.1) (g := (mkF m 23 #[.val (.ref a0), .val (.int p1), .val (.ref b2)] [(.ref a0), (.int (0 : Int32)), (.ref b2), (.int (0 : Int32)), (.ref a0)])) rfl rfl (hb hby d5_23) _ ?_
    rw [len_of S3 M3]
    show Steps p.tables e below (T2.setTop (mkF m 24 #[.val (.ref a0), .val (.int p1), .val (.ref b2)] [(.int n), (.int (0 : Int32)), (.ref b2), (.int (0 : Int32)), (.ref a0)])) _
    refine o_iloadN X2 hx hby d5_24 25 rfl rfl ?_
    exact k
  obtain ⟨_, _, ⟨T4, L4, k4, n4⟩, -, X4, ⟨Lc4, hQ4, l4, y4, z4⟩, st4⟩ := Jvm.LawKit.callS X2 hx (y := (⟨"java/lang/Math", "min", "(II)I"⟩ : MethodName)) hown (mvT hZ (hw _ (List.mem_of_getElem? (i := 26) rfl))) (mvT hZ (hw _ (List.mem_of_getElem? (i := 27) rfl))) (mvT hZ (hw _ (List.mem_of_getElem? (i := 28) rfl))) (mvT hZ (hw _ (List.mem_of_getElem? (i := 29) rfl))) (by decide) (backOf (W := 4) (rm6 l Z aw hw [] n p1 h2 n0 Zp2) hZ (hw _ (List.mem_of_getElem? (i := 29) rfl)) (hw _ (List.mem_of_getElem? (i := 28) rfl)) (by decide) (by decide)) (g := (mkF m 25 #[.val (.ref a0), .val (.int p1), .val (.ref b2)] [(.int p1), (.int n), (.int (0 : Int32)), (.ref b2), (.int (0 : Int32)), (.ref a0)])) rfl (by rw [hml]; rfl) (argsL := [(.int n), (.int p1)]) (rest := [(.int (0 : Int32)), (.ref b2), (.int (0 : Int32)), (.ref a0)]) (lenOf pd_1 rfl) rfl (by show 2 * 0 + _ ≤ _; exact Nat.le_of_eq rfl) (hb hby d5_25) (fun _ _ => ⟨rfl, e2, (by decide : 1 + 0 ≤ _), (by decide : 8 + 0 ≤ _)⟩)
  dsimp only [Pt.U, Pt.locs, Pt.cells, Pt.slots] at X4 l4 y4 z4 st4 hQ4
  subst l4 y4 z4
  obtain ⟨rfl, N4q, e4⟩ := hQ4
  have N4 := Fr.app N0 N4q
  have go2 : Go p e below A0 (T4.setTop (mkF m 28 #[.val (.ref a0), .val (.int p1), .val (.ref b2)] [(.int (Fmin n p1)), (.int (0 : Int32)), (.ref b2), (.int (0 : Int32)), (.ref a0)])) := by
    intro t k
    refine go1 t ?_
    refine st4 _ ?_
    show Steps p.tables e below (T4.setTop (mkF m 28 #[.val (.ref a0), .val (.int p1), .val (.ref b2)] [(.int (Fmin n p1)), (.int (0 : Int32)), (.ref b2), (.int (0 : Int32)), (.ref a0)])) _
    exact k
  obtain ⟨v1, hv1, go3⟩ : ∃ v1 : Int32, v1 = (Fmin n p1) ∧ Go p e below A0 (T4.setTop (mkF m 28 #[.val (.ref a0), .val (.int p1), .val (.ref b2)] [(.int v1), (.int (0 : Int32)), (.ref b2), (.int (0 : Int32)), (.ref a0)])) := ⟨_, rfl, go2⟩
  obtain rfl : n = v1 := by rw [hv1]; unfold Fmin; exact Eq.symm <| if_neg (fun q => own_ne hlt (Int32.toInt_inj.mp (by rw [Int32.lt_iff_toInt_lt] at q; have h' := hlt; rw [Int32.lt_iff_toInt_lt] at h'; omega)))
  have M5 : ¬ n < 0 := by obtain ⟨_, _, _, _, M, _⟩ := id f1; exact M
  have P5 : Arv Z h2 b2 k2 .int p1 (List.replicate p1.toNatClampNeg (.int 0)) (.int (0 : Int32)) := f2.pad (pad_rep [] (.int (0 : Int32)) p1.toNatClampNeg)
  obtain ⟨T5, h5, L5, X5, e5, N5, K5q, V5, st5⟩ := cpA X4 hx hZ hown (hw _ (List.mem_of_getElem? (i := 30) rfl)) (hw _ (List.mem_of_getElem? (i := 33) rfl)) (hw _ (List.mem_of_getElem? (i := 31) rfl)) (hw _ (List.mem_of_getElem? (i := 32) rfl)) e4 f1 P5 (Or.inl ⟨rfl, rfl⟩) (by decide) (by decide) M5 (Nat.le_of_eq (Nat.zero_add _)) (by show 0 + _ ≤ _; rw [Nat.zero_add]; exact Nat.le_of_lt (own_lt M5 hnn hlt)) rfl (by rw [List.length_replicate]; show 0 + _ ≤ _; rw [Nat.zero_add]; exact Nat.le_of_lt (own_lt M5 hnn hlt)) N4 g_b2 (g := (mkF m 28 #[.val (.ref a0), .val (.int p1), .val (.ref b2)] [(.int n), (.int (0 : Int32)), (.ref b2), (.int (0 : Int32)), (.ref a0)])) rfl (by rw [hml]; rfl) (rest := []) rfl (hb hby d5_28) (by decide) (W := 0) (by show 2 * 0 + _ ≤ _; exact Nat.le_of_eq rfl) (by decide)
  have f3 : Arv Z h5 a0 ka .int n (own_vs g n) (.int (0 : Int32)) := f1.keep K5q (ninS ne_a0_b2 nin0)
  have Zp5 : n0 ≤ h5.size := Nat.le_trans Zp2 K5q.1
  have K5 : Keep h0 h5 [] := Keep.trans K2 K5q (allS (P := fun x => x ∈ ([] : List Addr) ∨ h0.size ≤ x) (Or.inr sz_b2) all0)
  rw [own_copy g n p1 (Nat.le_of_lt (own_lt M5 hnn hlt)) h0g] at V5
  have f4 : Arv Z h5 b2 k2 .int p1 (own_vs g p1) (.int (0 : Int32)) := V5
  have go4 : Go p e below A0 (T5.setTop (mkF m 32 #[.val (.ref a0), .val (.int p1), .val (.ref b2)] [(.ref b2)])) := by
    intro t k
    refine go3 t ?_
    refine st5 _ ?_
    show Steps p.tables e below (T5.setTop (mkF m 31 #[.val (.ref a0), .val (.int p1), .val (.ref b2)] [])) _
    refine o_aloadN X5 hx hby d5_31 32 rfl rfl rfl ?_
    exact k
  subst hA0
  obtain ⟨fs, hr, hrun, hended, hW, hsame⟩ := X5.leave (v := some (.ref b2)) (fun h => by rw [Bd.returns] at h; cases h)
  refine ⟨_, _, go4 _ (o_retR X5 hx Bd.returns rfl (hb hby d5_32) rfl rfl hr), hrun, hended, _, _, rfl, ?_, ⟨_, rfl⟩, hW, hsame.mono (by decide) (by decide)⟩
  show Q5 Z a0 p1 ka n g h0 n0 _ T5.heap _
  rw [e5]
  exact ⟨k2, b2, rfl, N5, K5, sz_b2, f4, trivial⟩
theorem d1_0 : decode prog_16_method_1_code 0 = .ok (.aload_n 0, 1) := by decide +kernel
theorem d1_1 : decode prog_16_method_1_code 1 = .ok (.invokespecial 1, 3) := by decide +kernel
theorem d1_4 : decode prog_16_method_1_code 4 = .ok (.aload_n 0, 1) := by decide +kernel
theorem d1_5 : decode prog_16_method_1_code 5 = .ok (.iconst 0, 1) := by decide +kernel
theorem d1_6 : decode prog_16_method_1_code 6 = .ok (.newarray .int, 2) := by decide +kernel
theorem d1_8 : decode prog_16_method_1_code 8 = .ok (.putfield 7, 3) := by decide +kernel
theorem d1_11 : decode prog_16_method_1_code 11 = .ok (.return_, 1) := by decide +kernel
theorem pn_1 : plainName "com/example/racelint/racelint/check/VectorClock" = true := by first | (simp [plainName, overriddenIn]; done) | decide +kernel
theorem ef_1 (m : MethodId) (x0 : Addr) : entryFrame m #[(.ref x0)] 1 = mkF m 0 #[.val (.ref x0)] [] := by first | (simp [entryFrame, mkF, argsToLocals, Value.category]; done) | rfl
def Q1 (Z : State) (a0 : Addr) (h0 : Heap) (n0 : Nat) (v : Option Value) (h : Heap) (L : List Loc) : Prop := ∃ kb : ClassId, ∃ b : Addr, v = none ∧ Fr n0 L ∧ Keep h0 h [a0] ∧ h0.size ≤ b ∧ Fld Z h a0 "com/example/racelint/racelint/check/VectorClock" "epochs" "[I" (.ref b) ∧ Arv Z h b kb .int (0 : Int32) (own_vs (fun _ => (0 : Int32)) (0 : Int32)) (.int (0 : Int32)) ∧ n0 ≤ b ∧ a0 ≠ b ∧ ((0 : Int32).toInt ≤ 8) ∧ (∀ i, (0 : Int32).toNatClampNeg ≤ i → (fun _ => (0 : Int32)) i = 0) ∧ True
set_option maxRecDepth 65536 in
set_option maxHeartbeats 40000000 in
theorem rm1 (l : Launch) (Z : State) (aw : Array Value) (hw : ∀ d ∈ tables_1, d.before aw Z = true) (ws : List Jvm.Cond) (a0 : Addr) (h0 : Heap) (n0 : Nat) (Z0 : n0 ≤ h0.size) (r0 : Exa Z h0 a0 "com/example/racelint/racelint/check/VectorClock") (r1 : n0 ≤ a0) (r2 : Fld Z h0 a0 "com/example/racelint/racelint/check/VectorClock" "epochs" "[I" .null) :
    MetFree l (⟨"com/example/racelint/racelint/check/VectorClock", "<init>", "()V"⟩ : MethodName) (head1 (Jvm.Cond.code (⟨"com/example/racelint/racelint/check/VectorClock", "<init>", "()V"⟩ : MethodName) prog_16_method_1_code 1 none :: ws) ({ frames := 1, cells := 1, slots := 0, locals := 12 } : Room)) (fun a U => a = #[(.ref a0)] ∧ Z.Warmed39 U.vm ∧ U.heap = h0) (fun _ _ _ _ _ => True) (fun _ U o U' => ∃ v L, o = .returned v ∧ Q1 Z a0 h0 n0 v U'.heap L ∧ FrameEnd U o U' L ({ frames := 1, cells := 1, slots := 0, locals := 12 } : Room).cells ({ frames := 1, cells := 1, slots := 0, locals := 12 } : Room).slots) := by
  refine MetFree.of_bodySF (plainFor_of_name pn_1) hisR ?_
  intro p e s m args below meth c s₁ Bd hml0 hP hK
  obtain ⟨rfl, hZ, hh⟩ := hP
  have hx := Bd.exec
  have hby := Bd.bytes
  have hml : c.maxLocals = 1 := hml0
  have hown : s.vm.findClass "com/example/racelint/racelint/check/VectorClock" = some m.cls := findClass_of_methodNamed Bd.named
  have hnm := (name_of_methodNamed Bd.named Bd.method).1
  have X0 : Stand p l e ({ frames := 1, cells := 1, slots := 0, locals := 12 } : Room) s m #[(.ref a0)] below meth c s₁ [] 0 0 := Stand.of_body Bd
  have e0 : s₁.heap = h0 := by rw [← hh, Bd.state]; rfl
  have N0 := Fr.nil n0
  obtain ⟨A0, hA0⟩ : ∃ A0, A0 = s₁.setTop (entryFrame m #[(.ref a0)] 1) := ⟨_, rfl⟩
  have go0 : Go p e below A0 (s₁.setTop (mkF m 0 #[.val (.ref a0)] [])) := fun t k => by rw [hA0]; exact castTop (ef_1 m a0) k
  obtain ⟨T1, X1, e1, st1⟩ := initO X0 hx hZ hown (hw _ (List.mem_of_getElem? (i := 6) rfl)) (hw _ (List.mem_of_getElem? (i := 7) rfl)) (hw _ (List.mem_of_getElem? (i := 8) rfl)) e0 (g := (mkF m 1 #[.val (.ref a0)] [(.ref a0)])) rfl (by rw [hml]; rfl) rfl (hb hby d1_1) (by decide) (W := 0) (by show 2 * 0 + _ ≤ _; exact Nat.le_of_eq rfl) (by decide)
  obtain ⟨T2, h2, k2, X2, e2, E2, A2, st2⟩ := newP X1 hx hZ (hw _ (List.mem_of_getElem? (i := 9) rfl)) e1 (g := (mkF m 6 #[.val (.ref a0)] [(.int (0 : Int32)), (.ref a0)])) rfl (hb hby d1_6) rfl (by decide) (cap := 0) (by decide) (by decide) (by decide) (by decide)
  obtain ⟨b2, g2⟩ : ∃ z, z = h0.size := ⟨_, rfl⟩
  rw [← g2] at A2 st2
  have ne_a0_b2 : a0 ≠ b2 := Nat.ne_of_lt (Nat.lt_of_lt_of_le r0.lt (Nat.le_of_eq g2.symm))
  have g_b2 : n0 ≤ b2 := Nat.le_trans Z0 (Nat.le_of_eq g2.symm)
  have sz_b2 : h0.size ≤ b2 := Nat.le_trans (Keep.refl h0 [a0]).1 (Nat.le_of_eq g2.symm)
  have f1 : Exa Z h2 a0 "com/example/racelint/racelint/check/VectorClock" := r0.ext E2
  have f2 : Fld Z h2 a0 "com/example/racelint/racelint/check/VectorClock" "epochs" "[I" .null := r2.ext E2
  have Zp2 : n0 ≤ h2.size := Nat.le_trans Z0 E2.1
  have K2 : Keep h0 h2 [a0] := (Keep.refl h0 [a0]).ext E2
  have f3 : Arv Z h2 b2 k2 .int (0 : Int32) [] (.int (0 : Int32)) := (Arv.new A2 (by decide)).pad (pad_rep [] (.int (0 : Int32)) 0)
  have go1 : Go p e below A0 (T2.setTop (mkF m 8 #[.val (.ref a0)] [(.ref b2), (.ref a0)])) := by
    intro t k
    refine go0 t ?_
    refine o_aloadN X0 hx hby d1_0 1 rfl rfl rfl ?_
    refine st1 _ ?_
    refine o_aloadN X1 hx hby d1_4 5 rfl rfl rfl ?_
    refine o_iconst X1 hx hby d1_5 6 rfl (v := (0 : Int32)) rfl ?_
    refine st2 _ ?_
    show Steps p.tables e below (T2.setTop (mkF m 8 #[.val (.ref a0)] [(.ref b2), (.ref a0)])) _
    exact k
  obtain ⟨T3, h3, X3, e3, W3, st3⟩ := putF X2 hx hZ hown (host := "") (Or.inl (hw _ (List.mem_of_getElem? (i := 10) rfl))) Via.refl e2 f2 f1 (Or.inl (hw _ (List.mem_of_getElem? (i := 11) rfl))) (hw _ (List.mem_of_getElem? (i := 1) rfl)) (ty := (.array .int)) (by decide) rfl rfl (g := (mkF m 8 #[.val (.ref a0)] [(.ref b2), (.ref a0)])) rfl rfl (hb hby d1_8)
  have f4 : Exa Z h3 a0 "com/example/racelint/racelint/check/VectorClock" := f1.wr W3
  have f5 : Arv Z h3 b2 k2 .int (0 : Int32) [] (.int (0 : Int32)) := f3.other W3 (Ne.symm ne_a0_b2)
  have Zp3 : n0 ≤ h3.size := Nat.le_trans Zp2 (Keep.of_wr W3).1
  have K3 : Keep h0 h3 [a0] := K2.wr W3 (Or.inl (List.mem_of_getElem? (i := 0) rfl))
  have N3 := Fr.snoc X3 N0 r1
  have f6 : Fld Z h3 a0 "com/example/racelint/racelint/check/VectorClock" "epochs" "[I" (.ref b2) := f2.same W3
  have go2 : Go p e below A0 (T3.setTop (mkF m 11 #[.val (.ref a0)] [])) := by
    intro t k
    refine go1 t ?_
    refine st3 _ ?_
    show Steps p.tables e below (T3.setTop (mkF m 11 #[.val (.ref a0)] [])) _
    exact k
  subst hA0
  obtain ⟨fs, hr, hrun, hended, hW, hsame⟩ := X3.leave (v := none) (fun _ => rfl)
  refine ⟨_, _, go2 _ (X3.returnOut hx Bd.returns (hb hby d1_11) hr), hrun, hended, _, _, rfl, ?_, ⟨_, rfl⟩, hW, hsame.mono (by decide) (by decide)⟩
  show Q1 Z a0 h0 n0 _ T3.heap _
  rw [e3]
  exact ⟨k2, b2, rfl, N3, K3, sz_b2, f6, f5, g_b2, ne_a0_b2, (by decide), (fun _ _ => rfl), trivial⟩
theorem d3_0 : decode prog_16_method_2_code 0 = .ok (.iload_n 1, 1) := by decide +kernel
theorem d3_1 : decode prog_16_method_2_code 1 = .ok (.aload_n 0, 1) := by decide +kernel
theorem d3_2 : decode prog_16_method_2_code 2 = .ok (.getfield 7, 3) := by decide +kernel
theorem d3_5 : decode prog_16_method_2_code 5 = .ok (.arraylength, 1) := by decide +kernel
theorem d3_6 : decode prog_16_method_2_code 6 = .ok (.if_icmp .ge 12, 3) := by decide +kernel
theorem d3_9 : decode prog_16_method_2_code 9 = .ok (.aload_n 0, 1) := by decide +kernel
theorem d3_10 : decode prog_16_method_2_code 10 = .ok (.getfield 7, 3) := by decide +kernel
theorem d3_13 : decode prog_16_method_2_code 13 = .ok (.iload_n 1, 1) := by decide +kernel
theorem d3_14 : decode prog_16_method_2_code 14 = .ok (.iaload, 1) := by decide +kernel
theorem d3_15 : decode prog_16_method_2_code 15 = .ok (.goto 4, 3) := by decide +kernel
theorem d3_18 : decode prog_16_method_2_code 18 = .ok (.iconst 0, 1) := by decide +kernel
theorem d3_19 : decode prog_16_method_2_code 19 = .ok (.ireturn, 1) := by decide +kernel
theorem ef_3 (m : MethodId) (x0 : Addr) (x1 : Int32) : entryFrame m #[(.ref x0), (.int x1)] 2 = mkF m 0 #[.val (.ref x0), .val (.int x1)] [] := by first | (simp [entryFrame, mkF, argsToLocals, Value.category]; done) | rfl
def Q3 (Z : State) (a0 : Addr) (p1 : Int32) (d0 : Addr) (kd : ClassId) (n : Int32) (g : Nat → Int32) (h0 : Heap) (n0 : Nat) (v : Option Value) (h : Heap) (L : List Loc) : Prop := v = some (.int (g p1.toNatClampNeg)) ∧ Fr n0 L ∧ h = h0
set_option maxRecDepth 65536 in
set_option maxHeartbeats 40000000 in
theorem rm3 (l : Launch) (Z : State) (aw : Array Value) (hw : ∀ d ∈ tables_1, d.before aw Z = true) (ws : List Jvm.Cond) (a0 : Addr) (p1 : Int32) (d0 : Addr) (kd : ClassId) (n : Int32) (g : Nat → Int32) (h0 : Heap) (n0 : Nat) (Z0 : n0 ≤ h0.size) (r0 : Fld Z h0 a0 "com/example/racelint/racelint/check/VectorClock" "epochs" "[I" (.ref d0)) (r1 : Arv Z h0 d0 kd .int n (own_vs g n) (.int (0 : Int32))) (hp1 : (¬ p1 < 0)) (h0g : (∀ i, n.toNatClampNeg ≤ i → g i = 0)) :
    MetFree l (⟨"com/example/racelint/racelint/check/VectorClock", "get", "(I)I"⟩ : MethodName) (head1 (Jvm.Cond.code (⟨"com/example/racelint/racelint/check/VectorClock", "get", "(I)I"⟩ : MethodName) prog_16_method_2_code 2 (some .int) :: ws) ({ frames := 0, cells := 0, slots := 0, locals := 0 } : Room)) (fun a U => a = #[(.ref a0), (.int p1)] ∧ Z.Warmed39 U.vm ∧ U.heap = h0) (fun _ _ _ _ _ => True) (fun _ U o U' => ∃ v L, o = .returned v ∧ Q3 Z a0 p1 d0 kd n g h0 n0 v U'.heap L ∧ FrameEnd U o U' L ({ frames := 0, cells := 0, slots := 0, locals := 0 } : Room).cells ({ frames := 0, cells := 0, slots := 0, locals := 0 } : Room).slots) := by
  refine MetFree.of_bodySF (plainFor_of_name pn_1) hisR ?_
  intro p e s m args below meth c s₁ Bd hml0 hP hK
  obtain ⟨rfl, hZ, hh⟩ := hP
  have hx := Bd.exec
  have hby := Bd.bytes
  have hml : c.maxLocals = 2 := hml0
  have hown : s.vm.findClass "com/example/racelint/racelint/check/VectorClock" = some m.cls := findClass_of_methodNamed Bd.named
  have hnm := (name_of_methodNamed Bd.named Bd.method).1
  have X0 : Stand p l e ({ frames := 0, cells := 0, slots := 0, locals := 0 } : Room) s m #[(.ref a0), (.int p1)] below meth c s₁ [] 0 0 := Stand.of_body Bd
  have e0 : s₁.heap = h0 := by rw [← hh, Bd.state]; rfl
  have N0 := Fr.nil n0
  obtain ⟨A0, hA0⟩ : ∃ A0, A0 = s₁.setTop (entryFrame m #[(.ref a0), (.int p1)] 2) := ⟨_, rfl⟩
  have go0 : Go p e below A0 (s₁.setTop (mkF m 0 #[.val (.ref a0), .val (.int p1)] [])) := fun t k => by rw [hA0]; exact castTop (ef_3 m a0 p1) k
  obtain ⟨T1, X1, e1, st1⟩ := getF X0 hx hZ hown (host := "") (Or.inl (hw _ (List.mem_of_getElem? (i := 10) rfl))) Via.refl e0 r0 (g := (mkF m 2 #[.val (.ref a0), .val (.int p1)] [(.ref a0), (.int p1)])) rfl rfl (hb hby d3_2)
  obtain ⟨cl2, Ar2, q2, S2, M2, H2, G2⟩ := id r1
  have go1 : Go p e below A0 (T1.setTop (mkF m 6 #[.val (.ref a0), .val (.int p1)] [(.int n), (.int p1)])) := by
    intro t k
    refine go0 t ?_
    refine o_iloadN X0 hx hby d3_0 1 rfl rfl ?_
    refine o_aloadN X0 hx hby d3_1 2 rfl rfl rfl ?_
    refine st1 _ ?_
    show Steps p.tables e below (T1.setTop (mkF m 5 #[.val (.ref a0), .val (.int p1)] [(.ref d0), (.int p1)])) _
    refine X1.arraylength hx (by rw [e1]; exact Ar2.1) (State.isArrayOf_alike hZ.alike Ar2.2.1) (g := (mkF m 5 #[.val (.ref a0), .val (.int p1)] [(.ref d0), (.int p1)])) rfl rfl (hb hby d3_5) _ ?_
    rw [len_of S2 M2]
    show Steps p.tables e below (T1.setTop (mkF m 6 #[.val (.ref a0), .val (.int p1)] [(.int n), (.int p1)])) _
    exact k
  obtain ⟨T6, l6, v1, X6, N6, e6, hv1, go4⟩ : ∃ (T6 : State) (l6 : List Loc) (v1 : Int32), Stand p l e ({ frames := 0, cells := 0, slots := 0, locals := 0 } : Room) s m #[(.ref a0), (.int p1)] below meth c T6 l6 0 0 ∧ Fr n0 l6 ∧ T6.heap = h0 ∧ v1 = (if p1 < n then (g p1.toNatClampNeg) else (0 : Int32)) ∧ Go p e below A0 (T6.setTop (mkF m 19 #[.val (.ref a0), .val (.int p1)] [(.int v1)])) := by
    by_cases hc6_3 : p1 < n
    · obtain ⟨T4, X4, e4, st4⟩ := getF X1 hx hZ hown (host := "") (Or.inl (hw _ (List.mem_of_getElem? (i := 10) rfl))) Via.refl e1 r0 (g := (mkF m 10 #[.val (.ref a0), .val (.int p1)] [(.ref a0)])) rfl rfl (hb hby d3_10)
      obtain ⟨cl5, Ar5, q5, S5, M5, H5, G5⟩ := id r1
      have hin5 : ¬ (p1 < 0 ∨ cl5.slots.size ≤ (p1).toNatClampNeg) := inb_of S5 ⟨hp1, hc6_3⟩
      have hat5 : cl5.slots[(p1).toNatClampNeg]? = some (.int (g p1.toNatClampNeg)) := H5.at hin5 (own_get g n _ (own_lt hp1 M5 hc6_3))
      have go2 : Go p e below A0 (T4.setTop (mkF m 19 #[.val (.ref a0), .val (.int p1)] [(.int (g p1.toNatClampNeg))])) := by
        intro t k
        refine go1 t ?_
        refine o_icmpN X1 hx hby d3_6 9 rfl (tlt hc6_3).2.1 ?_
        refine o_aloadN X1 hx hby d3_9 10 rfl rfl rfl ?_
        refine st4 _ ?_
        show Steps p.tables e below (T4.setTop (mkF m 13 #[.val (.ref a0), .val (.int p1)] [(.ref d0)])) _
        refine o_iloadN X4 hx hby d3_13 14 rfl rfl ?_
        refine X4.iaload hx (j := p1) (v := (.int (g p1.toNatClampNeg))) (by rw [e4]; exact Ar5.1) (State.isArrayOf_alike hZ.alike Ar5.2.1) Ar5.2.2 hin5 hat5 (g := (mkF m 14 #[.val (.ref a0), .val (.int p1)] [(.int p1), (.ref d0)])) rfl rfl (hb hby d3_14) _ ?_
        show Steps p.tables e below (T4.setTop (mkF m 15 #[.val (.ref a0), .val (.int p1)] [(.int (g p1.toNatClampNeg))])) _
        refine o_goto X4 hx hby d3_15 19 rfl ?_
        exact k
      exact ⟨T4, _, (g p1.toNatClampNeg), X4, N0, e4, (if_pos hc6_3).symm, go2⟩
    · have go3 : Go p e below A0 (T1.setTop (mkF m 19 #[.val (.ref a0), .val (.int p1)] [(.int (0 : Int32))])) := by
        intro t k
        refine go1 t ?_
        refine o_icmpY X1 hx hby d3_6 18 rfl (flt hc6_3).2.1 ?_
        refine o_iconst X1 hx hby d3_18 19 rfl (v := (0 : Int32)) rfl ?_
        exact k
      exact ⟨T1, _, (0 : Int32), X1, N0, e1, (if_neg hc6_3).symm, go3⟩
  have hF : v1 = (g p1.toNatClampNeg) := by
    obtain ⟨_, _, _, _, M, _⟩ := id r1
    rw [hv1]
    split
    · rfl
    · rename_i q; exact (h0g _ (own_nlt hp1 M q)).symm
  subst hA0
  obtain ⟨fs, hr, hrun, hended, hW, hsame⟩ := X6.leave (v := some (.int v1)) (fun h => by rw [Bd.returns] at h; cases h)
  refine ⟨_, _, go4 _ (o_retI X6 hx Bd.returns (hb hby d3_19) hr), hrun, hended, _, _, rfl, ?_, ⟨_, rfl⟩, hW, hsame.mono (by decide) (by decide)⟩
  show Q3 Z a0 p1 d0 kd n g h0 n0 _ T6.heap _
  rw [e6]
  exact ⟨congrArg (fun z => some (Value.int z)) hF, N6, rfl⟩
theorem d4_0 : decode prog_16_method_3_code 0 = .ok (.iload_n 1, 1) := by decide +kernel
theorem d4_1 : decode prog_16_method_3_code 1 = .ok (.aload_n 0, 1) := by decide +kernel
theorem d4_2 : decode prog_16_method_3_code 2 = .ok (.getfield 7, 3) := by decide +kernel
theorem d4_5 : decode prog_16_method_3_code 5 = .ok (.arraylength, 1) := by decide +kernel
theorem d4_6 : decode prog_16_method_3_code 6 = .ok (.if_icmp .lt 17, 3) := by decide +kernel
theorem d4_9 : decode prog_16_method_3_code 9 = .ok (.aload_n 0, 1) := by decide +kernel
theorem d4_10 : decode prog_16_method_3_code 10 = .ok (.aload_n 0, 1) := by decide +kernel
theorem d4_11 : decode prog_16_method_3_code 11 = .ok (.getfield 7, 3) := by decide +kernel
theorem d4_14 : decode prog_16_method_3_code 14 = .ok (.iload_n 1, 1) := by decide +kernel
theorem d4_15 : decode prog_16_method_3_code 15 = .ok (.iconst 1, 1) := by decide +kernel
theorem d4_16 : decode prog_16_method_3_code 16 = .ok (.iadd, 1) := by decide +kernel
theorem d4_17 : decode prog_16_method_3_code 17 = .ok (.invokestatic 13, 3) := by decide +kernel
theorem d4_20 : decode prog_16_method_3_code 20 = .ok (.putfield 7, 3) := by decide +kernel
theorem d4_23 : decode prog_16_method_3_code 23 = .ok (.aload_n 0, 1) := by decide +kernel
theorem d4_24 : decode prog_16_method_3_code 24 = .ok (.getfield 7, 3) := by decide +kernel
theorem d4_27 : decode prog_16_method_3_code 27 = .ok (.iload_n 1, 1) := by decide +kernel
theorem d4_28 : decode prog_16_method_3_code 28 = .ok (.iload_n 2, 1) := by decide +kernel
theorem d4_29 : decode prog_16_method_3_code 29 = .ok (.iastore, 1) := by decide +kernel
theorem d4_30 : decode prog_16_method_3_code 30 = .ok (.return_, 1) := by decide +kernel
theorem pd_3 : parseMethodDescriptor "([II)[I" = some ⟨[(.array .int), .int], some (.array .int)⟩ := by decide +kernel
theorem ef_4 (m : MethodId) (x0 : Addr) (x1 : Int32) (x2 : Int32) : entryFrame m #[(.ref x0), (.int x1), (.int x2)] 3 = mkF m 0 #[.val (.ref x0), .val (.int x1), .val (.int x2)] [] := by first | (simp [entryFrame, mkF, argsToLocals, Value.category]; done) | rfl
def Q4 (Z : State) (a0 : Addr) (p1 : Int32) (p2 : Int32) (d0 : Addr) (kd : ClassId) (n : Int32) (g : Nat → Int32) (h0 : Heap) (n0 : Nat) (v : Option Value) (h : Heap) (L : List Loc) : Prop := ∃ b : Addr, ∃ kb : ClassId, ∃ n2 : Int32, v = none ∧ Fr n0 L ∧ Keep h0 h [a0, d0] ∧ Fld Z h a0 "com/example/racelint/racelint/check/VectorClock" "epochs" "[I" (.ref b) ∧ Arv Z h b kb .int n2 (own_vs (own_upd g p1 p2) n2) (.int (0 : Int32)) ∧ n0 ≤ b ∧ a0 ≠ b ∧ (n2.toInt ≤ 8) ∧ (∀ i, n2.toNatClampNeg ≤ i → (own_upd g p1 p2) i = 0) ∧ True
set_option maxRecDepth 65536 in
set_option maxHeartbeats 40000000 in
theorem rm4 (l : Launch) (Z : State) (aw : Array Value) (hw : ∀ d ∈ tables_1, d.before aw Z = true) (ws : List Jvm.Cond) (a0 : Addr) (p1 : Int32) (p2 : Int32) (d0 : Addr) (kd : ClassId) (n : Int32) (g : Nat → Int32) (h0 : Heap) (n0 : Nat) (Z0 : n0 ≤ h0.size) (r0 : Exa Z h0 a0 "com/example/racelint/racelint/check/VectorClock") (r1 : n0 ≤ a0) (r2 : Fld Z h0 a0 "com/example/racelint/racelint/check/VectorClock" "epochs" "[I" (.ref d0)) (r3 : Arv Z h0 d0 kd .int n (own_vs g n) (.int (0 : Int32))) (r4 : n0 ≤ d0) (r5 : a0 ≠ d0) (hp1 : (¬ p1 < 0)) (hp2 : (p1.toInt ≤ 7)) (hn : (n.toInt ≤ 8)) (h0g : (∀ i, n.toNatClampNeg ≤ i → g i = 0)) :
    MetFree l (⟨"com/example/racelint/racelint/check/VectorClock", "set", "(II)V"⟩ : MethodName) (head1 (Jvm.Cond.code (⟨"com/example/racelint/racelint/check/VectorClock", "set", "(II)V"⟩ : MethodName) prog_16_method_3_code 3 none :: ws) ({ frames := 2, cells := 1, slots := 8, locals := 55 } : Room)) (fun a U => a = #[(.ref a0), (.int p1), (.int p2)] ∧ Z.Warmed39 U.vm ∧ U.heap = h0) (fun _ _ _ _ _ => True) (fun _ U o U' => ∃ v L, o = .returned v ∧ Q4 Z a0 p1 p2 d0 kd n g h0 n0 v U'.heap L ∧ FrameEnd U o U' L ({ frames := 2, cells := 1, slots := 8, locals := 55 } : Room).cells ({ frames := 2, cells := 1, slots := 8, locals := 55 } : Room).slots) := by
  refine MetFree.of_bodySF (plainFor_of_name pn_1) hisR ?_
  intro p e s m args below meth c s₁ Bd hml0 hP hK
  obtain ⟨rfl, hZ, hh⟩ := hP
  have hx := Bd.exec
  have hby := Bd.bytes
  have hml : c.maxLocals = 3 := hml0
  have hown : s.vm.findClass "com/example/racelint/racelint/check/VectorClock" = some m.cls := findClass_of_methodNamed Bd.named
  have hnm := (name_of_methodNamed Bd.named Bd.method).1
  have X0 : Stand p l e ({ frames := 2, cells := 1, slots := 8, locals := 55 } : Room) s m #[(.ref a0), (.int p1), (.int p2)] below meth c s₁ [] 0 0 := Stand.of_body Bd
  have e0 : s₁.heap = h0 := by rw [← hh, Bd.state]; rfl
  have N0 := Fr.nil n0
  obtain ⟨A0, hA0⟩ : ∃ A0, A0 = s₁.setTop (entryFrame m #[(.ref a0), (.int p1), (.int p2)] 3) := ⟨_, rfl⟩
  have go0 : Go p e below A0 (s₁.setTop (mkF m 0 #[.val (.ref a0), .val (.int p1), .val (.int p2)] [])) := fun t k => by rw [hA0]; exact castTop (ef_4 m a0 p1 p2) k
  obtain ⟨T1, X1, e1, st1⟩ := getF X0 hx hZ hown (host := "") (Or.inl (hw _ (List.mem_of_getElem? (i := 10) rfl))) Via.refl e0 r2 (g := (mkF m 2 #[.val (.ref a0), .val (.int p1), .val (.int p2)] [(.ref a0), (.int p1)])) rfl rfl (hb hby d4_2)
  obtain ⟨cl2, Ar2, q2, S2, M2, H2, G2⟩ := id r3
  have go1 : Go p e below A0 (T1.setTop (mkF m 6 #[.val (.ref a0), .val (.int p1), .val (.int p2)] [(.int n), (.int p1)])) := by
    intro t k
    refine go0 t ?_
    refine o_iloadN X0 hx hby d4_0 1 rfl rfl ?_
    refine o_aloadN X0 hx hby d4_1 2 rfl rfl rfl ?_
    refine st1 _ ?_
    show Steps p.tables e below (T1.setTop (mkF m 5 #[.val (.ref a0), .val (.int p1), .val (.int p2)] [(.ref d0), (.int p1)])) _
    refine X1.arraylength hx (by rw [e1]; exact Ar2.1) (State.isArrayOf_alike hZ.alike Ar2.2.1) (g := (mkF m 5 #[.val (.ref a0), .val (.int p1), .val (.int p2)] [(.ref d0), (.int p1)])) rfl rfl (hb hby d4_5) _ ?_
    rw [len_of S2 M2]
    show Steps p.tables e below (T1.setTop (mkF m 6 #[.val (.ref a0), .val (.int p1), .val (.int p2)] [(.int n), (.int p1)])) _
    exact k
  by_cases hc6_3 : p1 < n
  · obtain ⟨T4, X4, e4, st4⟩ := getF X1 hx hZ hown (host := "") (Or.inl (hw _ (List.mem_of_getElem? (i := 10) rfl))) Via.refl e1 r2 (g := (mkF m 24 #[.val (.ref a0), .val (.int p1), .val (.int p2)] [(.ref a0)])) rfl rfl (hb hby d4_24)
    have go2 : Go p e below A0 (T4.setTop (mkF m 29 #[.val (.ref a0), .val (.int p1), .val (.int p2)] [(.int p2), (.int p1), (.ref d0)])) := by
      intro t k
      refine go1 t ?_
      refine o_icmpY X1 hx hby d4_6 23 rfl (tlt hc6_3).1 ?_
      refine o_aloadN X1 hx hby d4_23 24 rfl rfl rfl ?_
      refine st4 _ ?_
      show Steps p.tables e below (T4.setTop (mkF m 27 #[.val (.ref a0), .val (.int p1), .val (.int p2)] [(.ref d0)])) _
      refine o_iloadN X4 hx hby d4_27 28 rfl rfl ?_
      refine o_iloadN X4 hx hby d4_28 29 rfl rfl ?_
      exact k
    obtain ⟨cl5, Ar5, q5, S5, M5, H5, G5⟩ := id r3
    have hin5 : ¬ (p1 < 0 ∨ cl5.slots.size ≤ (p1).toNatClampNeg) := inb_of S5 ⟨hp1, hc6_3⟩
    obtain ⟨T5, h5, X5, e5, W5, st5⟩ := stI X4 hx hZ e4 Ar5 (j := p1) hin5 (g := (mkF m 29 #[.val (.ref a0), .val (.int p1), .val (.int p2)] [(.int p2), (.int p1), (.ref d0)])) rfl rfl (hb hby d4_29)
    have f1 : Exa Z h5 a0 "com/example/racelint/racelint/check/VectorClock" := r0.wr W5
    have f2 : Fld Z h5 a0 "com/example/racelint/racelint/check/VectorClock" "epochs" "[I" (.ref d0) := r2.other W5 (Or.inl r5)
    have Zp5 : n0 ≤ h5.size := Nat.le_trans Z0 (Keep.of_wr W5).1
    have K5 : Keep h0 h5 [a0, d0] := (Keep.refl h0 [a0, d0]).wr W5 (Or.inl (List.mem_of_getElem? (i := 1) rfl))
    have N5 := Fr.snoc X5 N0 r4
    have f3 : Arv Z h5 d0 kd .int n ((own_vs g n).set p1.toNatClampNeg (.int p2)) (.int (0 : Int32)) := Arv.set Ar5 q5 S5 M5 H5 G5 rfl W5 p1.toNatClampNeg rfl (by rw [own_len]; exact own_lt hp1 M5 hc6_3)
    have go3 : Go p e below A0 (T5.setTop (mkF m 30 #[.val (.ref a0), .val (.int p1), .val (.int p2)] [])) := by
      intro t k
      refine go2 t ?_
      refine st5 _ ?_
      show Steps p.tables e below (T5.setTop (mkF m 30 #[.val (.ref a0), .val (.int p1), .val (.int p2)] [])) _
      exact k
    subst hA0
    obtain ⟨fs, hr, hrun, hended, hW, hsame⟩ := X5.leave (v := none) (fun _ => rfl)
    refine ⟨_, _, go3 _ (X5.returnOut hx Bd.returns (hb hby d4_30) hr), hrun, hended, _, _, rfl, ?_, ⟨_, rfl⟩, hW, hsame.mono (by decide) (by decide)⟩
    show Q4 Z a0 p1 p2 d0 kd n g h0 n0 _ T5.heap _
    rw [e5]
    exact ⟨d0, kd, n, rfl, N5, K5, f2, (by rw [← own_vset g _ p1 p2 (own_lt hp1 (by obtain ⟨_, _, _, _, M, _⟩ := id r3; exact M) hc6_3)]; exact f3), r4, r5, hn, (own_upd0 h0g (own_lt hp1 (by obtain ⟨_, _, _, _, M, _⟩ := id r3; exact M) hc6_3)), trivial⟩
  · obtain ⟨T6, X6, e6, st6⟩ := getF X1 hx hZ hown (host := "") (Or.inl (hw _ (List.mem_of_getElem? (i := 10) rfl))) Via.refl e1 r2 (g := (mkF m 11 #[.val (.ref a0), .val (.int p1), .val (.int p2)] [(.ref a0), (.ref a0)])) rfl rfl (hb hby d4_11)
    have go4 : Go p e below A0 (T6.setTop (mkF m 17 #[.val (.ref a0), .val (.int p1), .val (.int p2)] [(.int (p1 + (1 : Int32))), (.ref d0), (.ref a0)])) := by
      intro t k
      refine go1 t ?_
      refine o_icmpN X1 hx hby d4_6 9 rfl (flt hc6_3).1 ?_
      refine o_aloadN X1 hx hby d4_9 10 rfl rfl rfl ?_
      refine o_aloadN X1 hx hby d4_10 11 rfl rfl rfl ?_
      refine st6 _ ?_
      show Steps p.tables e below (T6.setTop (mkF m 14 #[.val (.ref a0), .val (.int p1), .val (.int p2)] [(.ref d0), (.ref a0)])) _
      refine o_iloadN X6 hx hby d4_14 15 rfl rfl ?_
      refine o_iconst X6 hx hby d4_15 16 rfl (v := (1 : Int32)) rfl ?_
      refine o_iadd X6 hx hby d4_16 17 rfl ?_
      exact k
    obtain ⟨v1, hv1, go5⟩ : ∃ v1 : Int32, v1 = (p1 + (1 : Int32)) ∧ Go p e below A0 (T6.setTop (mkF m 17 #[.val (.ref a0), .val (.int p1), .val (.int p2)] [(.int v1), (.ref d0), (.ref a0)])) := ⟨_, rfl, go4⟩
    obtain ⟨_, _, ⟨T7, L7, k7, n7⟩, -, X7, ⟨Lc7, hQ7, l7, y7, z7⟩, st7⟩ := Jvm.LawKit.callS X6 hx (y := (⟨"java/util/Arrays", "copyOf", "([II)[I"⟩ : MethodName)) hown (mvT hZ (hw _ (List.mem_of_getElem? (i := 22) rfl))) (mvT hZ (hw _ (List.mem_of_getElem? (i := 23) rfl))) (mvT hZ (hw _ (List.mem_of_getElem? (i := 24) rfl))) (mvT hZ (hw _ (List.mem_of_getElem? (i := 25) rfl))) (by decide) (backOf (W := 1) (rm5 l Z aw hw [] d0 v1 kd n g h0 n0 Z0 (r3) (by rw [hv1]; exact own_up hp1 hp2 hc6_3) (by rw [hv1]; exact own_nn hp1 hp2) (by rw [hv1, own_one hp1 hp2]; omega) (h0g)) hZ (hw _ (List.mem_of_getElem? (i := 25) rfl)) (hw _ (List.mem_of_getElem? (i := 24) rfl)) (by decide) (by decide)) (g := (mkF m 17 #[.val (.ref a0), .val (.int p1), .val (.int p2)] [(.int v1), (.ref d0), (.ref a0)])) rfl (by rw [hml]; rfl) (argsL := [(.ref d0), (.int v1)]) (rest := [(.ref a0)]) (lenOf pd_3 rfl) rfl (by show 2 * 0 + _ ≤ _; exact Nat.le_of_eq rfl) (hb hby d4_17) (fun _ _ => ⟨rfl, e6, (by decide : 0 + 1 ≤ _), (by decide : 0 + 8 ≤ _)⟩)
    dsimp only [Pt.U, Pt.locs, Pt.cells, Pt.slots] at X7 l7 y7 z7 st7 hQ7
    subst l7 y7 z7
    obtain ⟨r7_kb, b7_b, rfl, N7q, K7q, sz_b7_bq, qf7_0, -⟩ := hQ7
    have ne_a0_b7_b : a0 ≠ b7_b := Nat.ne_of_lt (Nat.lt_of_lt_of_le r0.lt sz_b7_bq)
    have ne_d0_b7_b : d0 ≠ b7_b := Nat.ne_of_lt (Nat.lt_of_lt_of_le r3.lt sz_b7_bq)
    have g_b7_b : n0 ≤ b7_b := Nat.le_trans Z0 sz_b7_bq
    have sz_b7_b : h0.size ≤ b7_b := Nat.le_trans (Keep.refl h0 [a0, d0]).1 sz_b7_bq
    have f4 : Exa Z T7.heap a0 "com/example/racelint/racelint/check/VectorClock" := r0.keep K7q
    have f5 : Fld Z T7.heap a0 "com/example/racelint/racelint/check/VectorClock" "epochs" "[I" (.ref d0) := r2.keep K7q nin0
    have f6 : Arv Z T7.heap d0 kd .int n (own_vs g n) (.int (0 : Int32)) := r3.keep K7q nin0
    have Zp7 : n0 ≤ T7.heap.size := Nat.le_trans Z0 K7q.1
    have K7 : Keep h0 T7.heap [a0, d0] := Keep.trans (Keep.refl h0 [a0, d0]) K7q all0
    have f7 : Arv Z T7.heap b7_b r7_kb .int v1 (own_vs g v1) (.int (0 : Int32)) := qf7_0
    have N7 := Fr.app N0 N7q
    have go6 : Go p e below A0 (T7.setTop (mkF m 20 #[.val (.ref a0), .val (.int p1), .val (.int p2)] [(.ref b7_b), (.ref a0)])) := by
      intro t k
      refine go5 t ?_
      refine st7 _ ?_
      show Steps p.tables e below (T7.setTop (mkF m 20 #[.val (.ref a0), .val (.int p1), .val (.int p2)] [(.ref b7_b), (.ref a0)])) _
      exact k
    obtain ⟨T8, h8, X8, e8, W8, st8⟩ := putF X7 hx hZ hown (host := "") (Or.inl (hw _ (List.mem_of_getElem? (i := 10) rfl))) Via.refl rfl f5 f4 (Or.inl (hw _ (List.mem_of_getElem? (i := 11) rfl))) (hw _ (List.mem_of_getElem? (i := 1) rfl)) (ty := (.array .int)) (by decide) rfl rfl (g := (mkF m 20 #[.val (.ref a0), .val (.int p1), .val (.int p2)] [(.ref b7_b), (.ref a0)])) rfl rfl (hb hby d4_20)
    have f8 : Exa Z h8 a0 "com/example/racelint/racelint/check/VectorClock" := f4.wr W8
    have f9 : Arv Z h8 d0 kd .int n (own_vs g n) (.int (0 : Int32)) := f6.other W8 (Ne.symm r5)
    have f10 : Arv Z h8 b7_b r7_kb .int v1 (own_vs g v1) (.int (0 : Int32)) := f7.other W8 (Ne.symm ne_a0_b7_b)
    have Zp8 : n0 ≤ h8.size := Nat.le_trans Zp7 (Keep.of_wr W8).1
    have K8 : Keep h0 h8 [a0, d0] := K7.wr W8 (Or.inl (List.mem_of_getElem? (i := 0) rfl))
    have N8 := Fr.snoc X8 N7 r1
    have f11 : Fld Z h8 a0 "com/example/racelint/racelint/check/VectorClock" "epochs" "[I" (.ref b7_b) := f5.same W8
    obtain ⟨T9, X9, e9, st9⟩ := getF X8 hx hZ hown (host := "") (Or.inl (hw _ (List.mem_of_getElem? (i := 10) rfl))) Via.refl e8 f11 (g := (mkF m 24 #[.val (.ref a0), .val (.int p1), .val (.int p2)] [(.ref a0)])) rfl rfl (hb hby d4_24)
    have go7 : Go p e below A0 (T9.setTop (mkF m 29 #[.val (.ref a0), .val (.int p1), .val (.int p2)] [(.int p2), (.int p1), (.ref b7_b)])) := by
      intro t k
      refine go6 t ?_
      refine st8 _ ?_
      show Steps p.tables e below (T8.setTop (mkF m 23 #[.val (.ref a0), .val (.int p1), .val (.int p2)] [])) _
      refine o_aloadN X8 hx hby d4_23 24 rfl rfl rfl ?_
      refine st9 _ ?_
      show Steps p.tables e below (T9.setTop (mkF m 27 #[.val (.ref a0), .val (.int p1), .val (.int p2)] [(.ref b7_b)])) _
      refine o_iloadN X9 hx hby d4_27 28 rfl rfl ?_
      refine o_iloadN X9 hx hby d4_28 29 rfl rfl ?_
      exact k
    obtain ⟨cl10, Ar10, q10, S10, M10, H10, G10⟩ := id f10
    have hin10 : ¬ (p1 < 0 ∨ cl10.slots.size ≤ (p1).toNatClampNeg) := inb_of S10 ⟨hp1, (by rw [hv1]; exact own_in1 hp1 hp2)⟩
    obtain ⟨T10, h10, X10, e10, W10, st10⟩ := stI X9 hx hZ e9 Ar10 (j := p1) hin10 (g := (mkF m 29 #[.val (.ref a0), .val (.int p1), .val (.int p2)] [(.int p2), (.int p1), (.ref b7_b)])) rfl rfl (hb hby d4_29)
    have f12 : Exa Z h10 a0 "com/example/racelint/racelint/check/VectorClock" := f8.wr W10
    have f13 : Arv Z h10 d0 kd .int n (own_vs g n) (.int (0 : Int32)) := f9.other W10 ne_d0_b7_b
    have f14 : Fld Z h10 a0 "com/example/racelint/racelint/check/VectorClock" "epochs" "[I" (.ref b7_b) := f11.other W10 (Or.inl ne_a0_b7_b)
    have Zp10 : n0 ≤ h10.size := Nat.le_trans Zp8 (Keep.of_wr W10).1
    have K10 : Keep h0 h10 [a0, d0] := K8.wr W10 (Or.inr sz_b7_b)
    have N10 := Fr.snoc X10 N8 g_b7_b
    have f15 : Arv Z h10 b7_b r7_kb .int v1 ((own_vs g v1).set p1.toNatClampNeg (.int p2)) (.int (0 : Int32)) := Arv.set Ar10 q10 S10 M10 H10 G10 rfl W10 p1.toNatClampNeg rfl (by rw [own_len]; exact own_lt hp1 M10 (by rw [hv1]; exact own_in1 hp1 hp2))
    have go8 : Go p e below A0 (T10.setTop (mkF m 30 #[.val (.ref a0), .val (.int p1), .val (.int p2)] [])) := by
      intro t k
      refine go7 t ?_
      refine st10 _ ?_
      show Steps p.tables e below (T10.setTop (mkF m 30 #[.val (.ref a0), .val (.int p1), .val (.int p2)] [])) _
      exact k
    subst hv1
    subst hA0
    obtain ⟨fs, hr, hrun, hended, hW, hsame⟩ := X10.leave (v := none) (fun _ => rfl)
    refine ⟨_, _, go8 _ (X10.returnOut hx Bd.returns (hb hby d4_30) hr), hrun, hended, _, _, rfl, ?_, ⟨_, rfl⟩, hW, hsame.mono (by decide) (by decide)⟩
    show Q4 Z a0 p1 p2 d0 kd n g h0 n0 _ T10.heap _
    rw [e10]
    exact ⟨b7_b, r7_kb, (p1 + (1 : Int32)), rfl, N10, K10, f14, (by rw [← own_vset g _ p1 p2 (own_lt hp1 (own_nn hp1 hp2) (own_in1 hp1 hp2))]; exact f15), g_b7_b, ne_a0_b7_b, (by rw [own_one hp1 hp2]; omega), (own_upd0 (own_more h0g (Nat.le_of_lt (own_lt (by obtain ⟨_, _, _, _, M, _⟩ := id r3; exact M) (own_nn hp1 hp2) (own_up hp1 hp2 hc6_3)))) (own_lt hp1 (own_nn hp1 hp2) (own_in1 hp1 hp2))), trivial⟩
theorem pn_0 : plainName "com/example/racelint/racelint/check/VectorClockGetPinLaw" = true := by first | (simp [plainName, overriddenIn]; done) | decide +kernel
theorem pd_5 : parseMethodDescriptor "()V" = some ⟨[], none⟩ := by decide +kernel
theorem pd_6 : parseMethodDescriptor "(I)I" = some ⟨[.int], some .int⟩ := by decide +kernel
theorem pd_7 : parseMethodDescriptor "(II)V" = some ⟨[.int, .int], none⟩ := by decide +kernel
theorem ef_0 (m : MethodId) (x0 : Int32) (x1 : Int32) (x2 : Int32) (x3 : Int32) (x4 : Int32) (x5 : Int32) : entryFrame m #[(.int x0), (.int x1), (.int x2), (.int x3), (.int x4), (.int x5)] maxLocals = mkF m 0 #[.val (.int x0), .val (.int x1), .val (.int x2), .val (.int x3), .val (.int x4), .val (.int x5), .unset, .unset, .unset, .unset, .unset, .unset, .unset] [] := by first | (simp [entryFrame, mkF, argsToLocals, Value.category, maxLocals]; done) | rfl
set_option maxRecDepth 65536 in
set_option maxHeartbeats 4000000 in
theorem pf0_nn_v4_0 (p0 : Int32) (p1 : Int32) (p2 : Int32) (p3 : Int32) (p4 : Int32) (p5 : Int32) (v1 : Int32) (v2 : Int32) (v3 : Int32) (v4 : Int32) (hv1 : v1 = (p0 &&& (7 : Int32))) (hv2 : v2 = (p1 &&& (7 : Int32))) (hv3 : v3 = (p2 &&& (15 : Int32))) (hv4 : v4 = (p3 &&& (15 : Int32))) : ¬ v4 < 0 := by
  rw [Int32.lt_iff_toInt_lt]; have m : v4.toInt = p3.toInt % 16 := by rw [hv4]; exact c_mask _ _ 4 (by decide) (by decide)
  simp only [Int32.reduceToInt]; omega
set_option maxRecDepth 65536 in
set_option maxHeartbeats 4000000 in
theorem pf0_nn_v1_1 (p0 : Int32) (p1 : Int32) (p2 : Int32) (p3 : Int32) (p4 : Int32) (p5 : Int32) (v1 : Int32) (v2 : Int32) (v3 : Int32) (v4 : Int32) (v5 : Int32) (v6 : Int32) (hv1 : v1 = (p0 &&& (7 : Int32))) (hv2 : v2 = (p1 &&& (7 : Int32))) (hv3 : v3 = (p2 &&& (15 : Int32))) (hv4 : v4 = (p3 &&& (15 : Int32))) (hv5 : v5 = ((fun _ => (0 : Int32)) v4.toNatClampNeg)) (hv6 : v6 = (if v5 = (0 : Int32) then (1 : Int32) else (0 : Int32))) : ¬ v1 < 0 := by
  rw [Int32.lt_iff_toInt_lt]; have m : v1.toInt = p0.toInt % 8 := by rw [hv1]; exact c_mask _ _ 3 (by decide) (by decide)
  simp only [Int32.reduceToInt]; omega
set_option maxRecDepth 65536 in
set_option maxHeartbeats 4000000 in
theorem pf0_le_v1_2 (p0 : Int32) (p1 : Int32) (p2 : Int32) (p3 : Int32) (p4 : Int32) (p5 : Int32) (v1 : Int32) (v2 : Int32) (v3 : Int32) (v4 : Int32) (v5 : Int32) (v6 : Int32) (hv1 : v1 = (p0 &&& (7 : Int32))) (hv2 : v2 = (p1 &&& (7 : Int32))) (hv3 : v3 = (p2 &&& (15 : Int32))) (hv4 : v4 = (p3 &&& (15 : Int32))) (hv5 : v5 = ((fun _ => (0 : Int32)) v4.toNatClampNeg)) (hv6 : v6 = (if v5 = (0 : Int32) then (1 : Int32) else (0 : Int32))) : v1.toInt ≤ 7 := by
  have m : v1.toInt = p0.toInt % 8 := by rw [hv1]; exact c_mask _ _ 3 (by decide) (by decide)
  omega
set_option maxRecDepth 65536 in
set_option maxHeartbeats 4000000 in
theorem pf0_nn_v2_3 (p0 : Int32) (p1 : Int32) (p2 : Int32) (p3 : Int32) (p4 : Int32) (p5 : Int32) (v1 : Int32) (v2 : Int32) (v3 : Int32) (v4 : Int32) (v5 : Int32) (v6 : Int32) (hv1 : v1 = (p0 &&& (7 : Int32))) (hv2 : v2 = (p1 &&& (7 : Int32))) (hv3 : v3 = (p2 &&& (15 : Int32))) (hv4 : v4 = (p3 &&& (15 : Int32))) (hv5 : v5 = ((fun _ => (0 : Int32)) v4.toNatClampNeg)) (hv6 : v6 = (if v5 = (0 : Int32) then (1 : Int32) else (0 : Int32))) : ¬ v2 < 0 := by
  rw [Int32.lt_iff_toInt_lt]; have m : v2.toInt = p1.toInt % 8 := by rw [hv2]; exact c_mask _ _ 3 (by decide) (by decide)
  simp only [Int32.reduceToInt]; omega
set_option maxRecDepth 65536 in
set_option maxHeartbeats 4000000 in
theorem pf0_le_v2_4 (p0 : Int32) (p1 : Int32) (p2 : Int32) (p3 : Int32) (p4 : Int32) (p5 : Int32) (v1 : Int32) (v2 : Int32) (v3 : Int32) (v4 : Int32) (v5 : Int32) (v6 : Int32) (hv1 : v1 = (p0 &&& (7 : Int32))) (hv2 : v2 = (p1 &&& (7 : Int32))) (hv3 : v3 = (p2 &&& (15 : Int32))) (hv4 : v4 = (p3 &&& (15 : Int32))) (hv5 : v5 = ((fun _ => (0 : Int32)) v4.toNatClampNeg)) (hv6 : v6 = (if v5 = (0 : Int32) then (1 : Int32) else (0 : Int32))) : v2.toInt ≤ 7 := by
  have m : v2.toInt = p1.toInt % 8 := by rw [hv2]; exact c_mask _ _ 3 (by decide) (by decide)
  omega
set_option maxRecDepth 65536 in
set_option maxHeartbeats 4000000 in
theorem pf0_nn_v3_5 (p0 : Int32) (p1 : Int32) (p2 : Int32) (p3 : Int32) (p4 : Int32) (p5 : Int32) (v1 : Int32) (v2 : Int32) (v3 : Int32) (v4 : Int32) (v5 : Int32) (v6 : Int32) (v8 : Int32) (hv1 : v1 = (p0 &&& (7 : Int32))) (hv2 : v2 = (p1 &&& (7 : Int32))) (hv3 : v3 = (p2 &&& (15 : Int32))) (hv4 : v4 = (p3 &&& (15 : Int32))) (hv5 : v5 = ((fun _ => (0 : Int32)) v4.toNatClampNeg)) (hv6 : v6 = (if v5 = (0 : Int32) then (1 : Int32) else (0 : Int32))) (hv8 : v8 = (if v3 = v2 then p5 else (if v3 = v1 then p4 else (0 : Int32)))) (hc101_9 : ¬ (v6 = (0 : Int32))) : ¬ v3 < 0 := by
  rw [Int32.lt_iff_toInt_lt]; have m : v3.toInt = p2.toInt % 16 := by rw [hv3]; exact c_mask _ _ 4 (by decide) (by decide)
  simp only [Int32.reduceToInt]; omega
set_option maxRecDepth 65536 in
set_option maxHeartbeats 4000000 in
theorem pl_0_0 (p0 : Int32) (p1 : Int32) (p2 : Int32) (p3 : Int32) (p4 : Int32) (p5 : Int32) (v1 : Int32) (v2 : Int32) (v3 : Int32) (v4 : Int32) (v5 : Int32) (v6 : Int32) (v8 : Int32) (v10 : Int32) (hv1 : v1 = (p0 &&& (7 : Int32))) (hv2 : v2 = (p1 &&& (7 : Int32))) (hv3 : v3 = (p2 &&& (15 : Int32))) (hv4 : v4 = (p3 &&& (15 : Int32))) (hv5 : v5 = ((fun _ => (0 : Int32)) v4.toNatClampNeg)) (hv6 : v6 = (if v5 = (0 : Int32) then (1 : Int32) else (0 : Int32))) (hv8 : v8 = (if v3 = v2 then p5 else (if v3 = v1 then p4 else (0 : Int32)))) (hv10 : v10 = (if v6 = (0 : Int32) then (0 : Int32) else (if ((own_upd (own_upd (fun _ => (0 : Int32)) v1 p4) v2 p5) v3.toNatClampNeg) = v8 then (1 : Int32) else (0 : Int32)))) : v10 = (1 : Int32) := by
  have m1 : v1.toInt = p0.toInt % 8 := by rw [hv1]; exact c_mask _ _ 3 (by decide) (by decide)
  have m2 : v2.toInt = p1.toInt % 8 := by rw [hv2]; exact c_mask _ _ 3 (by decide) (by decide)
  have m3 : v3.toInt = p2.toInt % 16 := by rw [hv3]; exact c_mask _ _ 4 (by decide) (by decide)
  have nn : ∀ v : Int32, 0 ≤ v.toInt → ¬ v < 0 := fun v h => by rw [Int32.lt_iff_toInt_lt]; simp only [Int32.reduceToInt]; omega
  have k1 := own_clamp (nn v1 (by omega)); have k2 := own_clamp (nn v2 (by omega)); have k3 := own_clamp (nn v3 (by omega))
  have e6 : v6 = 1 := by rw [hv6, hv5]; exact if_pos rfl
  have e8 : (own_upd (own_upd (fun _ => (0 : Int32)) v1 p4) v2 p5) v3.toNatClampNeg = v8 := by
    rw [hv8]; unfold own_upd
    have a : (v3.toNatClampNeg = v2.toNatClampNeg) = (v3 = v2) := propext ⟨fun h => Int32.toInt_inj.mp (by omega), fun h => by rw [h]⟩
    have b : (v3.toNatClampNeg = v1.toNatClampNeg) = (v3 = v1) := propext ⟨fun h => Int32.toInt_inj.mp (by omega), fun h => by rw [h]⟩
    simp only [a, b]
  rw [hv10, e6, e8]; simp
def Q0 (Z : State) (p0 : Int32) (p1 : Int32) (p2 : Int32) (p3 : Int32) (p4 : Int32) (p5 : Int32) (h0 : Heap) (n0 : Nat) (v : Option Value) (h : Heap) (L : List Loc) : Prop := v = some (.int 1) ∧ Fr n0 L
set_option maxRecDepth 65536 in
set_option maxHeartbeats 40000000 in
theorem rm0 (l : Launch) (Z : State) (aw : Array Value) (hw : ∀ d ∈ tables_1, d.before aw Z = true) (ws : List Jvm.Cond) (p0 : Int32) (p1 : Int32) (p2 : Int32) (p3 : Int32) (p4 : Int32) (p5 : Int32) (h0 : Heap) (n0 : Nat) (Z0 : n0 ≤ h0.size) :
    MetFree l x (head1 (Jvm.Cond.code x code maxLocals ret :: ws) room_1) (fun a U => a = #[(.int p0), (.int p1), (.int p2), (.int p3), (.int p4), (.int p5)] ∧ Z.Warmed39 U.vm ∧ U.heap = h0) (fun _ _ _ _ _ => True) (fun _ U o U' => ∃ v L, o = .returned v ∧ Q0 Z p0 p1 p2 p3 p4 p5 h0 n0 v U'.heap L ∧ FrameEnd U o U' L room_1.cells room_1.slots) := by
  refine MetFree.of_bodySF (plainFor_of_name pn_0) hisR ?_
  intro p e s m args below meth c s₁ Bd hml0 hP hK
  obtain ⟨rfl, hZ, hh⟩ := hP
  have hx := Bd.exec
  have hby := Bd.bytes
  have hml : c.maxLocals = 13 := hml0
  have hown : s.vm.findClass "com/example/racelint/racelint/check/VectorClockGetPinLaw" = some m.cls := findClass_of_methodNamed Bd.named
  have hnm := (name_of_methodNamed Bd.named Bd.method).1
  have X0 : Stand p l e room_1 s m #[(.int p0), (.int p1), (.int p2), (.int p3), (.int p4), (.int p5)] below meth c s₁ [] 0 0 := Stand.of_body Bd
  have e0 : s₁.heap = h0 := by rw [← hh, Bd.state]; rfl
  have N0 := Fr.nil n0
  obtain ⟨A0, hA0⟩ : ∃ A0, A0 = s₁.setTop (entryFrame m #[(.int p0), (.int p1), (.int p2), (.int p3), (.int p4), (.int p5)] maxLocals) := ⟨_, rfl⟩
  have go0 : Go p e below A0 (s₁.setTop (mkF m 0 #[.val (.int p0), .val (.int p1), .val (.int p2), .val (.int p3), .val (.int p4), .val (.int p5), .unset, .unset, .unset, .unset, .unset, .unset, .unset] [])) := fun t k => by rw [hA0]; exact castTop (ef_0 m p0 p1 p2 p3 p4 p5) k
  have go1 : Go p e below A0 (s₁.setTop (mkF m 6 #[.val (.int p0), .val (.int p1), .val (.int p2), .val (.int p3), .val (.int p4), .val (.int p5), .val (.int (p0 &&& (7 : Int32))), .unset, .unset, .unset, .unset, .unset, .unset] [])) := by
    intro t k
    refine go0 t ?_
    refine o_iloadN X0 hx hby at_0 1 rfl rfl ?_
    refine o_bipush X0 hx hby at_1 3 rfl (v := (7 : Int32)) rfl ?_
    refine o_iand X0 hx hby at_3 4 rfl ?_
    refine o_istore X0 hx hby at_4 6 rfl (l' := #[.val (.int p0), .val (.int p1), .val (.int p2), .val (.int p3), .val (.int p4), .val (.int p5), .val (.int (p0 &&& (7 : Int32))), .unset, .unset, .unset, .unset, .unset, .unset]) rfl ?_
    exact k
  obtain ⟨v1, hv1, go2⟩ : ∃ v1 : Int32, v1 = (p0 &&& (7 : Int32)) ∧ Go p e below A0 (s₁.setTop (mkF m 6 #[.val (.int p0), .val (.int p1), .val (.int p2), .val (.int p3), .val (.int p4), .val (.int p5), .val (.int v1), .unset, .unset, .unset, .unset, .unset, .unset] [])) := ⟨_, rfl, go1⟩
  have go3 : Go p e below A0 (s₁.setTop (mkF m 12 #[.val (.int p0), .val (.int p1), .val (.int p2), .val (.int p3), .val (.int p4), .val (.int p5), .val (.int v1), .val (.int (p1 &&& (7 : Int32))), .unset, .unset, .unset, .unset, .unset] [])) := by
    intro t k
    refine go2 t ?_
    refine o_iloadN X0 hx hby at_6 7 rfl rfl ?_
    refine o_bipush X0 hx hby at_7 9 rfl (v := (7 : Int32)) rfl ?_
    refine o_iand X0 hx hby at_9 10 rfl ?_
    refine o_istore X0 hx hby at_10 12 rfl (l' := #[.val (.int p0), .val (.int p1), .val (.int p2), .val (.int p3), .val (.int p4), .val (.int p5), .val (.int v1), .val (.int (p1 &&& (7 : Int32))), .unset, .unset, .unset, .unset, .unset]) rfl ?_
    exact k
  obtain ⟨v2, hv2, go4⟩ : ∃ v2 : Int32, v2 = (p1 &&& (7 : Int32)) ∧ Go p e below A0 (s₁.setTop (mkF m 12 #[.val (.int p0), .val (.int p1), .val (.int p2), .val (.int p3), .val (.int p4), .val (.int p5), .val (.int v1), .val (.int v2), .unset, .unset, .unset, .unset, .unset] [])) := ⟨_, rfl, go3⟩
  have go5 : Go p e below A0 (s₁.setTop (mkF m 18 #[.val (.int p0), .val (.int p1), .val (.int p2), .val (.int p3), .val (.int p4), .val (.int p5), .val (.int v1), .val (.int v2), .val (.int (p2 &&& (15 : Int32))), .unset, .unset, .unset, .unset] [])) := by
    intro t k
    refine go4 t ?_
    refine o_iloadN X0 hx hby at_12 13 rfl rfl ?_
    refine o_bipush X0 hx hby at_13 15 rfl (v := (15 : Int32)) rfl ?_
    refine o_iand X0 hx hby at_15 16 rfl ?_
    refine o_istore X0 hx hby at_16 18 rfl (l' := #[.val (.int p0), .val (.int p1), .val (.int p2), .val (.int p3), .val (.int p4), .val (.int p5), .val (.int v1), .val (.int v2), .val (.int (p2 &&& (15 : Int32))), .unset, .unset, .unset, .unset]) rfl ?_
    exact k
  obtain ⟨v3, hv3, go6⟩ : ∃ v3 : Int32, v3 = (p2 &&& (15 : Int32)) ∧ Go p e below A0 (s₁.setTop (mkF m 18 #[.val (.int p0), .val (.int p1), .val (.int p2), .val (.int p3), .val (.int p4), .val (.int p5), .val (.int v1), .val (.int v2), .val (.int v3), .unset, .unset, .unset, .unset] [])) := ⟨_, rfl, go5⟩
  have go7 : Go p e below A0 (s₁.setTop (mkF m 24 #[.val (.int p0), .val (.int p1), .val (.int p2), .val (.int p3), .val (.int p4), .val (.int p5), .val (.int v1), .val (.int v2), .val (.int v3), .val (.int (p3 &&& (15 : Int32))), .unset, .unset, .unset] [])) := by
    intro t k
    refine go6 t ?_
    refine o_iloadN X0 hx hby at_18 19 rfl rfl ?_
    refine o_bipush X0 hx hby at_19 21 rfl (v := (15 : Int32)) rfl ?_
    refine o_iand X0 hx hby at_21 22 rfl ?_
    refine o_istore X0 hx hby at_22 24 rfl (l' := #[.val (.int p0), .val (.int p1), .val (.int p2), .val (.int p3), .val (.int p4), .val (.int p5), .val (.int v1), .val (.int v2), .val (.int v3), .val (.int (p3 &&& (15 : Int32))), .unset, .unset, .unset]) rfl ?_
    exact k
  obtain ⟨v4, hv4, go8⟩ : ∃ v4 : Int32, v4 = (p3 &&& (15 : Int32)) ∧ Go p e below A0 (s₁.setTop (mkF m 24 #[.val (.int p0), .val (.int p1), .val (.int p2), .val (.int p3), .val (.int p4), .val (.int p5), .val (.int v1), .val (.int v2), .val (.int v3), .val (.int v4), .unset, .unset, .unset] [])) := ⟨_, rfl, go7⟩
  obtain ⟨T1, h1, X1, e1, E1, A1, D1, -, st1⟩ := newO X0 hx hZ hown (hw _ (List.mem_of_getElem? (i := 0) rfl)) (hw _ (List.mem_of_getElem? (i := 1) rfl)) (hw _ (List.mem_of_getElem? (i := 2) rfl)) e0 (g := (mkF m 24 #[.val (.int p0), .val (.int p1), .val (.int p2), .val (.int p3), .val (.int p4), .val (.int p5), .val (.int v1), .val (.int v2), .val (.int v3), .val (.int v4), .unset, .unset, .unset] [])) rfl (hb hby at_24) (by decide) (by decide)
  obtain ⟨b1, g1⟩ : ∃ z, z = h0.size := ⟨_, rfl⟩
  rw [← g1] at A1 D1 st1
  have g_b1 : n0 ≤ b1 := Nat.le_trans Z0 (Nat.le_of_eq g1.symm)
  have Zp1 : n0 ≤ h1.size := Nat.le_trans Z0 E1.1
  have f1 : Exa Z h1 b1 "com/example/racelint/racelint/check/VectorClock" := A1
  have f2 : Fld Z h1 b1 "com/example/racelint/racelint/check/VectorClock" "epochs" "[I" .null := D1 (Or.inl (hw _ (List.mem_of_getElem? (i := 11) rfl))) (ty := (.array .int)) (by decide)
  obtain ⟨_, _, ⟨T2, L2, k2, n2⟩, -, X2, ⟨Lc2, hQ2, l2, y2, z2⟩, st2⟩ := X1.specialBack hx (y := (⟨"com/example/racelint/racelint/check/VectorClock", "<init>", "()V"⟩ : MethodName)) rfl hown (mvT hZ (hw _ (List.mem_of_getElem? (i := 3) rfl))) (mvT hZ (hw _ (List.mem_of_getElem? (i := 4) rfl))) (mvT hZ (hw _ (List.mem_of_getElem? (i := 5) rfl))) (by decide) (backOf (W := 1) (rm1 l Z aw hw [] b1 h1 n0 Zp1 (f1) (g_b1) (f2)) hZ (hw _ (List.mem_of_getElem? (i := 5) rfl)) (hw _ (List.mem_of_getElem? (i := 2) rfl)) (by decide) (by decide)) (g := (mkF m 28 #[.val (.int p0), .val (.int p1), .val (.int p2), .val (.int p3), .val (.int p4), .val (.int p5), .val (.int v1), .val (.int v2), .val (.int v3), .val (.int v4), .unset, .unset, .unset] [(.ref b1), (.ref b1)])) rfl (by rw [hml]; rfl) (Steps.refl _) (a := b1) (argsL := []) (rest := [(.ref b1)]) (lenOf pd_5 rfl) rfl (by show 2 * 0 + _ ≤ _; exact Nat.le_of_eq rfl) (hb hby at_28) (fun _ _ => ⟨rfl, e1, (by decide : 1 + 1 ≤ _), (by decide : 1 + 0 ≤ _)⟩)
  dsimp only [Pt.U, Pt.locs, Pt.cells, Pt.slots] at X2 l2 y2 z2 st2 hQ2
  subst l2 y2 z2
  obtain ⟨r2_kb, b2_b, rfl, N2q, K2q, sz_b2_bq, qf2_0, qf2_1, qf2_2, qf2_3, qf2_4, qf2_5, -⟩ := hQ2
  have ne_b1_b2_b : b1 ≠ b2_b := Nat.ne_of_lt (Nat.lt_of_lt_of_le f1.lt sz_b2_bq)
  have g_b2_b : n0 ≤ b2_b := Nat.le_trans Zp1 sz_b2_bq
  have f3 : Exa Z T2.heap b1 "com/example/racelint/racelint/check/VectorClock" := f1.keep K2q
  have Zp2 : n0 ≤ T2.heap.size := Nat.le_trans Zp1 K2q.1
  have f4 : Fld Z T2.heap b1 "com/example/racelint/racelint/check/VectorClock" "epochs" "[I" (.ref b2_b) := qf2_0
  have f5 : Arv Z T2.heap b2_b r2_kb .int (0 : Int32) (own_vs (fun _ => (0 : Int32)) (0 : Int32)) (.int (0 : Int32)) := qf2_1
  have N2 := Fr.app N0 N2q
  have go9 : Go p e below A0 (T2.setTop (mkF m 37 #[.val (.int p0), .val (.int p1), .val (.int p2), .val (.int p3), .val (.int p4), .val (.int p5), .val (.int v1), .val (.int v2), .val (.int v3), .val (.int v4), .val (.ref b1), .unset, .unset] [(.int v4), (.ref b1)])) := by
    intro t k
    refine go8 t ?_
    refine st1 _ ?_
    show Steps p.tables e below (T1.setTop (mkF m 27 #[.val (.int p0), .val (.int p1), .val (.int p2), .val (.int p3), .val (.int p4), .val (.int p5), .val (.int v1), .val (.int v2), .val (.int v3), .val (.int v4), .unset, .unset, .unset] [(.ref b1)])) _
    refine o_dup X1 hx hby at_27 28 rfl rfl ?_
    refine st2.trans ?_
    show Steps p.tables e below (T2.setTop (mkF m 31 #[.val (.int p0), .val (.int p1), .val (.int p2), .val (.int p3), .val (.int p4), .val (.int p5), .val (.int v1), .val (.int v2), .val (.int v3), .val (.int v4), .unset, .unset, .unset] [(.ref b1)])) _
    refine o_astore X2 hx hby at_31 33 rfl rfl (l' := #[.val (.int p0), .val (.int p1), .val (.int p2), .val (.int p3), .val (.int p4), .val (.int p5), .val (.int v1), .val (.int v2), .val (.int v3), .val (.int v4), .val (.ref b1), .unset, .unset]) rfl ?_
    refine o_aload X2 hx hby at_33 35 rfl rfl rfl ?_
    refine o_iload X2 hx hby at_35 37 rfl rfl ?_
    exact k
  have f_nn_v4_1 : ¬ v4 < 0 := pf0_nn_v4_0 p0 p1 p2 p3 p4 p5 v1 v2 v3 v4 hv1 hv2 hv3 hv4
  obtain ⟨cq3, kq3, q3a, q3b, q3c⟩ := isOf hZ rfl f3
  obtain ⟨_, _, ⟨T3, L3, k3, n3⟩, -, X3, ⟨Lc3, hQ3, l3, y3, z3⟩, st3⟩ := X2.virtualBack hx (y := (⟨"com/example/racelint/racelint/check/VectorClock", "get", "(I)I"⟩ : MethodName)) (z := (⟨"com/example/racelint/racelint/check/VectorClock", "get", "(I)I"⟩ : MethodName)) hown (mvT hZ (hw _ (List.mem_of_getElem? (i := 12) rfl))) (mvT hZ (hw _ (List.mem_of_getElem? (i := 13) rfl))) (notFace_of_selects (args := #[]) (mvT hZ (hw _ (List.mem_of_getElem? (i := 15) rfl)))) (mvT hZ (hw _ (List.mem_of_getElem? (i := 15) rfl))) (mvT hZ (hw _ (List.mem_of_getElem? (i := 14) rfl))) (by decide) (backOf (W := 0) (rm3 l Z aw hw [] b1 v4 b2_b r2_kb (0 : Int32) ((fun _ => (0 : Int32))) T2.heap n0 Zp2 (f4) (f5) (f_nn_v4_1) (qf2_5)) hZ (hw _ (List.mem_of_getElem? (i := 16) rfl)) (hw _ (List.mem_of_getElem? (i := 2) rfl)) (by decide) (by decide)) q3a q3c (g := (mkF m 37 #[.val (.int p0), .val (.int p1), .val (.int p2), .val (.int p3), .val (.int p4), .val (.int p5), .val (.int v1), .val (.int v2), .val (.int v3), .val (.int v4), .val (.ref b1), .unset, .unset] [(.int v4), (.ref b1)])) rfl (by rw [hml]; rfl) (Steps.refl _) (argsL := [(.int v4)]) (rest := []) (lenOf pd_6 rfl) rfl (by show 2 * 0 + _ ≤ _; exact Nat.le_of_eq rfl) (hb hby at_37) (fun _ _ => ⟨rfl, rfl, (by decide : 2 + 0 ≤ _), (by decide : 1 + 0 ≤ _)⟩)
  dsimp only [Pt.U, Pt.locs, Pt.cells, Pt.slots] at X3 l3 y3 z3 st3 hQ3
  subst l3 y3 z3
  obtain ⟨rfl, N3q, e3⟩ := hQ3
  have N3 := Fr.app N2 N3q
  have go10 : Go p e below A0 (T3.setTop (mkF m 40 #[.val (.int p0), .val (.int p1), .val (.int p2), .val (.int p3), .val (.int p4), .val (.int p5), .val (.int v1), .val (.int v2), .val (.int v3), .val (.int v4), .val (.ref b1), .unset, .unset] [(.int ((fun _ => (0 : Int32)) v4.toNatClampNeg))])) := by
    intro t k
    refine go9 t ?_
    refine st3.trans ?_
    show Steps p.tables e below (T3.setTop (mkF m 40 #[.val (.int p0), .val (.int p1), .val (.int p2), .val (.int p3), .val (.int p4), .val (.int p5), .val (.int v1), .val (.int v2), .val (.int v3), .val (.int v4), .val (.ref b1), .unset, .unset] [(.int ((fun _ => (0 : Int32)) v4.toNatClampNeg))])) _
    exact k
  obtain ⟨v5, hv5, go11⟩ : ∃ v5 : Int32, v5 = ((fun _ => (0 : Int32)) v4.toNatClampNeg) ∧ Go p e below A0 (T3.setTop (mkF m 40 #[.val (.int p0), .val (.int p1), .val (.int p2), .val (.int p3), .val (.int p4), .val (.int p5), .val (.int v1), .val (.int v2), .val (.int v3), .val (.int v4), .val (.ref b1), .unset, .unset] [(.int v5)])) := ⟨_, rfl, go10⟩
  obtain ⟨v6, hv6, go14⟩ : ∃ (v6 : Int32), v6 = (if v5 = (0 : Int32) then (1 : Int32) else (0 : Int32)) ∧ Go p e below A0 (T3.setTop (mkF m 48 #[.val (.int p0), .val (.int p1), .val (.int p2), .val (.int p3), .val (.int p4), .val (.int p5), .val (.int v1), .val (.int v2), .val (.int v3), .val (.int v4), .val (.ref b1), .unset, .unset] [(.int v6)])) := by
    by_cases hc40_4 : v5 = (0 : Int32)
    · have go12 : Go p e below A0 (T3.setTop (mkF m 48 #[.val (.int p0), .val (.int p1), .val (.int p2), .val (.int p3), .val (.int p4), .val (.int p5), .val (.int v1), .val (.int v2), .val (.int v3), .val (.int v4), .val (.ref b1), .unset, .unset] [(.int (1 : Int32))])) := by
        intro t k
        refine go11 t ?_
        refine o_ifN X3 hx hby at_40 43 rfl (teq hc40_4).2 ?_
        refine o_iconst X3 hx hby at_43 44 rfl (v := (1 : Int32)) rfl ?_
        refine o_goto X3 hx hby at_44 48 rfl ?_
        exact k
      exact ⟨(1 : Int32), (if_pos hc40_4).symm, go12⟩
    · have go13 : Go p e below A0 (T3.setTop (mkF m 48 #[.val (.int p0), .val (.int p1), .val (.int p2), .val (.int p3), .val (.int p4), .val (.int p5), .val (.int v1), .val (.int v2), .val (.int v3), .val (.int v4), .val (.ref b1), .unset, .unset] [(.int (0 : Int32))])) := by
        intro t k
        refine go11 t ?_
        refine o_ifY X3 hx hby at_40 47 rfl (feq hc40_4).2 ?_
        refine o_iconst X3 hx hby at_47 48 rfl (v := (0 : Int32)) rfl ?_
        exact k
      exact ⟨(0 : Int32), (if_neg hc40_4).symm, go13⟩
  have go15 : Go p e below A0 (T3.setTop (mkF m 50 #[.val (.int p0), .val (.int p1), .val (.int p2), .val (.int p3), .val (.int p4), .val (.int p5), .val (.int v1), .val (.int v2), .val (.int v3), .val (.int v4), .val (.ref b1), .val (.int v6), .unset] [])) := by
    intro t k
    refine go14 t ?_
    refine o_istore X3 hx hby at_48 50 rfl (l' := #[.val (.int p0), .val (.int p1), .val (.int p2), .val (.int p3), .val (.int p4), .val (.int p5), .val (.int v1), .val (.int v2), .val (.int v3), .val (.int v4), .val (.ref b1), .val (.int v6), .unset]) rfl ?_
    exact k
  have go16 : Go p e below A0 (T3.setTop (mkF m 56 #[.val (.int p0), .val (.int p1), .val (.int p2), .val (.int p3), .val (.int p4), .val (.int p5), .val (.int v1), .val (.int v2), .val (.int v3), .val (.int v4), .val (.ref b1), .val (.int v6), .unset] [(.int p4), (.int v1), (.ref b1)])) := by
    intro t k
    refine go15 t ?_
    refine o_aload X3 hx hby at_50 52 rfl rfl rfl ?_
    refine o_iload X3 hx hby at_52 54 rfl rfl ?_
    refine o_iload X3 hx hby at_54 56 rfl rfl ?_
    exact k
  have f_nn_v1_2 : ¬ v1 < 0 := pf0_nn_v1_1 p0 p1 p2 p3 p4 p5 v1 v2 v3 v4 v5 v6 hv1 hv2 hv3 hv4 hv5 hv6
  have f_le_v1_3 : v1.toInt ≤ 7 := pf0_le_v1_2 p0 p1 p2 p3 p4 p5 v1 v2 v3 v4 v5 v6 hv1 hv2 hv3 hv4 hv5 hv6
  obtain ⟨cq5, kq5, q5a, q5b, q5c⟩ := isOf hZ e3 f3
  obtain ⟨_, _, ⟨T5, L5, k5, n5⟩, -, X5, ⟨Lc5, hQ5, l5, y5, z5⟩, st5⟩ := X3.virtualBack hx (y := (⟨"com/example/racelint/racelint/check/VectorClock", "set", "(II)V"⟩ : MethodName)) (z := (⟨"com/example/racelint/racelint/check/VectorClock", "set", "(II)V"⟩ : MethodName)) hown (mvT hZ (hw _ (List.mem_of_getElem? (i := 17) rfl))) (mvT hZ (hw _ (List.mem_of_getElem? (i := 18) rfl))) (notFace_of_selects (args := #[]) (mvT hZ (hw _ (List.mem_of_getElem? (i := 20) rfl)))) (mvT hZ (hw _ (List.mem_of_getElem? (i := 20) rfl))) (mvT hZ (hw _ (List.mem_of_getElem? (i := 19) rfl))) (by decide) (backOf (W := 0) (rm4 l Z aw hw [] b1 v1 p4 b2_b r2_kb (0 : Int32) ((fun _ => (0 : Int32))) T2.heap n0 Zp2 (f3) (g_b1) (f4) (f5) (qf2_2) (qf2_3) (f_nn_v1_2) (f_le_v1_3) (qf2_4) (qf2_5)) hZ (hw _ (List.mem_of_getElem? (i := 21) rfl)) (hw _ (List.mem_of_getElem? (i := 2) rfl)) (by decide) (by decide)) q5a q5c (g := (mkF m 56 #[.val (.int p0), .val (.int p1), .val (.int p2), .val (.int p3), .val (.int p4), .val (.int p5), .val (.int v1), .val (.int v2), .val (.int v3), .val (.int v4), .val (.ref b1), .val (.int v6), .unset] [(.int p4), (.int v1), (.ref b1)])) rfl (by rw [hml]; rfl) (Steps.refl _) (argsL := [(.int v1), (.int p4)]) (rest := []) (lenOf pd_7 rfl) rfl (by show 2 * 0 + _ ≤ _; exact Nat.le_of_eq rfl) (hb hby at_56) (fun _ _ => ⟨rfl, e3, (by decide : 2 + 1 ≤ _), (by decide : 1 + 8 ≤ _)⟩)
  dsimp only [Pt.U, Pt.locs, Pt.cells, Pt.slots] at X5 l5 y5 z5 st5 hQ5
  subst l5 y5 z5
  obtain ⟨r5_b, r5_kb, r5_n2, rfl, N5q, K5q, qf5_0, qf5_1, qf5_2, qf5_3, qf5_4, qf5_5, -⟩ := hQ5
  have f6 : Exa Z T5.heap b1 "com/example/racelint/racelint/check/VectorClock" := f3.keep K5q
  have Zp5 : n0 ≤ T5.heap.size := Nat.le_trans Zp2 K5q.1
  have f7 : Fld Z T5.heap b1 "com/example/racelint/racelint/check/VectorClock" "epochs" "[I" (.ref r5_b) := qf5_0
  have f8 : Arv Z T5.heap r5_b r5_kb .int r5_n2 (own_vs (own_upd (fun _ => (0 : Int32)) v1 p4) r5_n2) (.int (0 : Int32)) := qf5_1
  have N5 := Fr.app N3 N5q
  have go17 : Go p e below A0 (T5.setTop (mkF m 65 #[.val (.int p0), .val (.int p1), .val (.int p2), .val (.int p3), .val (.int p4), .val (.int p5), .val (.int v1), .val (.int v2), .val (.int v3), .val (.int v4), .val (.ref b1), .val (.int v6), .unset] [(.int p5), (.int v2), (.ref b1)])) := by
    intro t k
    refine go16 t ?_
    refine st5.trans ?_
    show Steps p.tables e below (T5.setTop (mkF m 59 #[.val (.int p0), .val (.int p1), .val (.int p2), .val (.int p3), .val (.int p4), .val (.int p5), .val (.int v1), .val (.int v2), .val (.int v3), .val (.int v4), .val (.ref b1), .val (.int v6), .unset] [])) _
    refine o_aload X5 hx hby at_59 61 rfl rfl rfl ?_
    refine o_iload X5 hx hby at_61 63 rfl rfl ?_
    refine o_iload X5 hx hby at_63 65 rfl rfl ?_
    exact k
  have f_nn_v2_4 : ¬ v2 < 0 := pf0_nn_v2_3 p0 p1 p2 p3 p4 p5 v1 v2 v3 v4 v5 v6 hv1 hv2 hv3 hv4 hv5 hv6
  have f_le_v2_5 : v2.toInt ≤ 7 := pf0_le_v2_4 p0 p1 p2 p3 p4 p5 v1 v2 v3 v4 v5 v6 hv1 hv2 hv3 hv4 hv5 hv6
  obtain ⟨cq6, kq6, q6a, q6b, q6c⟩ := isOf hZ rfl f6
  obtain ⟨_, _, ⟨T6, L6, k6, n6⟩, -, X6, ⟨Lc6, hQ6, l6, y6, z6⟩, st6⟩ := X5.virtualBack hx (y := (⟨"com/example/racelint/racelint/check/VectorClock", "set", "(II)V"⟩ : MethodName)) (z := (⟨"com/example/racelint/racelint/check/VectorClock", "set", "(II)V"⟩ : MethodName)) hown (mvT hZ (hw _ (List.mem_of_getElem? (i := 17) rfl))) (mvT hZ (hw _ (List.mem_of_getElem? (i := 18) rfl))) (notFace_of_selects (args := #[]) (mvT hZ (hw _ (List.mem_of_getElem? (i := 20) rfl)))) (mvT hZ (hw _ (List.mem_of_getElem? (i := 20) rfl))) (mvT hZ (hw _ (List.mem_of_getElem? (i := 19) rfl))) (by decide) (backOf (W := 0) (rm4 l Z aw hw [] b1 v2 p5 r5_b r5_kb r5_n2 ((own_upd (fun _ => (0 : Int32)) v1 p4)) T5.heap n0 Zp5 (f6) (g_b1) (f7) (f8) (qf5_2) (qf5_3) (f_nn_v2_4) (f_le_v2_5) (qf5_4) (qf5_5)) hZ (hw _ (List.mem_of_getElem? (i := 21) rfl)) (hw _ (List.mem_of_getElem? (i := 2) rfl)) (by decide) (by decide)) q6a q6c (g := (mkF m 65 #[.val (.int p0), .val (.int p1), .val (.int p2), .val (.int p3), .val (.int p4), .val (.int p5), .val (.int v1), .val (.int v2), .val (.int v3), .val (.int v4), .val (.ref b1), .val (.int v6), .unset] [(.int p5), (.int v2), (.ref b1)])) rfl (by rw [hml]; rfl) (Steps.refl _) (argsL := [(.int v2), (.int p5)]) (rest := []) (lenOf pd_7 rfl) rfl (by show 2 * 0 + _ ≤ _; exact Nat.le_of_eq rfl) (hb hby at_65) (fun _ _ => ⟨rfl, rfl, (by decide : 3 + 1 ≤ _), (by decide : 9 + 8 ≤ _)⟩)
  dsimp only [Pt.U, Pt.locs, Pt.cells, Pt.slots] at X6 l6 y6 z6 st6 hQ6
  subst l6 y6 z6
  obtain ⟨r6_b, r6_kb, r6_n2, rfl, N6q, K6q, qf6_0, qf6_1, qf6_2, qf6_3, qf6_4, qf6_5, -⟩ := hQ6
  have f9 : Exa Z T6.heap b1 "com/example/racelint/racelint/check/VectorClock" := f6.keep K6q
  have Zp6 : n0 ≤ T6.heap.size := Nat.le_trans Zp5 K6q.1
  have f10 : Fld Z T6.heap b1 "com/example/racelint/racelint/check/VectorClock" "epochs" "[I" (.ref r6_b) := qf6_0
  have f11 : Arv Z T6.heap r6_b r6_kb .int r6_n2 (own_vs (own_upd (own_upd (fun _ => (0 : Int32)) v1 p4) v2 p5) r6_n2) (.int (0 : Int32)) := qf6_1
  have N6 := Fr.app N5 N6q
  have go18 : Go p e below A0 (T6.setTop (mkF m 72 #[.val (.int p0), .val (.int p1), .val (.int p2), .val (.int p3), .val (.int p4), .val (.int p5), .val (.int v1), .val (.int v2), .val (.int v3), .val (.int v4), .val (.ref b1), .val (.int v6), .unset] [(.int v2), (.int v3)])) := by
    intro t k
    refine go17 t ?_
    refine st6.trans ?_
    show Steps p.tables e below (T6.setTop (mkF m 68 #[.val (.int p0), .val (.int p1), .val (.int p2), .val (.int p3), .val (.int p4), .val (.int p5), .val (.int v1), .val (.int v2), .val (.int v3), .val (.int v4), .val (.ref b1), .val (.int v6), .unset] [])) _
    refine o_iload X6 hx hby at_68 70 rfl rfl ?_
    refine o_iload X6 hx hby at_70 72 rfl rfl ?_
    exact k
  obtain ⟨v8, hv8, go24⟩ : ∃ (v8 : Int32), v8 = (if v3 = v2 then p5 else (if v3 = v1 then p4 else (0 : Int32))) ∧ Go p e below A0 (T6.setTop (mkF m 99 #[.val (.int p0), .val (.int p1), .val (.int p2), .val (.int p3), .val (.int p4), .val (.int p5), .val (.int v1), .val (.int v2), .val (.int v3), .val (.int v4), .val (.ref b1), .val (.int v6), .val (.int v8)] [])) := by
    by_cases hc72_7 : v3 = v2
    · have go19 : Go p e below A0 (T6.setTop (mkF m 99 #[.val (.int p0), .val (.int p1), .val (.int p2), .val (.int p3), .val (.int p4), .val (.int p5), .val (.int v1), .val (.int v2), .val (.int v3), .val (.int v4), .val (.ref b1), .val (.int v6), .val (.int p5)] [])) := by
        intro t k
        refine go18 t ?_
        refine o_icmpN X6 hx hby at_72 75 rfl (teq hc72_7).2 ?_
        refine o_iload X6 hx hby at_75 77 rfl rfl ?_
        refine o_istore X6 hx hby at_77 79 rfl (l' := #[.val (.int p0), .val (.int p1), .val (.int p2), .val (.int p3), .val (.int p4), .val (.int p5), .val (.int v1), .val (.int v2), .val (.int v3), .val (.int v4), .val (.ref b1), .val (.int v6), .val (.int p5)]) rfl ?_
        refine o_goto X6 hx hby at_79 99 rfl ?_
        exact k
      exact ⟨p5, (if_pos hc72_7).symm, go19⟩
    · have go20 : Go p e below A0 (T6.setTop (mkF m 86 #[.val (.int p0), .val (.int p1), .val (.int p2), .val (.int p3), .val (.int p4), .val (.int p5), .val (.int v1), .val (.int v2), .val (.int v3), .val (.int v4), .val (.ref b1), .val (.int v6), .unset] [(.int v1), (.int v3)])) := by
        intro t k
        refine go18 t ?_
        refine o_icmpY X6 hx hby at_72 82 rfl (feq hc72_7).2 ?_
        refine o_iload X6 hx hby at_82 84 rfl rfl ?_
        refine o_iload X6 hx hby at_84 86 rfl rfl ?_
        exact k
      obtain ⟨v7, hv7, go23⟩ : ∃ (v7 : Int32), v7 = (if v3 = v1 then p4 else (0 : Int32)) ∧ Go p e below A0 (T6.setTop (mkF m 99 #[.val (.int p0), .val (.int p1), .val (.int p2), .val (.int p3), .val (.int p4), .val (.int p5), .val (.int v1), .val (.int v2), .val (.int v3), .val (.int v4), .val (.ref b1), .val (.int v6), .val (.int v7)] [])) := by
        by_cases hc86_8 : v3 = v1
        · have go21 : Go p e below A0 (T6.setTop (mkF m 99 #[.val (.int p0), .val (.int p1), .val (.int p2), .val (.int p3), .val (.int p4), .val (.int p5), .val (.int v1), .val (.int v2), .val (.int v3), .val (.int v4), .val (.ref b1), .val (.int v6), .val (.int p4)] [])) := by
            intro t k
            refine go20 t ?_
            refine o_icmpN X6 hx hby at_86 89 rfl (teq hc86_8).2 ?_
            refine o_iload X6 hx hby at_89 91 rfl rfl ?_
            refine o_istore X6 hx hby at_91 93 rfl (l' := #[.val (.int p0), .val (.int p1), .val (.int p2), .val (.int p3), .val (.int p4), .val (.int p5), .val (.int v1), .val (.int v2), .val (.int v3), .val (.int v4), .val (.ref b1), .val (.int v6), .val (.int p4)]) rfl ?_
            refine o_goto X6 hx hby at_93 99 rfl ?_
            exact k
          exact ⟨p4, (if_pos hc86_8).symm, go21⟩
        · have go22 : Go p e below A0 (T6.setTop (mkF m 99 #[.val (.int p0), .val (.int p1), .val (.int p2), .val (.int p3), .val (.int p4), .val (.int p5), .val (.int v1), .val (.int v2), .val (.int v3), .val (.int v4), .val (.ref b1), .val (.int v6), .val (.int (0 : Int32))] [])) := by
            intro t k
            refine go20 t ?_
            refine o_icmpY X6 hx hby at_86 96 rfl (feq hc86_8).2 ?_
            refine o_iconst X6 hx hby at_96 97 rfl (v := (0 : Int32)) rfl ?_
            refine o_istore X6 hx hby at_97 99 rfl (l' := #[.val (.int p0), .val (.int p1), .val (.int p2), .val (.int p3), .val (.int p4), .val (.int p5), .val (.int v1), .val (.int v2), .val (.int v3), .val (.int v4), .val (.ref b1), .val (.int v6), .val (.int (0 : Int32))]) rfl ?_
            exact k
          exact ⟨(0 : Int32), (if_neg hc86_8).symm, go22⟩
      subst hv7
      exact ⟨(if v3 = v1 then p4 else (0 : Int32)), (if_neg hc72_7).symm, go23⟩
  have go25 : Go p e below A0 (T6.setTop (mkF m 101 #[.val (.int p0), .val (.int p1), .val (.int p2), .val (.int p3), .val (.int p4), .val (.int p5), .val (.int v1), .val (.int v2), .val (.int v3), .val (.int v4), .val (.ref b1), .val (.int v6), .val (.int v8)] [(.int v6)])) := by
    intro t k
    refine go24 t ?_
    refine o_iload X6 hx hby at_99 101 rfl rfl ?_
    exact k
  obtain ⟨T12, l12, v10, X12, N12, e12, hv10, go32⟩ : ∃ (T12 : State) (l12 : List Loc) (v10 : Int32), Stand p l e room_1 s m #[(.int p0), (.int p1), (.int p2), (.int p3), (.int p4), (.int p5)] below meth c T12 l12 4 17 ∧ Fr n0 l12 ∧ T12.heap = T6.heap ∧ v10 = (if v6 = (0 : Int32) then (0 : Int32) else (if ((own_upd (own_upd (fun _ => (0 : Int32)) v1 p4) v2 p5) v3.toNatClampNeg) = v8 then (1 : Int32) else (0 : Int32))) ∧ Go p e below A0 (T12.setTop (mkF m 121 #[.val (.int p0), .val (.int p1), .val (.int p2), .val (.int p3), .val (.int p4), .val (.int p5), .val (.int v1), .val (.int v2), .val (.int v3), .val (.int v4), .val (.ref b1), .val (.int v6), .val (.int v8)] [(.int v10)])) := by
    by_cases hc101_9 : v6 = (0 : Int32)
    · have go26 : Go p e below A0 (T6.setTop (mkF m 121 #[.val (.int p0), .val (.int p1), .val (.int p2), .val (.int p3), .val (.int p4), .val (.int p5), .val (.int v1), .val (.int v2), .val (.int v3), .val (.int v4), .val (.ref b1), .val (.int v6), .val (.int v8)] [(.int (0 : Int32))])) := by
        intro t k
        refine go25 t ?_
        refine o_ifY X6 hx hby at_101 120 rfl (teq hc101_9).1 ?_
        refine o_iconst X6 hx hby at_120 121 rfl (v := (0 : Int32)) rfl ?_
        exact k
      exact ⟨T6, _, (0 : Int32), X6, N6, rfl, (if_pos hc101_9).symm, go26⟩
    · have go27 : Go p e below A0 (T6.setTop (mkF m 108 #[.val (.int p0), .val (.int p1), .val (.int p2), .val (.int p3), .val (.int p4), .val (.int p5), .val (.int v1), .val (.int v2), .val (.int v3), .val (.int v4), .val (.ref b1), .val (.int v6), .val (.int v8)] [(.int v3), (.ref b1)])) := by
        intro t k
        refine go25 t ?_
        refine o_ifN X6 hx hby at_101 104 rfl (feq hc101_9).1 ?_
        refine o_aload X6 hx hby at_104 106 rfl rfl rfl ?_
        refine o_iload X6 hx hby at_106 108 rfl rfl ?_
        exact k
      have f_nn_v3_6 : ¬ v3 < 0 := pf0_nn_v3_5 p0 p1 p2 p3 p4 p5 v1 v2 v3 v4 v5 v6 v8 hv1 hv2 hv3 hv4 hv5 hv6 hv8 hc101_9
      obtain ⟨cq10, kq10, q10a, q10b, q10c⟩ := isOf hZ rfl f9
      obtain ⟨_, _, ⟨T10, L10, k10, n10⟩, -, X10, ⟨Lc10, hQ10, l10, y10, z10⟩, st10⟩ := X6.virtualBack hx (y := (⟨"com/example/racelint/racelint/check/VectorClock", "get", "(I)I"⟩ : MethodName)) (z := (⟨"com/example/racelint/racelint/check/VectorClock", "get", "(I)I"⟩ : MethodName)) hown (mvT hZ (hw _ (List.mem_of_getElem? (i := 12) rfl))) (mvT hZ (hw _ (List.mem_of_getElem? (i := 13) rfl))) (notFace_of_selects (args := #[]) (mvT hZ (hw _ (List.mem_of_getElem? (i := 15) rfl)))) (mvT hZ (hw _ (List.mem_of_getElem? (i := 15) rfl))) (mvT hZ (hw _ (List.mem_of_getElem? (i := 14) rfl))) (by decide) (backOf (W := 0) (rm3 l Z aw hw [] b1 v3 r6_b r6_kb r6_n2 ((own_upd (own_upd (fun _ => (0 : Int32)) v1 p4) v2 p5)) T6.heap n0 Zp6 (f10) (f11) (f_nn_v3_6) (qf6_5)) hZ (hw _ (List.mem_of_getElem? (i := 16) rfl)) (hw _ (List.mem_of_getElem? (i := 2) rfl)) (by decide) (by decide)) q10a q10c (g := (mkF m 108 #[.val (.int p0), .val (.int p1), .val (.int p2), .val (.int p3), .val (.int p4), .val (.int p5), .val (.int v1), .val (.int v2), .val (.int v3), .val (.int v4), .val (.ref b1), .val (.int v6), .val (.int v8)] [(.int v3), (.ref b1)])) rfl (by rw [hml]; rfl) (Steps.refl _) (argsL := [(.int v3)]) (rest := []) (lenOf pd_6 rfl) rfl (by show 2 * 0 + _ ≤ _; exact Nat.le_of_eq rfl) (hb hby at_108) (fun _ _ => ⟨rfl, rfl, (by decide : 4 + 0 ≤ _), (by decide : 17 + 0 ≤ _)⟩)
      dsimp only [Pt.U, Pt.locs, Pt.cells, Pt.slots] at X10 l10 y10 z10 st10 hQ10
      subst l10 y10 z10
      obtain ⟨rfl, N10q, e10⟩ := hQ10
      have N10 := Fr.app N6 N10q
      have go28 : Go p e below A0 (T10.setTop (mkF m 113 #[.val (.int p0), .val (.int p1), .val (.int p2), .val (.int p3), .val (.int p4), .val (.int p5), .val (.int v1), .val (.int v2), .val (.int v3), .val (.int v4), .val (.ref b1), .val (.int v6), .val (.int v8)] [(.int v8), (.int ((own_upd (own_upd (fun _ => (0 : Int32)) v1 p4) v2 p5) v3.toNatClampNeg))])) := by
        intro t k
        refine go27 t ?_
        refine st10.trans ?_
        show Steps p.tables e below (T10.setTop (mkF m 111 #[.val (.int p0), .val (.int p1), .val (.int p2), .val (.int p3), .val (.int p4), .val (.int p5), .val (.int v1), .val (.int v2), .val (.int v3), .val (.int v4), .val (.ref b1), .val (.int v6), .val (.int v8)] [(.int ((own_upd (own_upd (fun _ => (0 : Int32)) v1 p4) v2 p5) v3.toNatClampNeg))])) _
        refine o_iload X10 hx hby at_111 113 rfl rfl ?_
        exact k
      obtain ⟨v9, hv9, go31⟩ : ∃ (v9 : Int32), v9 = (if ((own_upd (own_upd (fun _ => (0 : Int32)) v1 p4) v2 p5) v3.toNatClampNeg) = v8 then (1 : Int32) else (0 : Int32)) ∧ Go p e below A0 (T10.setTop (mkF m 121 #[.val (.int p0), .val (.int p1), .val (.int p2), .val (.int p3), .val (.int p4), .val (.int p5), .val (.int v1), .val (.int v2), .val (.int v3), .val (.int v4), .val (.ref b1), .val (.int v6), .val (.int v8)] [(.int v9)])) := by
        by_cases hc113_11 : ((own_upd (own_upd (fun _ => (0 : Int32)) v1 p4) v2 p5) v3.toNatClampNeg) = v8
        · have go29 : Go p e below A0 (T10.setTop (mkF m 121 #[.val (.int p0), .val (.int p1), .val (.int p2), .val (.int p3), .val (.int p4), .val (.int p5), .val (.int v1), .val (.int v2), .val (.int v3), .val (.int v4), .val (.ref b1), .val (.int v6), .val (.int v8)] [(.int (1 : Int32))])) := by
            intro t k
            refine go28 t ?_
            refine o_icmpN X10 hx hby at_113 116 rfl (teq hc113_11).2 ?_
            refine o_iconst X10 hx hby at_116 117 rfl (v := (1 : Int32)) rfl ?_
            refine o_goto X10 hx hby at_117 121 rfl ?_
            exact k
          exact ⟨(1 : Int32), (if_pos hc113_11).symm, go29⟩
        · have go30 : Go p e below A0 (T10.setTop (mkF m 121 #[.val (.int p0), .val (.int p1), .val (.int p2), .val (.int p3), .val (.int p4), .val (.int p5), .val (.int v1), .val (.int v2), .val (.int v3), .val (.int v4), .val (.ref b1), .val (.int v6), .val (.int v8)] [(.int (0 : Int32))])) := by
            intro t k
            refine go28 t ?_
            refine o_icmpY X10 hx hby at_113 120 rfl (feq hc113_11).2 ?_
            refine o_iconst X10 hx hby at_120 121 rfl (v := (0 : Int32)) rfl ?_
            exact k
          exact ⟨(0 : Int32), (if_neg hc113_11).symm, go30⟩
      subst hv9
      exact ⟨T10, _, (if ((own_upd (own_upd (fun _ => (0 : Int32)) v1 p4) v2 p5) v3.toNatClampNeg) = v8 then (1 : Int32) else (0 : Int32)), X10, N10, e10, (if_neg hc101_9).symm, go31⟩
  obtain rfl : v10 = (1 : Int32) := pl_0_0 p0 p1 p2 p3 p4 p5 v1 v2 v3 v4 v5 v6 v8 v10 hv1 hv2 hv3 hv4 hv5 hv6 hv8 hv10
  subst hA0
  obtain ⟨fs, hr, hrun, hended, hW, hsame⟩ := X12.leave (v := some (.int (1 : Int32))) (fun h => by rw [Bd.returns] at h; cases h)
  refine ⟨_, _, go32 _ (o_retZ X12 hx Bd.returns (hb hby at_121) (Or.inr rfl) hr), hrun, hended, _, _, rfl, ?_, ⟨_, rfl⟩, hW, hsame.mono (by decide) (by decide)⟩
  show Q0 Z p0 p1 p2 p3 p4 p5 h0 n0 _ T12.heap _
  rw [e12]
  exact ⟨rfl, N12⟩
set_option maxRecDepth 65536 in
set_option maxHeartbeats 40000000 in
theorem comes_1 {Post : Tables → Env → Array Value → State → Outcome → State → Prop} (hpost : ∀ tb e args s v u, (limb_1_1.after args s (.returned v) u = true ∧ limb_1_2.after args s (.returned v) u = true ∧ True) → FrameEnd s (.returned v) u (Jvm.fieldLocs frame_1_writes args s ++ Jvm.arrayLocs frame_1_arrays args s ++ Jvm.staticLocs frame_1_statics s) 16 128 → Post tb e args s (.returned v) u) :
    ArmFor flags0 classFile x code maxLocals ret World_1 tables_1 room_1 Calls_1 rest_1 Pre_1 Post := by
  intro l hfl _ _ p e ha hc hk s m args below hf hA hF happ hP
  obtain ⟨hcalls, hrest, hpre⟩ := hP
  obtain ⟨-, -, -, hnamed, -, -, -, hat⟩ := (Spec.applies_iff hf).mp happ
  obtain ⟨hg, hn⟩ := and_e (Cond.before_iff.mp (show (Jvm.Cond.and given_1 narrow_1).before args s = true from hpre))
  obtain ⟨g1, g2⟩ := and_e hg
  obtain ⟨g3, g4⟩ := and_e g2
  obtain ⟨g5, g6⟩ := and_e g4
  obtain ⟨g7, g8⟩ := and_e g6
  obtain ⟨g9, g10⟩ := and_e g8
  obtain ⟨g11, g12⟩ := and_e g10
  obtain ⟨w0, w1, w2, w3, w4, w5, rfl⟩ : ∃ w0 w1 w2 w3 w4 w5 : Value, args = #[w0, w1, w2, w3, w4, w5] := by
    have hs : args.size = 6 := by simpa [Cond.value, given_1] using g1
    obtain ⟨L⟩ := args
    match L, hs with
    | [w0, w1, w2, w3, w4, w5], _ => exact ⟨w0, w1, w2, w3, w4, w5, rfl⟩
  have hw := fun d (hd : d ∈ tables_1) => atoms_spec (ws := Jvm.Cond.code x code maxLocals ret :: tables_1) hat d (List.mem_cons_of_mem _ hd)
  have hfit : Fit s := fun {y c} hc i hi => by
    obtain ⟨ha, rfl⟩ := Array.getElem?_eq_some_iff.mp hc
    have q := List.all_eq_true.mp ((Array.all_eq_true_iff_forall_mem.mp hF) _ (Array.getElem_mem ha)) i (List.mem_range.mpr hi)
    simpa [Array.getElem?_eq_getElem hi] using q
  obtain ⟨i0, ei0⟩ := is_v g3
  obtain rfl : w0 = (.int i0) := Option.some.inj ei0
  obtain ⟨i1, ei1⟩ := is_v g5
  obtain rfl : w1 = (.int i1) := Option.some.inj ei1
  obtain ⟨i2, ei2⟩ := is_v g7
  obtain rfl : w2 = (.int i2) := Option.some.inj ei2
  obtain ⟨i3, ei3⟩ := is_v g9
  obtain rfl : w3 = (.int i3) := Option.some.inj ei3
  obtain ⟨i4, ei4⟩ := is_v g11
  obtain rfl : w4 = (.int i4) := Option.some.inj ei4
  obtain ⟨i5, ei5⟩ := is_v g12
  obtain rfl : w5 = (.int i5) := Option.some.inj ei5
  obtain ⟨n, o, h1, h2, h3, _, L, rfl, ⟨rfl, N⟩, hq⟩ := rm0 l s _ hw tables_1 i0 i1 i2 i3 i4 i5 s.heap s.heap.size (Nat.le_refl _)  p e ha hc hk s m _ below hf ((Spec.applies_iff_loose hf).mp happ).1 ⟨rfl, State.Warmed39.refl s, rfl⟩ trivial
  refine ⟨n, _, h1, h2, h3, hpost _ _ _ _ _ _ ⟨Cond.after_iff.mpr rfl, Cond.after_iff.mpr (eq_i res_at (Term.int_eval (1)) rfl), trivial⟩ ⟨hq.1, hq.2.1, (hq.2.2.sift fun y hy => Or.inr (N y hy)).mono (by decide) (by decide)⟩⟩
theorem main_1_1 : Claimed_1_1 := comes_1 fun _ _ _ _ _ _ h hF => ⟨h.1, hF⟩
theorem main_1_2 : Claimed_1_2 := comes_1 fun _ _ _ _ _ _ h hF => ⟨h.2.1, hF⟩
end Jvm.Pilot.@@N@@
namespace Jvm.Pilot.@@N@@
open Jvm Jvm.ClassFile Sem Op Lib Jvm.Free Jvm.Stand Jvm.Pilot.@@N@@.Jvm.D
/-! MADE BY PROGRAM (witnessworld.py) out of the Statement's table words and the real class files: 12 classes; the members and pool entries that the words name. The judged class is class 1, her method 1. -/
namespace start1
open Jvm.ClassFile
def u (s : String) : CpInfo := .utf8 (stringToUtf16 s)
/-- a pool by its gaps: so many unusable entries, then the entry; so many at the end -/
def gap : Nat → List CpInfo → List CpInfo
  | 0, r => r
  | n + 1, r => .unusable :: gap n r
def poolList (es : List (Nat × CpInfo)) (last : Nat) : List CpInfo := es.foldr (fun e r => gap e.1 (e.2 :: r)) (gap last [])
def pool (es : List (Nat × CpInfo)) (last : Nat) : Array CpInfo := ⟨poolList es last⟩
def fileOf (pool : Array CpInfo) (this : Nat) (attrs : Array Attribute := #[]) (ms : Array MethodInfo := #[]) (fl : Nat := 33) (sup : Nat := 0) (ifs : Array Nat := #[]) (fds : Array FieldInfo := #[]) : ClassFile where
  minorVersion := 0
  majorVersion := 65
  constantPool := pool
  accessFlags := fl
  thisClass := this
  superClass := sup
  interfaces := ifs
  fields := fds
  methods := ms
  attributes := attrs
def plain (name : String) (sup : Option ClassId) : Class where
  name := name
  kind := .ordinary
  loader := none
  accessFlags := 33
  super := sup
  interfaces := #[]
  cf := none
  fields := #[]
  methods := #[]
  instanceTypes := #[]
  staticTypes := #[]
  resolved := #[]
  callSites := []
  init := .initialized
  statics := none
  mirror := none

def pool0 : Array CpInfo := pool [(5, u "<init>"), (0, u "()V"), (1, .class_ 10), (1, u "java/lang/Object")] 113

def k0c0 : Code := { maxStack := 0, maxLocals := 1, code := object_method_1_code, exceptionTable := #[], attributes := #[] }
def k0m0 : Method := { name := "<init>", desc := "()V", sig := { parameters := [], returnType := none }, accessFlags := 1, code := some k0c0 }
/-- java/lang/Object -/
def k0 : Class := { plain "java/lang/Object" none with
  accessFlags := 33
  interfaces := #[]
  cf := some (fileOf pool0 8 #[] #[{ accessFlags := 1, nameIndex := 5, descriptorIndex := 6, attributes := #[] }] 33 0 #[] #[])
  fields := #[]
  methods := #[k0m0]
  instanceTypes := #[]
  staticTypes := #[]
  resolved := Array.replicate 124 none
  statics := none }

def pool1 : Array CpInfo := pool [(2, .class_ 4), (0, .nameAndType 5 6), (0, u "java/lang/Object"), (0, u "<init>"), (0, u "()V"), (0, .class_ 8), (0, u "com/example/racelint/racelint/check/VectorClock"), (0, .methodref 7 3), (0, .methodref 7 11), (0, .nameAndType 12 13), (0, u "get"), (0, u "(I)I"), (0, .methodref 7 15), (0, .nameAndType 16 17), (0, u "set"), (0, u "(II)V"), (0, .class_ 19), (0, u "com/example/racelint/racelint/check/VectorClockGetPinLaw"), (2, u "law"), (0, u "(IIIIII)Z")] 3

def k1m0 : Method := { name := "<init>", desc := "()V", sig := { parameters := [], returnType := none }, accessFlags := 1, code := none }
def k1c1 : Code := { maxStack := 3, maxLocals := 13, code := code, exceptionTable := #[], attributes := #[] }
def k1m1 : Method := { name := "law", desc := "(IIIIII)Z", sig := { parameters := [.int, .int, .int, .int, .int, .int], returnType := some .boolean }, accessFlags := 9, code := some k1c1 }
/-- com/example/racelint/racelint/check/VectorClockGetPinLaw -/
def k1 : Class := { plain "com/example/racelint/racelint/check/VectorClockGetPinLaw" (some 0) with
  accessFlags := 49
  interfaces := #[]
  cf := some (fileOf pool1 18 #[] #[{ accessFlags := 1, nameIndex := 5, descriptorIndex := 6, attributes := #[] }, { accessFlags := 9, nameIndex := 22, descriptorIndex := 23, attributes := #[] }] 49 2 #[] #[])
  fields := #[]
  methods := #[k1m0, k1m1]
  instanceTypes := #[]
  staticTypes := #[]
  resolved := Array.replicate 27 none
  statics := none }

def pool2 : Array CpInfo := pool [(1, .methodref 2 3), (0, .class_ 4), (0, .nameAndType 5 6), (0, u "java/lang/Object"), (0, u "<init>"), (0, u "()V"), (0, .fieldref 8 9), (0, .class_ 10), (0, .nameAndType 11 12), (0, u "com/example/racelint/racelint/check/VectorClock"), (0, u "epochs"), (0, u "[I"), (0, .methodref 14 15), (0, .class_ 16), (0, .nameAndType 17 18), (0, u "java/util/Arrays"), (0, u "copyOf"), (0, u "([II)[I"), (2, u "get"), (0, u "(I)I"), (2, u "set"), (0, u "(II)V")] 23

def k2c0 : Code := { maxStack := 2, maxLocals := 1, code := prog_16_method_1_code, exceptionTable := #[], attributes := #[] }
def k2m0 : Method := { name := "<init>", desc := "()V", sig := { parameters := [], returnType := none }, accessFlags := 0, code := some k2c0 }
def k2c1 : Code := { maxStack := 2, maxLocals := 2, code := prog_16_method_2_code, exceptionTable := #[], attributes := #[] }
def k2m1 : Method := { name := "get", desc := "(I)I", sig := { parameters := [.int], returnType := some .int }, accessFlags := 0, code := some k2c1 }
def k2c2 : Code := { maxStack := 4, maxLocals := 3, code := prog_16_method_3_code, exceptionTable := #[], attributes := #[] }
def k2m2 : Method := { name := "set", desc := "(II)V", sig := { parameters := [.int, .int], returnType := none }, accessFlags := 0, code := some k2c2 }
/-- com/example/racelint/racelint/check/VectorClock -/
def k2 : Class := { plain "com/example/racelint/racelint/check/VectorClock" (some 0) with
  accessFlags := 48
  interfaces := #[]
  cf := some (fileOf pool2 8 #[] #[{ accessFlags := 0, nameIndex := 5, descriptorIndex := 6, attributes := #[] }, { accessFlags := 0, nameIndex := 21, descriptorIndex := 22, attributes := #[] }, { accessFlags := 0, nameIndex := 25, descriptorIndex := 26, attributes := #[] }] 48 2 #[] #[{ accessFlags := 2, nameIndex := 11, descriptorIndex := 12, attributes := #[] }])
  fields := #[{ name := "epochs", type := (.array .int), accessFlags := 2, slot := 0, constantValue := 0 }]
  methods := #[k2m0, k2m1, k2m2]
  instanceTypes := #[(.array .int)]
  staticTypes := #[]
  resolved := Array.replicate 50 none
  statics := none }

def pool3 : Array CpInfo := pool [(2, .class_ 4), (1, u "java/lang/Object"), (0, u "<init>"), (0, u "()V"), (7, .class_ 16), (1, u "java/util/Arrays"), (57, .class_ 76), (1, u "java/util/Arrays$NaturalOrder"), (36, .class_ 115), (1, u "java/util/Arrays$LegacyMergeSort"), (1, u "Z"), (32, .methodref 151 152), (0, .class_ 153), (0, .nameAndType 154 155), (0, u "java/lang/System"), (0, u "arraycopy"), (0, u "(Ljava/lang/Object;ILjava/lang/Object;II)V"), (146, u "copyOf"), (1, .methodref 305 306), (0, .class_ 307), (0, .nameAndType 308 309), (0, u "java/lang/Math"), (0, u "min"), (0, u "(II)I"), (65, .class_ 376), (0, u "java/util/Arrays$ArrayList"), (68, u "$assertionsDisabled"), (269, u "MIN_ARRAY_SORT_GRAN"), (0, u "I"), (2, u "INSERTIONSORT_THRESHOLD"), (151, u "([II)[I"), (103, .class_ 976), (0, u "java/util/Arrays$ArrayItr")] 52

def k3m0 : Method := { name := "<init>", desc := "()V", sig := { parameters := [], returnType := none }, accessFlags := 2, code := none }
def k3c1 : Code := { maxStack := 6, maxLocals := 3, code := jdk_65_method_123_code, exceptionTable := #[], attributes := #[] }
def k3m1 : Method := { name := "copyOf", desc := "([II)[I", sig := { parameters := [(.array .int), .int], returnType := some (.array .int) }, accessFlags := 9, code := some k3c1 }
/-- java/util/Arrays -/
def k3 : Class := { plain "java/util/Arrays" (some 0) with
  accessFlags := 49
  interfaces := #[]
  cf := some (fileOf pool3 14 #[.nestMembers #[975, 375, 113, 74]] #[{ accessFlags := 2, nameIndex := 5, descriptorIndex := 6, attributes := #[] }, { accessFlags := 9, nameIndex := 302, descriptorIndex := 871, attributes := #[] }] 49 2 #[] #[{ accessFlags := 26, nameIndex := 715, descriptorIndex := 716, attributes := #[] }, { accessFlags := 26, nameIndex := 719, descriptorIndex := 716, attributes := #[] }, { accessFlags := 4120, nameIndex := 445, descriptorIndex := 117, attributes := #[] }])
  fields := #[{ name := "MIN_ARRAY_SORT_GRAN", type := .int, accessFlags := 26, slot := 0, constantValue := 0 }, { name := "INSERTIONSORT_THRESHOLD", type := .int, accessFlags := 26, slot := 1, constantValue := 0 }, { name := "$assertionsDisabled", type := .boolean, accessFlags := 4120, slot := 2, constantValue := 0 }]
  methods := #[k3m0, k3m1]
  instanceTypes := #[]
  staticTypes := #[.int, .int, .boolean]
  resolved := Array.replicate 1029 none
  statics := none }

def pool4 : Array CpInfo := pool [(1, .class_ 2), (0, u "java/lang/Math"), (1, .class_ 6), (1, u "java/lang/Object"), (0, u "<init>"), (0, u "()V"), (89, .class_ 100), (1, u "java/lang/Math$RandomNumberGeneratorHolder"), (71, u "negativeZeroFloatBits"), (0, u "J"), (2, u "negativeZeroDoubleBits"), (24, u "min"), (43, u "$assertionsDisabled"), (0, u "Z"), (88, u "(II)I"), (2, u "twoToTheDoubleScaleDown"), (0, u "D"), (4, u "twoToTheDoubleScaleUp"), (9, u "E"), (3, u "PI"), (2, u "TAU"), (2, u "DEGREES_TO_RADIANS"), (0, u "RADIANS_TO_DEGREES")] 94

def k4m0 : Method := { name := "<init>", desc := "()V", sig := { parameters := [], returnType := none }, accessFlags := 2, code := none }
def k4c1 : Code := { maxStack := 2, maxLocals := 2, code := jdk_29_method_69_code, exceptionTable := #[], attributes := #[] }
def k4m1 : Method := { name := "min", desc := "(II)I", sig := { parameters := [.int, .int], returnType := some .int }, accessFlags := 9, code := some k4c1 }
/-- java/lang/Math -/
def k4 : Class := { plain "java/lang/Math" (some 0) with
  accessFlags := 49
  interfaces := #[]
  cf := some (fileOf pool4 1 #[.nestMembers #[98]] #[{ accessFlags := 2, nameIndex := 7, descriptorIndex := 8, attributes := #[] }, { accessFlags := 9, nameIndex := 201, descriptorIndex := 335, attributes := #[] }] 49 4 #[] #[{ accessFlags := 25, nameIndex := 354, descriptorIndex := 339, attributes := #[] }, { accessFlags := 25, nameIndex := 358, descriptorIndex := 339, attributes := #[] }, { accessFlags := 25, nameIndex := 361, descriptorIndex := 339, attributes := #[] }, { accessFlags := 26, nameIndex := 364, descriptorIndex := 339, attributes := #[] }, { accessFlags := 26, nameIndex := 365, descriptorIndex := 339, attributes := #[] }, { accessFlags := 26, nameIndex := 172, descriptorIndex := 173, attributes := #[] }, { accessFlags := 26, nameIndex := 176, descriptorIndex := 173, attributes := #[] }, { accessFlags := 8, nameIndex := 344, descriptorIndex := 339, attributes := #[] }, { accessFlags := 8, nameIndex := 338, descriptorIndex := 339, attributes := #[] }, { accessFlags := 4120, nameIndex := 245, descriptorIndex := 246, attributes := #[] }])
  fields := #[{ name := "E", type := .double, accessFlags := 25, slot := 0, constantValue := 0 }, { name := "PI", type := .double, accessFlags := 25, slot := 1, constantValue := 0 }, { name := "TAU", type := .double, accessFlags := 25, slot := 2, constantValue := 0 }, { name := "DEGREES_TO_RADIANS", type := .double, accessFlags := 26, slot := 3, constantValue := 0 }, { name := "RADIANS_TO_DEGREES", type := .double, accessFlags := 26, slot := 4, constantValue := 0 }, { name := "negativeZeroFloatBits", type := .long, accessFlags := 26, slot := 5, constantValue := 0 }, { name := "negativeZeroDoubleBits", type := .long, accessFlags := 26, slot := 6, constantValue := 0 }, { name := "twoToTheDoubleScaleUp", type := .double, accessFlags := 8, slot := 7, constantValue := 0 }, { name := "twoToTheDoubleScaleDown", type := .double, accessFlags := 8, slot := 8, constantValue := 0 }, { name := "$assertionsDisabled", type := .boolean, accessFlags := 4120, slot := 9, constantValue := 0 }]
  methods := #[k4m0, k4m1]
  instanceTypes := #[]
  staticTypes := #[.double, .double, .double, .double, .double, .long, .long, .double, .double, .boolean]
  resolved := Array.replicate 460 none
  statics := none }

def pool5 : Array CpInfo := pool [(2, .class_ 4), (1, u "java/lang/Object"), (0, u "<init>"), (0, u "()V"), (1, .class_ 10), (1, u "java/lang/System"), (0, u "allowSecurityManager"), (0, u "I"), (16, u "cons"), (0, u "Ljava/io/Console;"), (77, .class_ 110), (1, u "java/lang/System$CallersHolder"), (43, u "initialErrStream"), (0, u "Ljava/io/PrintStream;"), (19, u "security"), (0, u "Ljava/lang/SecurityManager;"), (31, .class_ 209), (0, u "java/lang/System$1"), (7, u "props"), (0, u "Ljava/util/Properties;"), (2, u "lineSeparator"), (0, u "Ljava/lang/String;"), (96, .class_ 321), (1, u "java/lang/System$LoggerFinder"), (5, .class_ 328), (0, u "java/lang/System$Logger"), (67, u "err"), (2, u "out"), (91, u "notSupportedJnuEncoding"), (15, u "in"), (17, u "initialIn"), (0, u "Ljava/io/InputStream;"), (35, u "bootLayer"), (0, u "Ljava/lang/ModuleLayer;"), (99, .class_ 664), (0, u "java/lang/System$2"), (9, u "NEVER"), (2, u "MAYBE"), (49, u "arraycopy"), (0, u "(Ljava/lang/Object;ILjava/lang/Object;II)V"), (72, .class_ 802), (0, u "java/lang/System$Logger$Level")] 31

def k5m0 : Method := { name := "<init>", desc := "()V", sig := { parameters := [], returnType := none }, accessFlags := 2, code := none }
def k5m1 : Method := { name := "arraycopy", desc := "(Ljava/lang/Object;ILjava/lang/Object;II)V", sig := { parameters := [(.object "java/lang/Object"), .int, (.object "java/lang/Object"), .int, .int], returnType := none }, accessFlags := 265, code := none }
/-- java/lang/System -/
def k5 : Class := { plain "java/lang/System" (some 0) with
  accessFlags := 49
  interfaces := #[]
  cf := some (fileOf pool5 8 #[.nestMembers #[319, 327, 801, 108, 663, 208]] #[{ accessFlags := 2, nameIndex := 5, descriptorIndex := 6, attributes := #[] }, { accessFlags := 265, nameIndex := 727, descriptorIndex := 728, attributes := #[] }] 49 2 #[] #[{ accessFlags := 25, nameIndex := 507, descriptorIndex := 526, attributes := #[] }, { accessFlags := 25, nameIndex := 399, descriptorIndex := 155, attributes := #[] }, { accessFlags := 25, nameIndex := 396, descriptorIndex := 155, attributes := #[] }, { accessFlags := 10, nameIndex := 525, descriptorIndex := 526, attributes := #[] }, { accessFlags := 26, nameIndex := 674, descriptorIndex := 12, attributes := #[] }, { accessFlags := 26, nameIndex := 677, descriptorIndex := 12, attributes := #[] }, { accessFlags := 10, nameIndex := 11, descriptorIndex := 12, attributes := #[] }, { accessFlags := 74, nameIndex := 175, descriptorIndex := 176, attributes := #[] }, { accessFlags := 10, nameIndex := 491, descriptorIndex := 222, attributes := #[] }, { accessFlags := 74, nameIndex := 29, descriptorIndex := 30, attributes := #[] }, { accessFlags := 74, nameIndex := 154, descriptorIndex := 155, attributes := #[] }, { accessFlags := 10, nameIndex := 217, descriptorIndex := 218, attributes := #[] }, { accessFlags := 10, nameIndex := 221, descriptorIndex := 222, attributes := #[] }, { accessFlags := 8, nameIndex := 562, descriptorIndex := 563, attributes := #[] }])
  fields := #[{ name := "in", type := (.object "java/io/InputStream"), accessFlags := 25, slot := 0, constantValue := 0 }, { name := "out", type := (.object "java/io/PrintStream"), accessFlags := 25, slot := 1, constantValue := 0 }, { name := "err", type := (.object "java/io/PrintStream"), accessFlags := 25, slot := 2, constantValue := 0 }, { name := "initialIn", type := (.object "java/io/InputStream"), accessFlags := 10, slot := 3, constantValue := 0 }, { name := "NEVER", type := .int, accessFlags := 26, slot := 4, constantValue := 0 }, { name := "MAYBE", type := .int, accessFlags := 26, slot := 5, constantValue := 0 }, { name := "allowSecurityManager", type := .int, accessFlags := 10, slot := 6, constantValue := 0 }, { name := "security", type := (.object "java/lang/SecurityManager"), accessFlags := 74, slot := 7, constantValue := 0 }, { name := "notSupportedJnuEncoding", type := (.object "java/lang/String"), accessFlags := 10, slot := 8, constantValue := 0 }, { name := "cons", type := (.object "java/io/Console"), accessFlags := 74, slot := 9, constantValue := 0 }, { name := "initialErrStream", type := (.object "java/io/PrintStream"), accessFlags := 74, slot := 10, constantValue := 0 }, { name := "props", type := (.object "java/util/Properties"), accessFlags := 10, slot := 11, constantValue := 0 }, { name := "lineSeparator", type := (.object "java/lang/String"), accessFlags := 10, slot := 12, constantValue := 0 }, { name := "bootLayer", type := (.object "java/lang/ModuleLayer"), accessFlags := 8, slot := 13, constantValue := 0 }]
  methods := #[k5m0, k5m1]
  instanceTypes := #[]
  staticTypes := #[(.object "java/io/InputStream"), (.object "java/io/PrintStream"), (.object "java/io/PrintStream"), (.object "java/io/InputStream"), .int, .int, .int, (.object "java/lang/SecurityManager"), (.object "java/lang/String"), (.object "java/io/Console"), (.object "java/io/PrintStream"), (.object "java/util/Properties"), (.object "java/lang/String"), (.object "java/lang/ModuleLayer")]
  resolved := Array.replicate 834 none
  statics := none }

def pool6 : Array CpInfo := pool [(1, u "java/lang/Cloneable"), (0, .class_ 1), (0, u "java/lang/Object"), (0, .class_ 3)] 3

/-- java/lang/Cloneable -/
def k6 : Class := { plain "java/lang/Cloneable" (some 0) with
  accessFlags := 1537
  interfaces := #[]
  cf := some (fileOf pool6 2 #[] #[] 1537 4 #[] #[])
  fields := #[]
  methods := #[]
  instanceTypes := #[]
  staticTypes := #[]
  resolved := Array.replicate 8 none
  statics := none }

def pool7 : Array CpInfo := pool [(1, u "java/io/Serializable"), (0, .class_ 1), (0, u "java/lang/Object"), (0, .class_ 3)] 3

/-- java/io/Serializable -/
def k7 : Class := { plain "java/io/Serializable" (some 0) with
  accessFlags := 1537
  interfaces := #[]
  cf := some (fileOf pool7 2 #[] #[] 1537 4 #[] #[])
  fields := #[]
  methods := #[]
  instanceTypes := #[]
  staticTypes := #[]
  resolved := Array.replicate 8 none
  statics := none }

/-- the primitive byte -/
def k8 : Class := { plain "byte" none with kind := .primitive 'B', accessFlags := 0x411 }
/-- [B -/
def k9 : Class := { plain "[B" (some 0) with kind := .array 8 .byte, interfaces := #[6, 7], accessFlags := 1041 }

/-- the primitive int -/
def k10 : Class := { plain "int" none with kind := .primitive 'I', accessFlags := 0x411 }
/-- [I -/
def k11 : Class := { plain "[I" (some 0) with kind := .array 10 .int, interfaces := #[6, 7], accessFlags := 1041 }

def heap : Heap := #[]
def classes : Array Class := #[k0, k1, k2, k3, k4, k5, k6, k7, k8, k9, k10, k11]
def interned : List (Array UInt16 × Addr) := []
def slotsUsed : Nat := 0
def theMethod : MethodId := ⟨1, 1⟩
def args0 : Array Value := #[.int 5, .int 7, .int 9, .int 3, .int 2, .int 8]
def aboutOver (below : List Frame) : State where
  vm := { classes := classes, interned := interned.toArray }
  heap := heap
  slotsUsed := slotsUsed
  threads := #[{ frames := .invoking theMethod args0 :: below }]
def below0 : List Frame := [.native { method := ⟨0, 0⟩, args := #[] }]
def about1 : State := aboutOver below0
def p0 : Program := .bare "" "" ""
def e0 : Env := launch0.env 0 0 0
theorem w_frames : about1.frames = Frame.invoking theMethod args0 :: below0 := rfl
set_option maxRecDepth 65536 in
theorem w_args : argsFit about1.vm theMethod args0 = true := by decide +kernel
set_option maxRecDepth 65536 in
theorem w_heap : heapFits about1 = true := by decide +kernel
set_option maxRecDepth 65536 in
theorem w_runnable : about1.curStatus? = some .runnable := by decide +kernel
set_option maxRecDepth 65536 in
theorem w_alone : about1.alone = true := by decide +kernel
set_option maxRecDepth 65536 in
theorem w_named : about1.methodNamed? x = some theMethod := by decide +kernel
set_option maxRecDepth 65536 in
theorem w_hears : about1.hears theMethod below0 = true := by decide +kernel
set_option maxRecDepth 65536 in
theorem w_ripe : about1.ripe theMethod args0 below0 = true := by decide +kernel
theorem w_running : about1.status = .running := rfl
set_option maxRecDepth 65536 in
theorem w_room : about1.hasRoom e0.platform room_1 = true :=
  launch0.hasRoom_least _ room_1 (by decide +kernel) (by decide +kernel) (by decide +kernel) (by decide +kernel) (by decide +kernel) (by decide +kernel)
theorem allAtoms_all (ts : List Jvm.Cond) (a : Array Jvm.Value) (st : Jvm.State) : (allAtoms ts).before a st = ts.all (fun c => c.before a st) := by
  induction ts with
  | nil => rfl
  | cons c t ih =>
    show (Jvm.Cond.and c (allAtoms t)).before a st = _
    rw [Jvm.Cond.before_and, ih, List.all_cons]
def words1 : List Jvm.Cond := Jvm.Cond.code x code maxLocals ret :: tables_1
/-- a 'code' word, met by the world's own term for the bytes: nothing is compared byte by byte -/
theorem code_word {y : MethodName} {bytes : ByteArray} {mx : Nat} {rt : Option FieldType} {a : Array Value} {s : State} {m : MethodId} {meth : Method} {c : Code} (h1 : s.methodNamed? y = some m) (h2 : s.vm.method? m = some meth) (h3 : meth.code = some c) (h4 : c.code = bytes)
    (h5 : (c.maxLocals == mx && c.exceptionTable.isEmpty && decide (c.maxStack ≤ mostOperands) && decide (meth.sig.returnType = rt) && !meth.locks && decide (parseMethodDescriptor y.desc = some meth.sig)) = true) : (Jvm.Cond.code y bytes mx rt).before a s = true := by
  simp only [Bool.and_eq_true, beq_iff_eq, Bool.not_eq_true', decide_eq_true_eq] at h5
  obtain ⟨⟨⟨⟨⟨g1, g2⟩, g3⟩, g4⟩, g5⟩, g6⟩ := h5
  simp [Cond.before, Cond.holds, Cond.value, h1, h2, h3, h4, g1, g2, g3, g4, g5, g6]
def isCode : Jvm.Cond → Bool
  | .code _ _ _ _ => true
  | _ => false
theorem all_split {L : List Jvm.Cond} {P : Jvm.Cond → Bool} (h1 : L.all (fun c => isCode c || P c) = true) (h2 : ∀ c ∈ L.filter isCode, P c = true) : L.all P = true := by
  refine List.all_eq_true.mpr fun c hc => ?_
  have h := List.all_eq_true.mp h1 c hc
  rcases Bool.eq_false_or_eq_true (isCode c) with hi | hi
  · exact h2 c (List.mem_filter.mpr ⟨hc, hi⟩)
  · simpa [hi] using h
set_option maxRecDepth 65536 in
theorem w_c0 : (Jvm.Cond.code x code maxLocals ret).before args0 about1 = true := code_word (m := ⟨1, 1⟩) (meth := k1m1) (c := k1c1) (by decide +kernel) rfl rfl rfl (by decide +kernel)
set_option maxRecDepth 65536 in
theorem w_c1 : (Jvm.Cond.code ({ cls := "com/example/racelint/racelint/check/VectorClock", name := "<init>", desc := "()V" } : Jvm.MethodName) prog_16_method_1_code (1 : Nat) (Option.none : Option Jvm.ClassFile.FieldType)).before args0 about1 = true := code_word (m := ⟨2, 0⟩) (meth := k2m0) (c := k2c0) (by decide +kernel) rfl rfl rfl (by decide +kernel)
set_option maxRecDepth 65536 in
theorem w_c2 : (Jvm.Cond.code ({ cls := "java/lang/Object", name := "<init>", desc := "()V" } : Jvm.MethodName) object_method_1_code (1 : Nat) (Option.none : Option Jvm.ClassFile.FieldType)).before args0 about1 = true := code_word (m := ⟨0, 0⟩) (meth := k0m0) (c := k0c0) (by decide +kernel) rfl rfl rfl (by decide +kernel)
set_option maxRecDepth 65536 in
theorem w_c3 : (Jvm.Cond.code ({ cls := "com/example/racelint/racelint/check/VectorClock", name := "get", desc := "(I)I" } : Jvm.MethodName) prog_16_method_2_code (2 : Nat) (Option.some Jvm.ClassFile.FieldType.int)).before args0 about1 = true := code_word (m := ⟨2, 1⟩) (meth := k2m1) (c := k2c1) (by decide +kernel) rfl rfl rfl (by decide +kernel)
set_option maxRecDepth 65536 in
theorem w_c4 : (Jvm.Cond.code ({ cls := "com/example/racelint/racelint/check/VectorClock", name := "set", desc := "(II)V" } : Jvm.MethodName) prog_16_method_3_code (3 : Nat) (Option.none : Option Jvm.ClassFile.FieldType)).before args0 about1 = true := code_word (m := ⟨2, 2⟩) (meth := k2m2) (c := k2c2) (by decide +kernel) rfl rfl rfl (by decide +kernel)
set_option maxRecDepth 65536 in
theorem w_c5 : (Jvm.Cond.code ({ cls := "java/util/Arrays", name := "copyOf", desc := "([II)[I" } : Jvm.MethodName) jdk_65_method_123_code (3 : Nat) (Option.some (Jvm.ClassFile.FieldType.array Jvm.ClassFile.FieldType.int))).before args0 about1 = true := code_word (m := ⟨3, 1⟩) (meth := k3m1) (c := k3c1) (by decide +kernel) rfl rfl rfl (by decide +kernel)
set_option maxRecDepth 65536 in
theorem w_c6 : (Jvm.Cond.code ({ cls := "java/lang/Math", name := "min", desc := "(II)I" } : Jvm.MethodName) jdk_29_method_69_code (2 : Nat) (Option.some Jvm.ClassFile.FieldType.int)).before args0 about1 = true := code_word (m := ⟨4, 1⟩) (meth := k4m1) (c := k4c1) (by decide +kernel) rfl rfl rfl (by decide +kernel)
def codes1 : List Jvm.Cond := [Jvm.Cond.code x code maxLocals ret, Jvm.Cond.code ({ cls := "com/example/racelint/racelint/check/VectorClock", name := "<init>", desc := "()V" } : Jvm.MethodName) prog_16_method_1_code (1 : Nat) (Option.none : Option Jvm.ClassFile.FieldType), Jvm.Cond.code ({ cls := "java/lang/Object", name := "<init>", desc := "()V" } : Jvm.MethodName) object_method_1_code (1 : Nat) (Option.none : Option Jvm.ClassFile.FieldType), Jvm.Cond.code ({ cls := "com/example/racelint/racelint/check/VectorClock", name := "get", desc := "(I)I" } : Jvm.MethodName) prog_16_method_2_code (2 : Nat) (Option.some Jvm.ClassFile.FieldType.int), Jvm.Cond.code ({ cls := "com/example/racelint/racelint/check/VectorClock", name := "set", desc := "(II)V" } : Jvm.MethodName) prog_16_method_3_code (3 : Nat) (Option.none : Option Jvm.ClassFile.FieldType), Jvm.Cond.code ({ cls := "java/util/Arrays", name := "copyOf", desc := "([II)[I" } : Jvm.MethodName) jdk_65_method_123_code (3 : Nat) (Option.some (Jvm.ClassFile.FieldType.array Jvm.ClassFile.FieldType.int)), Jvm.Cond.code ({ cls := "java/lang/Math", name := "min", desc := "(II)I" } : Jvm.MethodName) jdk_29_method_69_code (2 : Nat) (Option.some Jvm.ClassFile.FieldType.int)]
set_option maxRecDepth 65536 in
theorem codes_eq : words1.filter isCode = codes1 := rfl
theorem w_codes : ∀ c ∈ words1.filter isCode, c.before args0 about1 = true := by
  rw [codes_eq]
  intro c hc
  simp only [codes1, List.mem_cons, List.not_mem_nil, or_false] at hc
  rcases hc with rfl | rfl | rfl | rfl | rfl | rfl | rfl
  · exact w_c0
  · exact w_c1
  · exact w_c2
  · exact w_c3
  · exact w_c4
  · exact w_c5
  · exact w_c6
set_option maxRecDepth 65536 in
theorem w_t1 : (words1.take 24).all (fun c => isCode c || c.before args0 about1) = true := by decide +kernel
set_option maxRecDepth 65536 in
theorem w_t2 : (words1.drop 24).all (fun c => isCode c || c.before args0 about1) = true := by decide +kernel
theorem w_tables : (allAtoms (Jvm.Cond.code x code maxLocals ret :: tables_1)).before args0 about1 = true := by
  rw [allAtoms_all]
  show words1.all (fun c => c.before args0 about1) = true
  refine all_split ?_ w_codes
  rw [← List.take_append_drop 24 words1, List.all_append, w_t1, w_t2]
  rfl
set_option maxRecDepth 65536 in
theorem w_case : (Jvm.Cond.and given_1 narrow_1).before args0 about1 = true := by decide +kernel
theorem w_applies : (headSpec (Jvm.Cond.code x code maxLocals ret :: tables_1) room_1).applies x e0.platform about1 = true :=
  (Spec.applies_iff w_frames).mpr ⟨w_running, w_runnable, w_alone, w_named, w_hears, w_ripe, w_room, w_tables⟩
theorem atStart : AtStart classFile x code maxLocals ret World_1 tables_1 room_1 Calls_1 rest_1 Pre_1 launch0 p0 e0 about1 theMethod args0 below0 :=
  ⟨lists_1, trivial, launch0.admits_env _ _ _, launch0.least_env, fairChoices_fair.cas, fairChoices_fair.clock, w_frames, w_args, w_heap, w_applies, trivial, trivial, w_case⟩
end start1
theorem witness_1 : WitnessClaimed_1 := ⟨start1.p0, start1.e0, start1.about1, start1.theMethod, start1.args0, start1.below0, start1.atStart⟩
end Jvm.Pilot.@@N@@
