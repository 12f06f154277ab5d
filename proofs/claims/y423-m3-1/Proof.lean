import JvmDerived
import JvmDerived.Pilot.@@N@@Statement
import JvmDerived.Pilot.@@N@@Code
set_option linter.unusedVariables false
set_option linter.unusedSimpArgs false
namespace Jvm.Pilot.@@N@@
open Jvm Jvm.ClassFile Sem Op Lib Jvm.Free Jvm.Stand Jvm.LawKit Jvm.RoadKit Bundle Jvm.Pilot.@@N@@.Jvm.D
/-- from A the run comes to B -/
abbrev Go (p : Program) (e : Env) (below : List Frame) (A B : State) : Prop := ∀ t, Steps p.tables e below B t → Steps p.tables e below A t
section Own
variable {p : Program} {l : Launch} {e : Env} {R : Room} {s : State} {m : MethodId} {args : Array Value} {below : List Frame} {meth : Method} {c : Code} {T : State} {locs : List Loc} {cells slots : Nat} {t : State} {A : ByteArray} {pc : Nat} {L : Array Slot} {S : List Value}
theorem o_iloadN (X : Stand p l e R s m args below meth c T locs cells slots) (hx : p.tables.exec = Jvm.exec) (hby : c.code = A) {k : Fin 4} {v : Int32} (hd : decode A pc = .ok (.iload_n k, 1)) (n : Nat) (hn : pc + 1 = n) (hl : L[k.val]? = some (.val (.int v))) (hr : Steps p.tables e below (T.setTop (mkF m n L (.int v :: S))) t) : Steps p.tables e below (T.setTop (mkF m pc L S)) t := by
  subst hn; exact XS.iloadN X.here hx rfl (hb hby hd) hl hr
theorem o_lloadN (X : Stand p l e R s m args below meth c T locs cells slots) (hx : p.tables.exec = Jvm.exec) (hby : c.code = A) {k : Fin 4} {v : Int64} (hd : decode A pc = .ok (.lload_n k, 1)) (n : Nat) (hn : pc + 1 = n) (hl : L[k.val]? = some (.val (.long v))) (hr : Steps p.tables e below (T.setTop (mkF m n L (.long v :: S))) t) : Steps p.tables e below (T.setTop (mkF m pc L S)) t := by
  subst hn; exact XS.lloadN X.here hx rfl (hb hby hd) hl hr
theorem o_aloadN (X : Stand p l e R s m args below meth c T locs cells slots) (hx : p.tables.exec = Jvm.exec) (hby : c.code = A) {k : Fin 4} {v : Value} (hd : decode A pc = .ok (.aload_n k, 1)) (n : Nat) (hn : pc + 1 = n) (hl : L[k.val]? = some (.val v)) (hv : v.isRef = true) (hr : Steps p.tables e below (T.setTop (mkF m n L (v :: S))) t) : Steps p.tables e below (T.setTop (mkF m pc L S)) t := by
  subst hn; exact XS.aloadN X.here hx rfl (hb hby hd) hl hv hr
theorem o_istoreN (X : Stand p l e R s m args below meth c T locs cells slots) (hx : p.tables.exec = Jvm.exec) (hby : c.code = A) {k : Fin 4} {v : Int32} {l' : Array Slot} (hd : decode A pc = .ok (.istore_n k, 1)) (n : Nat) (hn : pc + 1 = n) (hl : storeLocals L k.val (.int v) = some l') (hr : Steps p.tables e below (T.setTop (mkF m n l' S)) t) : Steps p.tables e below (T.setTop (mkF m pc L (.int v :: S))) t := by
  subst hn; exact XS.istoreN X.here hx rfl (hb hby hd) rfl hl hr
theorem o_lstoreN (X : Stand p l e R s m args below meth c T locs cells slots) (hx : p.tables.exec = Jvm.exec) (hby : c.code = A) {k : Fin 4} {v : Int64} {l' : Array Slot} (hd : decode A pc = .ok (.lstore_n k, 1)) (n : Nat) (hn : pc + 1 = n) (hl : storeLocals L k.val (.long v) = some l') (hr : Steps p.tables e below (T.setTop (mkF m n l' S)) t) : Steps p.tables e below (T.setTop (mkF m pc L (.long v :: S))) t := by
  subst hn; exact XS.lstoreN X.here hx rfl (hb hby hd) rfl hl hr
theorem o_astoreN (X : Stand p l e R s m args below meth c T locs cells slots) (hx : p.tables.exec = Jvm.exec) (hby : c.code = A) {k : Fin 4} {v : Value} {l' : Array Slot} (hd : decode A pc = .ok (.astore_n k, 1)) (n : Nat) (hn : pc + 1 = n) (hv : v.isRef = true) (hl : storeLocals L k.val v = some l') (hr : Steps p.tables e below (T.setTop (mkF m n l' S)) t) : Steps p.tables e below (T.setTop (mkF m pc L (v :: S))) t := by
  subst hn; exact XS.astoreN X.here hx rfl (hb hby hd) rfl hv hl hr
theorem o_iload (X : Stand p l e R s m args below meth c T locs cells slots) (hx : p.tables.exec = Jvm.exec) (hby : c.code = A) {k : Nat} {v : Int32} (hd : decode A pc = .ok (.iload k, 2)) (n : Nat) (hn : pc + 2 = n) (hl : L[k]? = some (.val (.int v))) (hr : Steps p.tables e below (T.setTop (mkF m n L (.int v :: S))) t) : Steps p.tables e below (T.setTop (mkF m pc L S)) t := by
  subst hn; exact XS.iload X.here hx rfl (hb hby hd) hl hr
theorem o_lload (X : Stand p l e R s m args below meth c T locs cells slots) (hx : p.tables.exec = Jvm.exec) (hby : c.code = A) {k : Nat} {v : Int64} (hd : decode A pc = .ok (.lload k, 2)) (n : Nat) (hn : pc + 2 = n) (hl : L[k]? = some (.val (.long v))) (hr : Steps p.tables e below (T.setTop (mkF m n L (.long v :: S))) t) : Steps p.tables e below (T.setTop (mkF m pc L S)) t := by
  subst hn; exact XS.lload X.here hx rfl (hb hby hd) hl hr
theorem o_aload (X : Stand p l e R s m args below meth c T locs cells slots) (hx : p.tables.exec = Jvm.exec) (hby : c.code = A) {k : Nat} {v : Value} (hd : decode A pc = .ok (.aload k, 2)) (n : Nat) (hn : pc + 2 = n) (hl : L[k]? = some (.val v)) (hv : v.isRef = true) (hr : Steps p.tables e below (T.setTop (mkF m n L (v :: S))) t) : Steps p.tables e below (T.setTop (mkF m pc L S)) t := by
  subst hn; exact XS.aload X.here hx rfl (hb hby hd) hl hv hr
theorem o_istore (X : Stand p l e R s m args below meth c T locs cells slots) (hx : p.tables.exec = Jvm.exec) (hby : c.code = A) {k : Nat} {v : Int32} {l' : Array Slot} (hd : decode A pc = .ok (.istore k, 2)) (n : Nat) (hn : pc + 2 = n) (hl : storeLocals L k (.int v) = some l') (hr : Steps p.tables e below (T.setTop (mkF m n l' S)) t) : Steps p.tables e below (T.setTop (mkF m pc L (.int v :: S))) t := by
  subst hn; exact XS.istore X.here hx rfl (hb hby hd) rfl hl hr
theorem o_lstore (X : Stand p l e R s m args below meth c T locs cells slots) (hx : p.tables.exec = Jvm.exec) (hby : c.code = A) {k : Nat} {v : Int64} {l' : Array Slot} (hd : decode A pc = .ok (.lstore k, 2)) (n : Nat) (hn : pc + 2 = n) (hl : storeLocals L k (.long v) = some l') (hr : Steps p.tables e below (T.setTop (mkF m n l' S)) t) : Steps p.tables e below (T.setTop (mkF m pc L (.long v :: S))) t := by
  subst hn; exact XS.lstore X.here hx rfl (hb hby hd) rfl hl hr
theorem o_astore (X : Stand p l e R s m args below meth c T locs cells slots) (hx : p.tables.exec = Jvm.exec) (hby : c.code = A) {k : Nat} {v : Value} {l' : Array Slot} (hd : decode A pc = .ok (.astore k, 2)) (n : Nat) (hn : pc + 2 = n) (hv : v.isRef = true) (hl : storeLocals L k v = some l') (hr : Steps p.tables e below (T.setTop (mkF m n l' S)) t) : Steps p.tables e below (T.setTop (mkF m pc L (v :: S))) t := by
  subst hn; exact XS.astore X.here hx rfl (hb hby hd) rfl hv hl hr
theorem o_iconst (X : Stand p l e R s m args below meth c T locs cells slots) (hx : p.tables.exec = Jvm.exec) (hby : c.code = A) {i : Int} (hd : decode A pc = .ok (.iconst i, 1)) (n : Nat) (hn : pc + 1 = n) {v : Int32} (hv : Int32.ofInt i = v) (hr : Steps p.tables e below (T.setTop (mkF m n L (.int v :: S))) t) : Steps p.tables e below (T.setTop (mkF m pc L S)) t := by
  subst hn; subst hv; exact XS.iconst X.here hx rfl (hb hby hd) hr
theorem o_bipush (X : Stand p l e R s m args below meth c T locs cells slots) (hx : p.tables.exec = Jvm.exec) (hby : c.code = A) {i : Int} (hd : decode A pc = .ok (.bipush i, 2)) (n : Nat) (hn : pc + 2 = n) {v : Int32} (hv : (Int8.ofInt i).toInt32 = v) (hr : Steps p.tables e below (T.setTop (mkF m n L (.int v :: S))) t) : Steps p.tables e below (T.setTop (mkF m pc L S)) t := by
  subst hn; subst hv; exact XS.bipush X.here hx rfl (hb hby hd) hr
theorem o_sipush (X : Stand p l e R s m args below meth c T locs cells slots) (hx : p.tables.exec = Jvm.exec) (hby : c.code = A) {i : Int} (hd : decode A pc = .ok (.sipush i, 3)) (n : Nat) (hn : pc + 3 = n) {v : Int32} (hv : (Int16.ofInt i).toInt32 = v) (hr : Steps p.tables e below (T.setTop (mkF m n L (.int v :: S))) t) : Steps p.tables e below (T.setTop (mkF m pc L S)) t := by
  subst hn; subst hv; exact XS.sipush X.here hx rfl (hb hby hd) hr
theorem o_lconst (X : Stand p l e R s m args below meth c T locs cells slots) (hx : p.tables.exec = Jvm.exec) (hby : c.code = A) {i : Fin 2} (hd : decode A pc = .ok (.lconst i, 1)) (n : Nat) (hn : pc + 1 = n) {v : Int64} (hv : Int64.ofNat i.val = v) (hr : Steps p.tables e below (T.setTop (mkF m n L (.long v :: S))) t) : Steps p.tables e below (T.setTop (mkF m pc L S)) t := by
  subst hn; subst hv; exact XS.lconst X.here hx rfl (hb hby hd) hr
theorem o_aconstNull (X : Stand p l e R s m args below meth c T locs cells slots) (hx : p.tables.exec = Jvm.exec) (hby : c.code = A) (hd : decode A pc = .ok (.aconst_null, 1)) (n : Nat) (hn : pc + 1 = n) (hr : Steps p.tables e below (T.setTop (mkF m n L (.null :: S))) t) : Steps p.tables e below (T.setTop (mkF m pc L S)) t := by
  subst hn; exact XS.aconstNull X.here hx rfl (hb hby hd) hr
theorem o_iadd (X : Stand p l e R s m args below meth c T locs cells slots) (hx : p.tables.exec = Jvm.exec) (hby : c.code = A) {x y : Int32} (hd : decode A pc = .ok (.iadd, 1)) (n : Nat) (hn : pc + 1 = n) (hr : Steps p.tables e below (T.setTop (mkF m n L (.int (x + y) :: S))) t) : Steps p.tables e below (T.setTop (mkF m pc L (.int y :: .int x :: S))) t := by
  subst hn; exact XS.iadd X.here hx rfl (hb hby hd) rfl hr
theorem o_ladd (X : Stand p l e R s m args below meth c T locs cells slots) (hx : p.tables.exec = Jvm.exec) (hby : c.code = A) {x y : Int64} (hd : decode A pc = .ok (.ladd, 1)) (n : Nat) (hn : pc + 1 = n) (hr : Steps p.tables e below (T.setTop (mkF m n L (.long (x + y) :: S))) t) : Steps p.tables e below (T.setTop (mkF m pc L (.long y :: .long x :: S))) t := by
  subst hn; exact XS.ladd X.here hx rfl (hb hby hd) rfl hr
theorem o_isub (X : Stand p l e R s m args below meth c T locs cells slots) (hx : p.tables.exec = Jvm.exec) (hby : c.code = A) {x y : Int32} (hd : decode A pc = .ok (.isub, 1)) (n : Nat) (hn : pc + 1 = n) (hr : Steps p.tables e below (T.setTop (mkF m n L (.int (x - y) :: S))) t) : Steps p.tables e below (T.setTop (mkF m pc L (.int y :: .int x :: S))) t := by
  subst hn; exact XS.isub X.here hx rfl (hb hby hd) rfl hr
theorem o_lsub (X : Stand p l e R s m args below meth c T locs cells slots) (hx : p.tables.exec = Jvm.exec) (hby : c.code = A) {x y : Int64} (hd : decode A pc = .ok (.lsub, 1)) (n : Nat) (hn : pc + 1 = n) (hr : Steps p.tables e below (T.setTop (mkF m n L (.long (x - y) :: S))) t) : Steps p.tables e below (T.setTop (mkF m pc L (.long y :: .long x :: S))) t := by
  subst hn; exact XS.lsub X.here hx rfl (hb hby hd) rfl hr
theorem o_imul (X : Stand p l e R s m args below meth c T locs cells slots) (hx : p.tables.exec = Jvm.exec) (hby : c.code = A) {x y : Int32} (hd : decode A pc = .ok (.imul, 1)) (n : Nat) (hn : pc + 1 = n) (hr : Steps p.tables e below (T.setTop (mkF m n L (.int (x * y) :: S))) t) : Steps p.tables e below (T.setTop (mkF m pc L (.int y :: .int x :: S))) t := by
  subst hn; exact XS.imul X.here hx rfl (hb hby hd) rfl hr
theorem o_lmul (X : Stand p l e R s m args below meth c T locs cells slots) (hx : p.tables.exec = Jvm.exec) (hby : c.code = A) {x y : Int64} (hd : decode A pc = .ok (.lmul, 1)) (n : Nat) (hn : pc + 1 = n) (hr : Steps p.tables e below (T.setTop (mkF m n L (.long (x * y) :: S))) t) : Steps p.tables e below (T.setTop (mkF m pc L (.long y :: .long x :: S))) t := by
  subst hn; exact XS.lmul X.here hx rfl (hb hby hd) rfl hr
theorem o_iand (X : Stand p l e R s m args below meth c T locs cells slots) (hx : p.tables.exec = Jvm.exec) (hby : c.code = A) {x y : Int32} (hd : decode A pc = .ok (.iand, 1)) (n : Nat) (hn : pc + 1 = n) (hr : Steps p.tables e below (T.setTop (mkF m n L (.int (x &&& y) :: S))) t) : Steps p.tables e below (T.setTop (mkF m pc L (.int y :: .int x :: S))) t := by
  subst hn; exact XS.iand X.here hx rfl (hb hby hd) rfl hr
theorem o_land (X : Stand p l e R s m args below meth c T locs cells slots) (hx : p.tables.exec = Jvm.exec) (hby : c.code = A) {x y : Int64} (hd : decode A pc = .ok (.land, 1)) (n : Nat) (hn : pc + 1 = n) (hr : Steps p.tables e below (T.setTop (mkF m n L (.long (x &&& y) :: S))) t) : Steps p.tables e below (T.setTop (mkF m pc L (.long y :: .long x :: S))) t := by
  subst hn; exact XS.land X.here hx rfl (hb hby hd) rfl hr
theorem o_ior (X : Stand p l e R s m args below meth c T locs cells slots) (hx : p.tables.exec = Jvm.exec) (hby : c.code = A) {x y : Int32} (hd : decode A pc = .ok (.ior, 1)) (n : Nat) (hn : pc + 1 = n) (hr : Steps p.tables e below (T.setTop (mkF m n L (.int (x ||| y) :: S))) t) : Steps p.tables e below (T.setTop (mkF m pc L (.int y :: .int x :: S))) t := by
  subst hn; exact XS.ior X.here hx rfl (hb hby hd) rfl hr
theorem o_lor (X : Stand p l e R s m args below meth c T locs cells slots) (hx : p.tables.exec = Jvm.exec) (hby : c.code = A) {x y : Int64} (hd : decode A pc = .ok (.lor, 1)) (n : Nat) (hn : pc + 1 = n) (hr : Steps p.tables e below (T.setTop (mkF m n L (.long (x ||| y) :: S))) t) : Steps p.tables e below (T.setTop (mkF m pc L (.long y :: .long x :: S))) t := by
  subst hn; exact XS.lor X.here hx rfl (hb hby hd) rfl hr
theorem o_ixor (X : Stand p l e R s m args below meth c T locs cells slots) (hx : p.tables.exec = Jvm.exec) (hby : c.code = A) {x y : Int32} (hd : decode A pc = .ok (.ixor, 1)) (n : Nat) (hn : pc + 1 = n) (hr : Steps p.tables e below (T.setTop (mkF m n L (.int (x ^^^ y) :: S))) t) : Steps p.tables e below (T.setTop (mkF m pc L (.int y :: .int x :: S))) t := by
  subst hn; exact XS.ixor X.here hx rfl (hb hby hd) rfl hr
theorem o_lxor (X : Stand p l e R s m args below meth c T locs cells slots) (hx : p.tables.exec = Jvm.exec) (hby : c.code = A) {x y : Int64} (hd : decode A pc = .ok (.lxor, 1)) (n : Nat) (hn : pc + 1 = n) (hr : Steps p.tables e below (T.setTop (mkF m n L (.long (x ^^^ y) :: S))) t) : Steps p.tables e below (T.setTop (mkF m pc L (.long y :: .long x :: S))) t := by
  subst hn; exact XS.lxor X.here hx rfl (hb hby hd) rfl hr
theorem o_idiv (X : Stand p l e R s m args below meth c T locs cells slots) (hx : p.tables.exec = Jvm.exec) (hby : c.code = A) {x y : Int32} (hd : decode A pc = .ok (.idiv, 1)) (n : Nat) (hn : pc + 1 = n) (hy : ¬ (y = 0)) (hr : Steps p.tables e below (T.setTop (mkF m n L (.int (x / y) :: S))) t) : Steps p.tables e below (T.setTop (mkF m pc L (.int y :: .int x :: S))) t := by
  subst hn; exact XS.idiv X.here hx rfl (hb hby hd) rfl hy hr
theorem o_ldiv (X : Stand p l e R s m args below meth c T locs cells slots) (hx : p.tables.exec = Jvm.exec) (hby : c.code = A) {x y : Int64} (hd : decode A pc = .ok (.ldiv, 1)) (n : Nat) (hn : pc + 1 = n) (hy : ¬ (y = 0)) (hr : Steps p.tables e below (T.setTop (mkF m n L (.long (x / y) :: S))) t) : Steps p.tables e below (T.setTop (mkF m pc L (.long y :: .long x :: S))) t := by
  subst hn; exact XS.ldiv X.here hx rfl (hb hby hd) rfl hy hr
theorem o_irem (X : Stand p l e R s m args below meth c T locs cells slots) (hx : p.tables.exec = Jvm.exec) (hby : c.code = A) {x y : Int32} (hd : decode A pc = .ok (.irem, 1)) (n : Nat) (hn : pc + 1 = n) (hy : ¬ (y = 0)) (hr : Steps p.tables e below (T.setTop (mkF m n L (.int (x % y) :: S))) t) : Steps p.tables e below (T.setTop (mkF m pc L (.int y :: .int x :: S))) t := by
  subst hn; exact XS.irem X.here hx rfl (hb hby hd) rfl hy (by rw [irem_eq_mod]; exact hr)
theorem o_lrem (X : Stand p l e R s m args below meth c T locs cells slots) (hx : p.tables.exec = Jvm.exec) (hby : c.code = A) {x y : Int64} (hd : decode A pc = .ok (.lrem, 1)) (n : Nat) (hn : pc + 1 = n) (hy : ¬ (y = 0)) (hr : Steps p.tables e below (T.setTop (mkF m n L (.long (x % y) :: S))) t) : Steps p.tables e below (T.setTop (mkF m pc L (.long y :: .long x :: S))) t := by
  subst hn; exact XS.lrem X.here hx rfl (hb hby hd) rfl hy (by rw [lrem_mod]; exact hr)
theorem o_ineg (X : Stand p l e R s m args below meth c T locs cells slots) (hx : p.tables.exec = Jvm.exec) (hby : c.code = A) {x : Int32} (hd : decode A pc = .ok (.ineg, 1)) (n : Nat) (hn : pc + 1 = n) (hr : Steps p.tables e below (T.setTop (mkF m n L (.int (-x) :: S))) t) : Steps p.tables e below (T.setTop (mkF m pc L (.int x :: S))) t := by
  subst hn; exact XS.ineg X.here hx rfl (hb hby hd) rfl hr
theorem o_lneg (X : Stand p l e R s m args below meth c T locs cells slots) (hx : p.tables.exec = Jvm.exec) (hby : c.code = A) {x : Int64} (hd : decode A pc = .ok (.lneg, 1)) (n : Nat) (hn : pc + 1 = n) (hr : Steps p.tables e below (T.setTop (mkF m n L (.long (-x) :: S))) t) : Steps p.tables e below (T.setTop (mkF m pc L (.long x :: S))) t := by
  subst hn; exact XS.lneg X.here hx rfl (hb hby hd) rfl hr
theorem o_i2l (X : Stand p l e R s m args below meth c T locs cells slots) (hx : p.tables.exec = Jvm.exec) (hby : c.code = A) {x : Int32} (hd : decode A pc = .ok (.i2l, 1)) (n : Nat) (hn : pc + 1 = n) (hr : Steps p.tables e below (T.setTop (mkF m n L (.long (x.toInt64) :: S))) t) : Steps p.tables e below (T.setTop (mkF m pc L (.int x :: S))) t := by
  subst hn; exact XS.i2l X.here hx rfl (hb hby hd) rfl hr
theorem o_l2i (X : Stand p l e R s m args below meth c T locs cells slots) (hx : p.tables.exec = Jvm.exec) (hby : c.code = A) {x : Int64} (hd : decode A pc = .ok (.l2i, 1)) (n : Nat) (hn : pc + 1 = n) (hr : Steps p.tables e below (T.setTop (mkF m n L (.int (x.toInt32) :: S))) t) : Steps p.tables e below (T.setTop (mkF m pc L (.long x :: S))) t := by
  subst hn; exact XS.l2i X.here hx rfl (hb hby hd) rfl hr
theorem o_i2b (X : Stand p l e R s m args below meth c T locs cells slots) (hx : p.tables.exec = Jvm.exec) (hby : c.code = A) {x : Int32} (hd : decode A pc = .ok (.i2b, 1)) (n : Nat) (hn : pc + 1 = n) (hr : Steps p.tables e below (T.setTop (mkF m n L (.int (x.toInt8.toInt32) :: S))) t) : Steps p.tables e below (T.setTop (mkF m pc L (.int x :: S))) t := by
  subst hn; exact XS.i2b X.here hx rfl (hb hby hd) rfl hr
theorem o_i2s (X : Stand p l e R s m args below meth c T locs cells slots) (hx : p.tables.exec = Jvm.exec) (hby : c.code = A) {x : Int32} (hd : decode A pc = .ok (.i2s, 1)) (n : Nat) (hn : pc + 1 = n) (hr : Steps p.tables e below (T.setTop (mkF m n L (.int (x.toInt16.toInt32) :: S))) t) : Steps p.tables e below (T.setTop (mkF m pc L (.int x :: S))) t := by
  subst hn; exact XS.i2s X.here hx rfl (hb hby hd) rfl hr
theorem o_i2c (X : Stand p l e R s m args below meth c T locs cells slots) (hx : p.tables.exec = Jvm.exec) (hby : c.code = A) {x : Int32} (hd : decode A pc = .ok (.i2c, 1)) (n : Nat) (hn : pc + 1 = n) (hr : Steps p.tables e below (T.setTop (mkF m n L (.int (x.toUInt32.toUInt16.toUInt32.toInt32) :: S))) t) : Steps p.tables e below (T.setTop (mkF m pc L (.int x :: S))) t := by
  subst hn; exact XS.i2c X.here hx rfl (hb hby hd) rfl hr
theorem o_ishl (X : Stand p l e R s m args below meth c T locs cells slots) (hx : p.tables.exec = Jvm.exec) (hby : c.code = A) {x y : Int32} (hd : decode A pc = .ok (.ishl, 1)) (n : Nat) (hn : pc + 1 = n) (hr : Steps p.tables e below (T.setTop (mkF m n L (.int (x <<< (y &&& 31)) :: S))) t) : Steps p.tables e below (T.setTop (mkF m pc L (.int y :: .int x :: S))) t := by
  subst hn; exact XS.ishl X.here hx rfl (hb hby hd) rfl hr
theorem o_ishr (X : Stand p l e R s m args below meth c T locs cells slots) (hx : p.tables.exec = Jvm.exec) (hby : c.code = A) {x y : Int32} (hd : decode A pc = .ok (.ishr, 1)) (n : Nat) (hn : pc + 1 = n) (hr : Steps p.tables e below (T.setTop (mkF m n L (.int (x >>> (y &&& 31)) :: S))) t) : Steps p.tables e below (T.setTop (mkF m pc L (.int y :: .int x :: S))) t := by
  subst hn; exact XS.ishr X.here hx rfl (hb hby hd) rfl hr
theorem o_iushr (X : Stand p l e R s m args below meth c T locs cells slots) (hx : p.tables.exec = Jvm.exec) (hby : c.code = A) {x y : Int32} (hd : decode A pc = .ok (.iushr, 1)) (n : Nat) (hn : pc + 1 = n) (hr : Steps p.tables e below (T.setTop (mkF m n L (.int ((x.toUInt32 >>> (y &&& 31).toUInt32).toInt32) :: S))) t) : Steps p.tables e below (T.setTop (mkF m pc L (.int y :: .int x :: S))) t := by
  subst hn; exact XS.iushr X.here hx rfl (hb hby hd) rfl hr
theorem o_lshl (X : Stand p l e R s m args below meth c T locs cells slots) (hx : p.tables.exec = Jvm.exec) (hby : c.code = A) {x : Int64} {y : Int32} (hd : decode A pc = .ok (.lshl, 1)) (n : Nat) (hn : pc + 1 = n) (hr : Steps p.tables e below (T.setTop (mkF m n L (.long (x <<< (y &&& 0x3f).toInt64) :: S))) t) : Steps p.tables e below (T.setTop (mkF m pc L (.int y :: .long x :: S))) t := by
  subst hn; exact XS.lshl X.here hx rfl (hb hby hd) rfl hr
theorem o_lshr (X : Stand p l e R s m args below meth c T locs cells slots) (hx : p.tables.exec = Jvm.exec) (hby : c.code = A) {x : Int64} {y : Int32} (hd : decode A pc = .ok (.lshr, 1)) (n : Nat) (hn : pc + 1 = n) (hr : Steps p.tables e below (T.setTop (mkF m n L (.long (x >>> (y &&& 0x3f).toInt64) :: S))) t) : Steps p.tables e below (T.setTop (mkF m pc L (.int y :: .long x :: S))) t := by
  subst hn; exact XS.lshr X.here hx rfl (hb hby hd) rfl hr
theorem o_lushr (X : Stand p l e R s m args below meth c T locs cells slots) (hx : p.tables.exec = Jvm.exec) (hby : c.code = A) {x : Int64} {y : Int32} (hd : decode A pc = .ok (.lushr, 1)) (n : Nat) (hn : pc + 1 = n) (hr : Steps p.tables e below (T.setTop (mkF m n L (.long ((x.toUInt64 >>> (y &&& 0x3f).toInt64.toUInt64).toInt64) :: S))) t) : Steps p.tables e below (T.setTop (mkF m pc L (.int y :: .long x :: S))) t := by
  subst hn; exact XS.lushr X.here hx rfl (hb hby hd) rfl hr
theorem o_lcmp (X : Stand p l e R s m args below meth c T locs cells slots) (hx : p.tables.exec = Jvm.exec) (hby : c.code = A) {x y : Int64} (hd : decode A pc = .ok (.lcmp, 1)) (n : Nat) (hn : pc + 1 = n) (hr : Steps p.tables e below (T.setTop (mkF m n L (.int (lcmpW x y) :: S))) t) : Steps p.tables e below (T.setTop (mkF m pc L (.long y :: .long x :: S))) t := by
  subst hn; exact XS.lcmp X.here hx rfl (hb hby hd) rfl hr
theorem o_dup (X : Stand p l e R s m args below meth c T locs cells slots) (hx : p.tables.exec = Jvm.exec) (hby : c.code = A) {x : Value} (hd : decode A pc = .ok (.dup, 1)) (n : Nat) (hn : pc + 1 = n) (hc : x.category = 1) (hr : Steps p.tables e below (T.setTop (mkF m n L (x :: x :: S))) t) : Steps p.tables e below (T.setTop (mkF m pc L (x :: S))) t := by
  subst hn; exact XS.dup X.here hx rfl (hb hby hd) rfl hc hr
theorem o_dupX1 (X : Stand p l e R s m args below meth c T locs cells slots) (hx : p.tables.exec = Jvm.exec) (hby : c.code = A) {x y : Value} (hd : decode A pc = .ok (.dup_x1, 1)) (n : Nat) (hn : pc + 1 = n) (hc : x.category = 1) (hc' : y.category = 1) (hr : Steps p.tables e below (T.setTop (mkF m n L (x :: y :: x :: S))) t) : Steps p.tables e below (T.setTop (mkF m pc L (x :: y :: S))) t := by
  subst hn; exact XT.dupX1 X.here hx rfl (hb hby hd) rfl hc hc' hr
theorem o_dup2 (X : Stand p l e R s m args below meth c T locs cells slots) (hx : p.tables.exec = Jvm.exec) (hby : c.code = A) {x y : Value} (hd : decode A pc = .ok (.dup2, 1)) (n : Nat) (hn : pc + 1 = n) (hc : x.category = 1) (hc' : y.category = 1) (hr : Steps p.tables e below (T.setTop (mkF m n L (x :: y :: x :: y :: S))) t) : Steps p.tables e below (T.setTop (mkF m pc L (x :: y :: S))) t := by
  subst hn; exact XT.dup2 X.here hx rfl (hb hby hd) rfl hc hc' hr
theorem o_iinc (X : Stand p l e R s m args below meth c T locs cells slots) (hx : p.tables.exec = Jvm.exec) (hby : c.code = A) {k : Nat} {cst : Int} {x : Int32} {l' : Array Slot} (hd : decode A pc = .ok (.iinc k cst, 3)) (n : Nat) (hn : pc + 3 = n) (hl : L[k]? = some (.val (.int x))) {i : Int32} (hi : Int32.ofInt cst = i) (hl' : storeLocals L k (.int (x + i)) = some l') (hr : Steps p.tables e below (T.setTop (mkF m n l' S)) t) : Steps p.tables e below (T.setTop (mkF m pc L S)) t := by
  subst hn; subst hi; exact XS.iinc X.here hx rfl (hb hby hd) hl hl' hr
theorem o_pop (X : Stand p l e R s m args below meth c T locs cells slots) (hx : p.tables.exec = Jvm.exec) (hby : c.code = A) {x : Value} (hd : decode A pc = .ok (.pop, 1)) (n : Nat) (hn : pc + 1 = n) (hc : x.category = 1) (hr : Steps p.tables e below (T.setTop (mkF m n L S)) t) : Steps p.tables e below (T.setTop (mkF m pc L (x :: S))) t := by
  subst hn; exact XT.pop X.here hx rfl (hb hby hd) rfl hc hr
theorem o_goto (X : Stand p l e R s m args below meth c T locs cells slots) (hx : p.tables.exec = Jvm.exec) (hby : c.code = A) {o : Int} (hd : decode A pc = .ok (.goto o, 3)) (n : Nat) (hn : (pc : Int) + o = (n : Int)) (hr : Steps p.tables e below (T.setTop (mkF m n L S)) t) : Steps p.tables e below (T.setTop (mkF m pc L S)) t :=
  XS.goto X.here hx rfl (pc0 := pc) (pc' := n) rfl (hb hby hd) (by omega) (by omega) hr
theorem o_ifY (X : Stand p l e R s m args below meth c T locs cells slots) (hx : p.tables.exec = Jvm.exec) (hby : c.code = A) {cd : ClassFile.Cond} {x : Int32} {o : Int} (hd : decode A pc = .ok (.ifCond cd o, 3)) (n : Nat) (hn : (pc : Int) + o = (n : Int)) (hc : if_icmp.holds cd x 0 = true) (hr : Steps p.tables e below (T.setTop (mkF m n L S)) t) : Steps p.tables e below (T.setTop (mkF m pc L (.int x :: S))) t :=
  XS.ifYes X.here hx rfl (pc0 := pc) (pc' := n) rfl (hb hby hd) rfl ((if0 _ _).trans hc) (by omega) (by omega) hr
theorem o_ifN (X : Stand p l e R s m args below meth c T locs cells slots) (hx : p.tables.exec = Jvm.exec) (hby : c.code = A) {cd : ClassFile.Cond} {x : Int32} {o : Int} (hd : decode A pc = .ok (.ifCond cd o, 3)) (n : Nat) (hn : pc + 3 = n) (hc : if_icmp.holds cd x 0 = false) (hr : Steps p.tables e below (T.setTop (mkF m n L S)) t) : Steps p.tables e below (T.setTop (mkF m pc L (.int x :: S))) t := by
  subst hn; exact XS.ifNo X.here hx rfl (hb hby hd) rfl ((if0 _ _).trans hc) hr
theorem o_icmpY (X : Stand p l e R s m args below meth c T locs cells slots) (hx : p.tables.exec = Jvm.exec) (hby : c.code = A) {cd : ClassFile.Cond} {x y : Int32} {o : Int} (hd : decode A pc = .ok (.if_icmp cd o, 3)) (n : Nat) (hn : (pc : Int) + o = (n : Int)) (hc : if_icmp.holds cd x y = true) (hr : Steps p.tables e below (T.setTop (mkF m n L S)) t) : Steps p.tables e below (T.setTop (mkF m pc L (.int y :: .int x :: S))) t :=
  XS.icmpYes X.here hx rfl (pc0 := pc) (pc' := n) rfl (hb hby hd) rfl hc (by omega) (by omega) hr
theorem o_icmpN (X : Stand p l e R s m args below meth c T locs cells slots) (hx : p.tables.exec = Jvm.exec) (hby : c.code = A) {cd : ClassFile.Cond} {x y : Int32} {o : Int} (hd : decode A pc = .ok (.if_icmp cd o, 3)) (n : Nat) (hn : pc + 3 = n) (hc : if_icmp.holds cd x y = false) (hr : Steps p.tables e below (T.setTop (mkF m n L S)) t) : Steps p.tables e below (T.setTop (mkF m pc L (.int y :: .int x :: S))) t := by
  subst hn; exact XS.icmpNo X.here hx rfl (hb hby hd) rfl hc hr
theorem o_ifnullY (X : Stand p l e R s m args below meth c T locs cells slots) (hx : p.tables.exec = Jvm.exec) (hby : c.code = A) {o : Int} (hd : decode A pc = .ok (.ifnull o, 3)) (n : Nat) (hn : (pc : Int) + o = (n : Int)) (hr : Steps p.tables e below (T.setTop (mkF m n L S)) t) : Steps p.tables e below (T.setTop (mkF m pc L (.null :: S))) t :=
  XS.ifnullYes X.here hx rfl (pc0 := pc) (pc' := n) rfl (hb hby hd) rfl (by omega) (by omega) hr
theorem o_ifnullN (X : Stand p l e R s m args below meth c T locs cells slots) (hx : p.tables.exec = Jvm.exec) (hby : c.code = A) {a : Addr} {o : Int} (hd : decode A pc = .ok (.ifnull o, 3)) (n : Nat) (hn : pc + 3 = n) (hr : Steps p.tables e below (T.setTop (mkF m n L S)) t) : Steps p.tables e below (T.setTop (mkF m pc L (.ref a :: S))) t := by
  subst hn; exact XS.ifnullNo X.here hx rfl (hb hby hd) rfl hr
theorem o_ifnonnullY (X : Stand p l e R s m args below meth c T locs cells slots) (hx : p.tables.exec = Jvm.exec) (hby : c.code = A) {a : Addr} {o : Int} (hd : decode A pc = .ok (.ifnonnull o, 3)) (n : Nat) (hn : (pc : Int) + o = (n : Int)) (hr : Steps p.tables e below (T.setTop (mkF m n L S)) t) : Steps p.tables e below (T.setTop (mkF m pc L (.ref a :: S))) t :=
  XS.ifnonnullYes X.here hx rfl (pc0 := pc) (pc' := n) rfl (hb hby hd) rfl (by omega) (by omega) hr
theorem o_ifnonnullN (X : Stand p l e R s m args below meth c T locs cells slots) (hx : p.tables.exec = Jvm.exec) (hby : c.code = A) {o : Int} (hd : decode A pc = .ok (.ifnonnull o, 3)) (n : Nat) (hn : pc + 3 = n) (hr : Steps p.tables e below (T.setTop (mkF m n L S)) t) : Steps p.tables e below (T.setTop (mkF m pc L (.null :: S))) t := by
  subst hn; exact XS.ifnonnullNo X.here hx rfl (hb hby hd) rfl hr
theorem o_acmp (X : Stand p l e R s m args below meth c T locs cells slots) (hx : p.tables.exec = Jvm.exec) (hby : c.code = A) {cd : ClassFile.ACond} {x y : Value} {o : Int} (hd : decode A pc = .ok (.if_acmp cd o, 3)) (n : Nat) {same : Bool} (h1 : x.isRef = true) (h2 : y.isRef = true) (hq : decide (x = y) = same) (ho : 0 ≤ (pc : Int) + o) (hp : n = if acV cd same = true then ((pc : Int) + o).toNat else pc + 3) (hr : Steps p.tables e below (T.setTop (mkF m n L S)) t) : Steps p.tables e below (T.setTop (mkF m pc L (y :: x :: S))) t :=
  Jvm.RoadKit.acmp X hx rfl h1 h2 (pc0 := pc) (pc' := n) rfl (hb hby hd) rfl hq ho hp hr
theorem o_ldcInt (X : Stand p l e R s m args below meth c T locs cells slots) (hx : p.tables.exec = Jvm.exec) (hby : c.code = A) {own : String} {i : Nat} {v : Int32} (hown : s.vm.findClass own = some m.cls) (hc : (Cond.constant own i v).before args s = true) (hd : decode A pc = .ok (.ldc i, 2)) (n : Nat) (hn : pc + 2 = n) (hr : Steps p.tables e below (T.setTop (mkF m n L (.int v :: S))) t) : Steps p.tables e below (T.setTop (mkF m pc L S)) t := by
  subst hn; exact X.ldcInt hx hown hc (g := mkF m pc L S) rfl (hb hby hd) t hr
theorem o_ldcwInt (X : Stand p l e R s m args below meth c T locs cells slots) (hx : p.tables.exec = Jvm.exec) (hby : c.code = A) {own : String} {i : Nat} {v : Int32} (hown : s.vm.findClass own = some m.cls) (hc : (Cond.constant own i v).before args s = true) (hd : decode A pc = .ok (.ldc_w i, 3)) (n : Nat) (hn : pc + 3 = n) (hr : Steps p.tables e below (T.setTop (mkF m n L (.int v :: S))) t) : Steps p.tables e below (T.setTop (mkF m pc L S)) t := by
  subst hn; exact X.ldcwInt hx hown hc (g := mkF m pc L S) rfl (hb hby hd) t hr
theorem o_ldc2Long (X : Stand p l e R s m args below meth c T locs cells slots) (hx : p.tables.exec = Jvm.exec) (hby : c.code = A) {own : String} {i : Nat} {v : Int64} (hown : s.vm.findClass own = some m.cls) (hc : (Cond.constantLong own i v).before args s = true) (hd : decode A pc = .ok (.ldc2_w i, 3)) (n : Nat) (hn : pc + 3 = n) (hr : Steps p.tables e below (T.setTop (mkF m n L (.long v :: S))) t) : Steps p.tables e below (T.setTop (mkF m pc L S)) t := by
  subst hn; exact X.ldc2Long hx hown hc (g := mkF m pc L S) rfl (hb hby hd) t hr
theorem o_b0 : narrow .boolean (.int (0 : Int32)) = .int (0 : Int32) := by decide
theorem o_b1 : narrow .boolean (.int (1 : Int32)) = .int (1 : Int32) := by decide
theorem o_b01 {z : Int32} (h : z = 0 ∨ z = 1) : narrow .boolean (.int z) = .int z := by rcases h with rfl | rfl <;> decide
theorem o_nf {z : Int32} (h : z = 0 ∨ z = 1) : narrow .boolean (.int z) = .int z ∧ fits .boolean (.int z) = true := by rcases h with rfl | rfl <;> decide
theorem o_retZ (X : Stand p l e R s m args below meth c T locs cells slots) (hx : p.tables.exec = Jvm.exec) {Ls : Array Slot} {z : Int32} {rest : List Value} (hret : meth.sig.returnType = some .boolean)
    (hd : decode c.code pc = .ok (.ireturn, 1)) (hz : z = 0 ∨ z = 1) {fs : List Frame} (hl : ∀ (f : JFrame) (acts : List Action), f.method = m → f.locked = none → f.entered = [] → (doReturn e (T.setTop f) acts (some (.int z))).1 = T.setFrames fs) :
    Steps p.tables e below (T.setTop (mkF m pc Ls (.int z :: rest))) (T.setFrames fs) :=
  retOut X hx hret (o_b01 hz) (Or.inl ⟨rfl, Or.inr (Or.inl rfl), z, rfl⟩) hd hl
theorem o_retI (X : Stand p l e R s m args below meth c T locs cells slots) (hx : p.tables.exec = Jvm.exec) {Ls : Array Slot} {z : Int32} {rest : List Value} (hret : meth.sig.returnType = some .int)
    (hd : decode c.code pc = .ok (.ireturn, 1)) {fs : List Frame} (hl : ∀ (f : JFrame) (acts : List Action), f.method = m → f.locked = none → f.entered = [] → (doReturn e (T.setTop f) acts (some (.int z))).1 = T.setFrames fs) :
    Steps p.tables e below (T.setTop (mkF m pc Ls (.int z :: rest))) (T.setFrames fs) :=
  retOut X hx hret rfl (Or.inl ⟨rfl, Or.inl rfl, z, rfl⟩) hd hl
theorem o_retB (X : Stand p l e R s m args below meth c T locs cells slots) (hx : p.tables.exec = Jvm.exec) {Ls : Array Slot} {z : Int32} {rest : List Value} (hret : meth.sig.returnType = some .byte)
    (hd : decode c.code pc = .ok (.ireturn, 1)) (hz : narrow .byte (.int z) = .int z) {fs : List Frame} (hl : ∀ (f : JFrame) (acts : List Action), f.method = m → f.locked = none → f.entered = [] → (doReturn e (T.setTop f) acts (some (.int z))).1 = T.setFrames fs) :
    Steps p.tables e below (T.setTop (mkF m pc Ls (.int z :: rest))) (T.setFrames fs) :=
  retOut X hx hret hz (Or.inl ⟨rfl, Or.inr (Or.inr (Or.inl rfl)), z, rfl⟩) hd hl
theorem o_retJ (X : Stand p l e R s m args below meth c T locs cells slots) (hx : p.tables.exec = Jvm.exec) {Ls : Array Slot} {z : Int64} {rest : List Value} (hret : meth.sig.returnType = some .long)
    (hd : decode c.code pc = .ok (.lreturn, 1)) {fs : List Frame} (hl : ∀ (f : JFrame) (acts : List Action), f.method = m → f.locked = none → f.entered = [] → (doReturn e (T.setTop f) acts (some (.long z))).1 = T.setFrames fs) :
    Steps p.tables e below (T.setTop (mkF m pc Ls (.long z :: rest))) (T.setFrames fs) :=
  retOut X hx hret rfl (Or.inr (Or.inl ⟨rfl, rfl, z, rfl⟩)) hd hl
theorem o_retR (X : Stand p l e R s m args below meth c T locs cells slots) (hx : p.tables.exec = Jvm.exec) {Ls : Array Slot} {w : Value} {ty : FieldType} {rest : List Value} (hret : meth.sig.returnType = some ty) (ht : ty.isReference = true)
    (hd : decode c.code pc = .ok (.areturn, 1)) (hw : w.isRef = true) (hn : narrow ty w = w) {fs : List Frame} (hl : ∀ (f : JFrame) (acts : List Action), f.method = m → f.locked = none → f.entered = [] → (doReturn e (T.setTop f) acts (some w)).1 = T.setFrames fs) :
    Steps p.tables e below (T.setTop (mkF m pc Ls (w :: rest))) (T.setFrames fs) :=
  retOut X hx hret hn (Or.inr (Or.inr (Or.inr (Or.inr ⟨rfl, ht, hw⟩)))) hd hl
end Own

abbrev own_EL : List (String × Nat) := [("java/lang/String", 7)]
theorem own_ew {Z : State} {aw : Array Value} (hw : ∀ d ∈ tables_1, d.before aw Z = true) : EW Z aw own_EL := EW.cons (hw _ (List.mem_of_getElem? (i := 53) rfl)) (by decide) EW.nil
theorem own_safe {Z : State} {EL : List (String × Nat)} {vm : Vm} {h : Heap} {x : Addr} (hal : Z.vm.Alike vm) (E : Exa Z h x "java/lang/String") (F : Fld Z h x "java/lang/String" "value" "[B" .null) : Safe Z EL vm h x := fun B => by
  obtain ⟨cell, k, e1, e2, e3, -, -⟩ := E
  obtain ⟨cell', cf, k', i, f, f1, f2, f3, -, -, -, f7⟩ := F
  cases e1.symm.trans f1
  obtain ⟨p, -, u, a, -, q, -, G, rfl | rfl⟩ := B
  · cases (show h[q.sa]? = some q.sC from G.ha).symm.trans e1
    obtain ⟨cS, ⟨⟨-, -, -, ⟨c1, k1, i1, g1, -⟩, -, -, -, v1, -⟩, -⟩, -⟩ := G
    obtain ⟨k3, g3⟩ := ff_back (U := Wst Z vm h) hal g1
    have g4 := f2.symm.trans g3
    simp only [Option.some.injEq, Prod.mk.injEq] at g4
    rw [← g4.2.2.2, f7] at v1
    cases v1
  · cases (show h[q.sd]? = some q.SA from G.hd).symm.trans e1
    obtain ⟨cS, -, -, f', -⟩ := G
    have f2' : Z.vm.findClass "[B" = some q.SA.cls := by rw [← hal.findClass]; exact f'
    obtain ⟨k1, q1, q2⟩ := Vm.findClass_spec f2'
    obtain ⟨k2, q3, q4⟩ := Vm.findClass_spec e2
    cases q1.symm.trans q3
    exact absurd (q2.symm.trans q4) (by decide)
theorem own_nb (x : Int32) : narrow .byte (.int (x.toInt8.toInt32)) = .int (x.toInt8.toInt32) := by simp [narrow]
def own_b (a : Int32) : Int32 := nar .byte ((nar .char a).toInt8.toInt32)
def own_vs (n a b : Int32) : List Value := if n = 0 then [] else if n = 1 then [.int (own_b a)] else [.int (own_b a), .int (own_b b)]
theorem own_vs0 (a b : Int32) : own_vs 0 a b = [] := rfl
theorem own_vs1 (a b : Int32) : own_vs 1 a b = [.int (own_b a)] := rfl
theorem own_vs2 (a b : Int32) : own_vs 2 a b = [.int (own_b a), .int (own_b b)] := rfl
theorem own_g0 {n a b : Int32} {dv : Value} (h : (0 : Int32) < n) : (own_vs n a b).getD (0 : Int32).toNatClampNeg dv = .int (own_b a) := by
  unfold own_vs
  by_cases q : n = 0
  · subst q; exact absurd h (by decide)
  · rw [if_neg q]; by_cases u : n = 1
    · rw [if_pos u]; rfl
    · rw [if_neg u]; rfl
theorem own_g1 {n a b : Int32} {dv : Value} (h : (1 : Int32) < n) : (own_vs n a b).getD (1 : Int32).toNatClampNeg dv = .int (own_b b) := by
  unfold own_vs
  by_cases q : n = 0
  · subst q; exact absurd h (by decide)
  · rw [if_neg q]; by_cases u : n = 1
    · subst u; exact absurd h (by decide)
    · rw [if_neg u]; rfl
theorem own_c255 (x : Int32) : ¬ (255 : Int32) < (nar .char ((x &&& (255 : Int32)).toUInt32.toUInt16.toUInt32.toInt32)) := by
  rw [i2c_mask]; show ¬ (255 : Int32) < (x &&& 255).toUInt32.toUInt16.toUInt32.toInt32
  rw [i2c_mask, Int32.lt_iff_toInt_lt, c_mask x 255 8 (by decide) (by decide)]; simp only [Int32.reduceToInt]; omega
theorem own_root {Z : State} {aw : Array Value} {O K : String} {n : Nat} (w : (Cond.noSuperclass O).before aw Z = true) (wk : (Cond.instantiable K n).before aw Z = true) (hn : O ≠ K) : NS Z O K := by
  obtain ⟨c, k, h1, h2, h3, -, -⟩ := Cond.noSuperclass_spec w
  obtain ⟨t, kt, g1, -⟩ := Cond.instantiable_spec wk
  have ne := ids_ne h1 g1 hn
  refine ⟨c, t, h1, g1, fun fuel => ?_⟩
  cases fuel with
  | zero => rfl
  | succ f => simp [Vm.isSubclassAux, ne, h2, h3]
theorem own_no {Z : State} {aw : Array Value} {C S K : String} {n : Nat} (w : (Cond.superclass C S).before aw Z = true) (wk : (Cond.instantiable K n).before aw Z = true) (q : NS Z C K) (hn : C ≠ K) : ∃ c t, Z.vm.findClass C = some c ∧ Z.vm.findClass K = some t ∧ Z.vm.assignable c t = false := by
  obtain ⟨c, t, h0, g0, n3⟩ := q
  obtain ⟨p, k, kp, h1, h2, h3, h4, h5, -, h7⟩ := Cond.superclass_spec h0 w
  obtain ⟨t', kt, g1, g2, g3, g4, -⟩ := Cond.instantiable_spec wk
  cases g0.symm.trans g1
  have ne := ids_ne h0 g0 hn
  have g5 : kt.isInterface = false := (Bool.or_eq_false_iff.mp g4).1
  refine ⟨c, t, h0, g0, ?_⟩
  show Z.vm.assignableAux (255 + 1) c t = false
  simp [Vm.assignableAux, ne, h2, g2, h5, g3, g5, Vm.isSubclass, n3]
theorem d7_0 : decode jdk_52_method_15_code 0 = .ok (.iload_n 1, 1) := by decide +kernel
theorem d7_1 : decode jdk_52_method_15_code 1 = .ok (.aload_n 0, 1) := by decide +kernel
theorem d7_2 : decode jdk_52_method_15_code 2 = .ok (.arraylength, 1) := by decide +kernel
theorem d7_3 : decode jdk_52_method_15_code 3 = .ok (.isub, 1) := by decide +kernel
theorem d7_4 : decode jdk_52_method_15_code 4 = .ok (.bipush 31, 2) := by decide +kernel
theorem d7_6 : decode jdk_52_method_15_code 6 = .ok (.iushr, 1) := by decide +kernel
theorem d7_7 : decode jdk_52_method_15_code 7 = .ok (.i2b, 1) := by decide +kernel
theorem d7_8 : decode jdk_52_method_15_code 8 = .ok (.ireturn, 1) := by decide +kernel
theorem pn_7 : plainName "java/lang/StringUTF16" = true := by first | (simp [plainName, overriddenIn]; done) | decide +kernel
theorem ef_71 (m : MethodId) (x0 : Addr) : entryFrame m #[(.ref x0), (.int (1 : Int32))] 2 = mkF m 0 #[.val (.ref x0), .val (.int (1 : Int32))] [] := by first | (simp [entryFrame, mkF, argsToLocals, Value.category]; done) | rfl
def Q71 (Z : State) (a0 : Addr) (ka : ClassId) (x0 : Int32) (h0 : Heap) (n0 : Nat) (v : Option Value) (h : Heap) (L : List Loc) : Prop := v = some (.int (0 : Int32)) ∧ Fr n0 L ∧ h = h0
set_option maxRecDepth 65536 in
set_option maxHeartbeats 40000000 in
theorem rm71 (l : Launch) (Z : State) (aw : Array Value) (hw : ∀ d ∈ tables_1, d.before aw Z = true) (ws : List Jvm.Cond) (a0 : Addr) (ka : ClassId) (x0 : Int32) (h0 : Heap) (n0 : Nat) (Z0 : n0 ≤ h0.size) (r0 : Arv Z h0 a0 ka .byte (1 : Int32) [(.int x0)] (.int (0 : Int32))) :
    MetFree l (⟨"java/lang/StringUTF16", "coderFromArrayLen", "([BI)B"⟩ : MethodName) (head1 (Jvm.Cond.code (⟨"java/lang/StringUTF16", "coderFromArrayLen", "([BI)B"⟩ : MethodName) jdk_52_method_15_code 2 (some .byte) :: ws) ({ frames := 0, cells := 0, slots := 0, locals := 0 } : Room)) (fun a U => a = #[(.ref a0), (.int (1 : Int32))] ∧ Z.Warmed39 U.vm ∧ U.heap = h0) (fun _ _ _ _ _ => True) (fun _ U o U' => ∃ v L, o = .returned v ∧ Q71 Z a0 ka x0 h0 n0 v U'.heap L ∧ FrameEnd U o U' L ({ frames := 0, cells := 0, slots := 0, locals := 0 } : Room).cells ({ frames := 0, cells := 0, slots := 0, locals := 0 } : Room).slots) := by
  refine MetFree.of_bodySF (plainFor_of_name pn_7) hisR ?_
  intro p e s m args below meth c s₁ Bd hml0 hP hK
  obtain ⟨rfl, hZ, hh⟩ := hP
  have hx := Bd.exec
  have hby := Bd.bytes
  have hml : c.maxLocals = 2 := hml0
  have hown : s.vm.findClass "java/lang/StringUTF16" = some m.cls := findClass_of_methodNamed Bd.named
  have hnm := (name_of_methodNamed Bd.named Bd.method).1
  have X0 : Stand p l e ({ frames := 0, cells := 0, slots := 0, locals := 0 } : Room) s m #[(.ref a0), (.int (1 : Int32))] below meth c s₁ [] 0 0 := Stand.of_body Bd
  have e0 : s₁.heap = h0 := by rw [← hh, Bd.state]; rfl
  have N0 := Fr.nil n0
  obtain ⟨A0, hA0⟩ : ∃ A0, A0 = s₁.setTop (entryFrame m #[(.ref a0), (.int (1 : Int32))] 2) := ⟨_, rfl⟩
  have go0 : Go p e below A0 (s₁.setTop (mkF m 0 #[.val (.ref a0), .val (.int (1 : Int32))] [])) := fun t k => by rw [hA0]; exact castTop (ef_71 m a0) k
  obtain ⟨cl1, Ar1, q1, S1, M1, H1, G1⟩ := id r0
  have go1 : Go p e below A0 (s₁.setTop (mkF m 8 #[.val (.ref a0), .val (.int (1 : Int32))] [(.int (((((1 : Int32) - (1 : Int32)).toUInt32 >>> ((31 : Int32) &&& 31).toUInt32).toInt32).toInt8.toInt32))])) := by
    intro t k
    refine go0 t ?_
    refine o_iloadN X0 hx hby d7_0 1 rfl rfl ?_
    refine o_aloadN X0 hx hby d7_1 2 rfl rfl rfl ?_
    refine X0.arraylength hx (by rw [e0]; exact Ar1.1) (State.isArrayOf_alike hZ.alike Ar1.2.1) (g := (mkF m 2 #[.val (.ref a0), .val (.int (1 : Int32))] [(.ref a0), (.int (1 : Int32))])) rfl rfl (hb hby d7_2) _ ?_
    rw [len_of S1 M1]
    show Steps p.tables e below (s₁.setTop (mkF m 3 #[.val (.ref a0), .val (.int (1 : Int32))] [(.int (1 : Int32)), (.int (1 : Int32))])) _
    refine o_isub X0 hx hby d7_3 4 rfl ?_
    refine o_bipush X0 hx hby d7_4 6 rfl (v := (31 : Int32)) rfl ?_
    refine o_iushr X0 hx hby d7_6 7 rfl ?_
    refine o_i2b X0 hx hby d7_7 8 rfl ?_
    exact k
  have hF : (((((1 : Int32) - (1 : Int32)).toUInt32 >>> ((31 : Int32) &&& 31).toUInt32).toInt32).toInt8.toInt32) = (0 : Int32) := by
    decide
  rw [hA0] at go1
  obtain ⟨fs, hr, hrun, hended, hW, hsame⟩ := X0.leave (v := some (.int (((((1 : Int32) - (1 : Int32)).toUInt32 >>> ((31 : Int32) &&& 31).toUInt32).toInt32).toInt8.toInt32))) (fun h => by rw [Bd.returns] at h; cases h)
  refine ⟨_, _, go1 _ (o_retB X0 hx Bd.returns (hb hby d7_8) (by decide) hr), hrun, hended, _, _, rfl, ?_, ⟨_, rfl⟩, hW, hsame.mono (by decide) (by decide)⟩
  show Q71 Z a0 ka x0 h0 n0 _ s₁.heap _
  rw [e0]
  exact ⟨by rw [← hF], N0, rfl⟩
theorem d6_0 : decode jdk_52_method_21_code 0 = .ok (.iconst 0, 1) := by decide +kernel
theorem d6_1 : decode jdk_52_method_21_code 1 = .ok (.istore 5, 2) := by decide +kernel
theorem d6_3 : decode jdk_52_method_21_code 3 = .ok (.iload 5, 2) := by decide +kernel
theorem d6_5 : decode jdk_52_method_21_code 5 = .ok (.iload 4, 2) := by decide +kernel
theorem d6_7 : decode jdk_52_method_21_code 7 = .ok (.if_icmp .ge 37, 3) := by decide +kernel
theorem d6_10 : decode jdk_52_method_21_code 10 = .ok (.aload_n 0, 1) := by decide +kernel
theorem d6_11 : decode jdk_52_method_21_code 11 = .ok (.iload_n 1, 1) := by decide +kernel
theorem d6_12 : decode jdk_52_method_21_code 12 = .ok (.caload, 1) := by decide +kernel
theorem d6_13 : decode jdk_52_method_21_code 13 = .ok (.istore 6, 2) := by decide +kernel
theorem d6_15 : decode jdk_52_method_21_code 15 = .ok (.iload 6, 2) := by decide +kernel
theorem d6_17 : decode jdk_52_method_21_code 17 = .ok (.sipush 255, 3) := by decide +kernel
theorem d6_20 : decode jdk_52_method_21_code 20 = .ok (.if_icmp .le 6, 3) := by decide +kernel
theorem d6_23 : decode jdk_52_method_21_code 23 = .ok (.iload 5, 2) := by decide +kernel
theorem d6_25 : decode jdk_52_method_21_code 25 = .ok (.ireturn, 1) := by decide +kernel
theorem d6_26 : decode jdk_52_method_21_code 26 = .ok (.aload_n 2, 1) := by decide +kernel
theorem d6_27 : decode jdk_52_method_21_code 27 = .ok (.iload_n 3, 1) := by decide +kernel
theorem d6_28 : decode jdk_52_method_21_code 28 = .ok (.iload 6, 2) := by decide +kernel
theorem d6_30 : decode jdk_52_method_21_code 30 = .ok (.i2b, 1) := by decide +kernel
theorem d6_31 : decode jdk_52_method_21_code 31 = .ok (.bastore, 1) := by decide +kernel
theorem d6_32 : decode jdk_52_method_21_code 32 = .ok (.iinc 1 1, 3) := by decide +kernel
theorem d6_35 : decode jdk_52_method_21_code 35 = .ok (.iinc 3 1, 3) := by decide +kernel
theorem d6_38 : decode jdk_52_method_21_code 38 = .ok (.iinc 5 1, 3) := by decide +kernel
theorem d6_41 : decode jdk_52_method_21_code 41 = .ok (.goto (-38), 3) := by decide +kernel
theorem d6_44 : decode jdk_52_method_21_code 44 = .ok (.iload 4, 2) := by decide +kernel
theorem d6_46 : decode jdk_52_method_21_code 46 = .ok (.ireturn, 1) := by decide +kernel
theorem ef_61 (m : MethodId) (x0 : Addr) (x2 : Addr) : entryFrame m #[(.ref x0), (.int (0 : Int32)), (.ref x2), (.int (0 : Int32)), (.int (1 : Int32))] 7 = mkF m 0 #[.val (.ref x0), .val (.int (0 : Int32)), .val (.ref x2), .val (.int (0 : Int32)), .val (.int (1 : Int32)), .unset, .unset] [] := by first | (simp [entryFrame, mkF, argsToLocals, Value.category]; done) | rfl
def Q61 (Z : State) (a0 : Addr) (a2 : Addr) (ka : ClassId) (kb : ClassId) (x0 : Int32) (h0 : Heap) (n0 : Nat) (v : Option Value) (h : Heap) (L : List Loc) : Prop := v = some (.int (1 : Int32)) ∧ Fr n0 L ∧ Keep h0 h [a2] ∧ Arv Z h a2 kb .byte (1 : Int32) [(.int (nar .byte (x0.toInt8.toInt32)))] (.int (0 : Int32)) ∧ True
set_option maxRecDepth 65536 in
set_option maxHeartbeats 40000000 in
theorem rm61 (l : Launch) (Z : State) (aw : Array Value) (hw : ∀ d ∈ tables_1, d.before aw Z = true) (ws : List Jvm.Cond) (a0 : Addr) (a2 : Addr) (ka : ClassId) (kb : ClassId) (x0 : Int32) (h0 : Heap) (n0 : Nat) (Z0 : n0 ≤ h0.size) (r0 : Arv Z h0 a0 ka .char (1 : Int32) [(.int x0)] (.int (0 : Int32))) (r1 : Arv Z h0 a2 kb .byte (1 : Int32) [(.int (0 : Int32))] (.int (0 : Int32))) (r2 : a0 ≠ a2) (r3 : n0 ≤ a2) (hl0 : (¬ (255 : Int32) < x0)) :
    MetFree l (⟨"java/lang/StringUTF16", "compress", "([CI[BII)I"⟩ : MethodName) (head1 (Jvm.Cond.code (⟨"java/lang/StringUTF16", "compress", "([CI[BII)I"⟩ : MethodName) jdk_52_method_21_code 7 (some .int) :: ws) ({ frames := 0, cells := 0, slots := 0, locals := 0 } : Room)) (fun a U => a = #[(.ref a0), (.int (0 : Int32)), (.ref a2), (.int (0 : Int32)), (.int (1 : Int32))] ∧ Z.Warmed39 U.vm ∧ U.heap = h0) (fun _ _ _ _ _ => True) (fun _ U o U' => ∃ v L, o = .returned v ∧ Q61 Z a0 a2 ka kb x0 h0 n0 v U'.heap L ∧ FrameEnd U o U' L ({ frames := 0, cells := 0, slots := 0, locals := 0 } : Room).cells ({ frames := 0, cells := 0, slots := 0, locals := 0 } : Room).slots) := by
  refine MetFree.of_bodySF (plainFor_of_name pn_7) hisR ?_
  intro p e s m args below meth c s₁ Bd hml0 hP hK
  obtain ⟨rfl, hZ, hh⟩ := hP
  have hx := Bd.exec
  have hby := Bd.bytes
  have hml : c.maxLocals = 7 := hml0
  have hown : s.vm.findClass "java/lang/StringUTF16" = some m.cls := findClass_of_methodNamed Bd.named
  have hnm := (name_of_methodNamed Bd.named Bd.method).1
  have X0 : Stand p l e ({ frames := 0, cells := 0, slots := 0, locals := 0 } : Room) s m #[(.ref a0), (.int (0 : Int32)), (.ref a2), (.int (0 : Int32)), (.int (1 : Int32))] below meth c s₁ [] 0 0 := Stand.of_body Bd
  have e0 : s₁.heap = h0 := by rw [← hh, Bd.state]; rfl
  have N0 := Fr.nil n0
  obtain ⟨A0, hA0⟩ : ∃ A0, A0 = s₁.setTop (entryFrame m #[(.ref a0), (.int (0 : Int32)), (.ref a2), (.int (0 : Int32)), (.int (1 : Int32))] 7) := ⟨_, rfl⟩
  have go0 : Go p e below A0 (s₁.setTop (mkF m 0 #[.val (.ref a0), .val (.int (0 : Int32)), .val (.ref a2), .val (.int (0 : Int32)), .val (.int (1 : Int32)), .unset, .unset] [])) := fun t k => by rw [hA0]; exact castTop (ef_61 m a0 a2) k
  have go1 : Go p e below A0 (s₁.setTop (mkF m 3 #[.val (.ref a0), .val (.int (0 : Int32)), .val (.ref a2), .val (.int (0 : Int32)), .val (.int (1 : Int32)), .val (.int (0 : Int32)), .unset] [])) := by
    intro t k
    refine go0 t ?_
    refine o_iconst X0 hx hby d6_0 1 rfl (v := (0 : Int32)) rfl ?_
    refine o_istore X0 hx hby d6_1 3 rfl (l' := #[.val (.ref a0), .val (.int (0 : Int32)), .val (.ref a2), .val (.int (0 : Int32)), .val (.int (1 : Int32)), .val (.int (0 : Int32)), .unset]) rfl ?_
    exact k
  obtain ⟨cl1, Ar1, q1, S1, M1, H1, G1⟩ := id r0
  have hin1 : ¬ ((0 : Int32) < 0 ∨ cl1.slots.size ≤ ((0 : Int32)).toNatClampNeg) := inb_of S1 ⟨by decide, by decide⟩
  have hat1 : cl1.slots[((0 : Int32)).toNatClampNeg]? = some (.int x0) := H1.at hin1 rfl
  have go2 : Go p e below A0 (s₁.setTop (mkF m 15 #[.val (.ref a0), .val (.int (0 : Int32)), .val (.ref a2), .val (.int (0 : Int32)), .val (.int (1 : Int32)), .val (.int (0 : Int32)), .val (.int x0)] [])) := by
    intro t k
    refine go1 t ?_
    refine o_iload X0 hx hby d6_3 5 rfl rfl ?_
    refine o_iload X0 hx hby d6_5 7 rfl rfl ?_
    refine o_icmpN X0 hx hby d6_7 10 rfl (tlt (show (0 : Int32) < (1 : Int32) by decide)).2.1 ?_
    refine o_aloadN X0 hx hby d6_10 11 rfl rfl rfl ?_
    refine o_iloadN X0 hx hby d6_11 12 rfl rfl ?_
    refine X0.caload hx (j := (0 : Int32)) (v := (.int x0)) (by rw [e0]; exact Ar1.1) (State.isArrayOf_alike hZ.alike Ar1.2.1) Ar1.2.2 hin1 hat1 (g := (mkF m 12 #[.val (.ref a0), .val (.int (0 : Int32)), .val (.ref a2), .val (.int (0 : Int32)), .val (.int (1 : Int32)), .val (.int (0 : Int32)), .unset] [(.int (0 : Int32)), (.ref a0)])) rfl rfl (hb hby d6_12) _ ?_
    show Steps p.tables e below (s₁.setTop (mkF m 13 #[.val (.ref a0), .val (.int (0 : Int32)), .val (.ref a2), .val (.int (0 : Int32)), .val (.int (1 : Int32)), .val (.int (0 : Int32)), .unset] [(.int x0)])) _
    refine o_istore X0 hx hby d6_13 15 rfl (l' := #[.val (.ref a0), .val (.int (0 : Int32)), .val (.ref a2), .val (.int (0 : Int32)), .val (.int (1 : Int32)), .val (.int (0 : Int32)), .val (.int x0)]) rfl ?_
    exact k
  have go3 : Go p e below A0 (s₁.setTop (mkF m 31 #[.val (.ref a0), .val (.int (0 : Int32)), .val (.ref a2), .val (.int (0 : Int32)), .val (.int (1 : Int32)), .val (.int (0 : Int32)), .val (.int x0)] [(.int (x0.toInt8.toInt32)), (.int (0 : Int32)), (.ref a2)])) := by
    intro t k
    refine go2 t ?_
    refine o_iload X0 hx hby d6_15 17 rfl rfl ?_
    refine o_sipush X0 hx hby d6_17 20 rfl (v := (255 : Int32)) rfl ?_
    refine o_icmpY X0 hx hby d6_20 26 rfl (flt (hl0)).2.2.2 ?_
    refine o_aloadN X0 hx hby d6_26 27 rfl rfl rfl ?_
    refine o_iloadN X0 hx hby d6_27 28 rfl rfl ?_
    refine o_iload X0 hx hby d6_28 30 rfl rfl ?_
    refine o_i2b X0 hx hby d6_30 31 rfl ?_
    exact k
  obtain ⟨v1, hv1, go4⟩ : ∃ v1 : Int32, v1 = (x0.toInt8.toInt32) ∧ Go p e below A0 (s₁.setTop (mkF m 31 #[.val (.ref a0), .val (.int (0 : Int32)), .val (.ref a2), .val (.int (0 : Int32)), .val (.int (1 : Int32)), .val (.int (0 : Int32)), .val (.int x0)] [(.int v1), (.int (0 : Int32)), (.ref a2)])) := ⟨_, rfl, go3⟩
  obtain ⟨cl2, Ar2, q2, S2, M2, H2, G2⟩ := id r1
  have hin2 : ¬ ((0 : Int32) < 0 ∨ cl2.slots.size ≤ ((0 : Int32)).toNatClampNeg) := inb_of S2 ⟨by decide, by decide⟩
  obtain ⟨T2, h2, X2, e2, W2, st2⟩ := stB X0 hx hZ e0 Ar2 (j := (0 : Int32)) hin2 (g := (mkF m 31 #[.val (.ref a0), .val (.int (0 : Int32)), .val (.ref a2), .val (.int (0 : Int32)), .val (.int (1 : Int32)), .val (.int (0 : Int32)), .val (.int x0)] [(.int v1), (.int (0 : Int32)), (.ref a2)])) rfl rfl (hb hby d6_31)
  have f1 : Arv Z h2 a0 ka .char (1 : Int32) [(.int x0)] (.int (0 : Int32)) := r0.other W2 r2
  have Zp2 : n0 ≤ h2.size := Nat.le_trans Z0 (Keep.of_wr W2).1
  have K2 : Keep h0 h2 [a2] := (Keep.refl h0 [a2]).wr W2 (Or.inl (List.mem_of_getElem? (i := 0) rfl))
  have N2 := Fr.snoc X2 N0 r3
  have f2 : Arv Z h2 a2 kb .byte (1 : Int32) [(.int (nar .byte v1))] (.int (0 : Int32)) := Arv.set Ar2 q2 S2 M2 H2 G2 (fits_nar_byte _) W2 0 rfl (Nat.le_of_ble_eq_true rfl)
  have go5 : Go p e below A0 (T2.setTop (mkF m 35 #[.val (.ref a0), .val (.int (1 : Int32)), .val (.ref a2), .val (.int (0 : Int32)), .val (.int (1 : Int32)), .val (.int (0 : Int32)), .val (.int x0)] [])) := by
    intro t k
    refine go4 t ?_
    refine st2 _ ?_
    show Steps p.tables e below (T2.setTop (mkF m 32 #[.val (.ref a0), .val (.int (0 : Int32)), .val (.ref a2), .val (.int (0 : Int32)), .val (.int (1 : Int32)), .val (.int (0 : Int32)), .val (.int x0)] [])) _
    refine o_iinc X2 hx hby d6_32 35 rfl rfl (i := (1 : Int32)) rfl (l' := #[.val (.ref a0), .val (.int (1 : Int32)), .val (.ref a2), .val (.int (0 : Int32)), .val (.int (1 : Int32)), .val (.int (0 : Int32)), .val (.int x0)]) rfl ?_
    exact k
  have go6 : Go p e below A0 (T2.setTop (mkF m 38 #[.val (.ref a0), .val (.int (1 : Int32)), .val (.ref a2), .val (.int (1 : Int32)), .val (.int (1 : Int32)), .val (.int (0 : Int32)), .val (.int x0)] [])) := by
    intro t k
    refine go5 t ?_
    refine o_iinc X2 hx hby d6_35 38 rfl rfl (i := (1 : Int32)) rfl (l' := #[.val (.ref a0), .val (.int (1 : Int32)), .val (.ref a2), .val (.int (1 : Int32)), .val (.int (1 : Int32)), .val (.int (0 : Int32)), .val (.int x0)]) rfl ?_
    exact k
  have go7 : Go p e below A0 (T2.setTop (mkF m 41 #[.val (.ref a0), .val (.int (1 : Int32)), .val (.ref a2), .val (.int (1 : Int32)), .val (.int (1 : Int32)), .val (.int (1 : Int32)), .val (.int x0)] [])) := by
    intro t k
    refine go6 t ?_
    refine o_iinc X2 hx hby d6_38 41 rfl rfl (i := (1 : Int32)) rfl (l' := #[.val (.ref a0), .val (.int (1 : Int32)), .val (.ref a2), .val (.int (1 : Int32)), .val (.int (1 : Int32)), .val (.int (1 : Int32)), .val (.int x0)]) rfl ?_
    exact k
  have go8 : Go p e below A0 (T2.setTop (mkF m 46 #[.val (.ref a0), .val (.int (1 : Int32)), .val (.ref a2), .val (.int (1 : Int32)), .val (.int (1 : Int32)), .val (.int (1 : Int32)), .val (.int x0)] [(.int (1 : Int32))])) := by
    intro t k
    refine go7 t ?_
    refine o_goto X2 hx hby d6_41 3 rfl ?_
    refine o_iload X2 hx hby d6_3 5 rfl rfl ?_
    refine o_iload X2 hx hby d6_5 7 rfl rfl ?_
    refine o_icmpY X2 hx hby d6_7 44 rfl (flt (show ¬ ((1 : Int32) < (1 : Int32)) by decide)).2.1 ?_
    refine o_iload X2 hx hby d6_44 46 rfl rfl ?_
    exact k
  have hF : (1 : Int32) = (1 : Int32) := by subst hv1; first | rfl | simp only [*]
  subst hv1
  rw [hA0] at go8
  obtain ⟨fs, hr, hrun, hended, hW, hsame⟩ := X2.leave (v := some (.int (1 : Int32))) (fun h => by rw [Bd.returns] at h; cases h)
  refine ⟨_, _, go8 _ (o_retI X2 hx Bd.returns (hb hby d6_46) hr), hrun, hended, _, _, rfl, ?_, ⟨_, rfl⟩, hW, hsame.mono (by decide) (by decide)⟩
  show Q61 Z a0 a2 ka kb x0 h0 n0 _ T2.heap _
  rw [e2]
  exact ⟨by rw [← hF], N2, K2, f2, trivial⟩
theorem d5_0 : decode jdk_52_method_16_code 0 = .ok (.iload_n 2, 1) := by decide +kernel
theorem d5_1 : decode jdk_52_method_16_code 1 = .ok (.newarray .byte, 2) := by decide +kernel
theorem d5_3 : decode jdk_52_method_16_code 3 = .ok (.astore_n 3, 1) := by decide +kernel
theorem d5_4 : decode jdk_52_method_16_code 4 = .ok (.aload_n 0, 1) := by decide +kernel
theorem d5_5 : decode jdk_52_method_16_code 5 = .ok (.iload_n 1, 1) := by decide +kernel
theorem d5_6 : decode jdk_52_method_16_code 6 = .ok (.aload_n 3, 1) := by decide +kernel
theorem d5_7 : decode jdk_52_method_16_code 7 = .ok (.iconst 0, 1) := by decide +kernel
theorem d5_8 : decode jdk_52_method_16_code 8 = .ok (.iload_n 2, 1) := by decide +kernel
theorem d5_9 : decode jdk_52_method_16_code 9 = .ok (.invokestatic 115, 3) := by decide +kernel
theorem d5_12 : decode jdk_52_method_16_code 12 = .ok (.istore 4, 2) := by decide +kernel
theorem d5_14 : decode jdk_52_method_16_code 14 = .ok (.iload 4, 2) := by decide +kernel
theorem d5_16 : decode jdk_52_method_16_code 16 = .ok (.iload_n 2, 1) := by decide +kernel
theorem d5_17 : decode jdk_52_method_16_code 17 = .ok (.if_icmp .eq 40, 3) := by decide +kernel
theorem d5_20 : decode jdk_52_method_16_code 20 = .ok (.aload_n 0, 1) := by decide +kernel
theorem d5_21 : decode jdk_52_method_16_code 21 = .ok (.iload_n 1, 1) := by decide +kernel
theorem d5_22 : decode jdk_52_method_16_code 22 = .ok (.iload_n 2, 1) := by decide +kernel
theorem d5_23 : decode jdk_52_method_16_code 23 = .ok (.invokestatic 119, 3) := by decide +kernel
theorem d5_26 : decode jdk_52_method_16_code 26 = .ok (.astore 5, 2) := by decide +kernel
theorem d5_28 : decode jdk_52_method_16_code 28 = .ok (.aload 5, 2) := by decide +kernel
theorem d5_30 : decode jdk_52_method_16_code 30 = .ok (.iload 4, 2) := by decide +kernel
theorem d5_32 : decode jdk_52_method_16_code 32 = .ok (.invokestatic 71, 3) := by decide +kernel
theorem d5_35 : decode jdk_52_method_16_code 35 = .ok (.sipush 255, 3) := by decide +kernel
theorem d5_38 : decode jdk_52_method_16_code 38 = .ok (.if_icmp .gt 16, 3) := by decide +kernel
theorem d5_41 : decode jdk_52_method_16_code 41 = .ok (.aload 5, 2) := by decide +kernel
theorem d5_43 : decode jdk_52_method_16_code 43 = .ok (.iconst 0, 1) := by decide +kernel
theorem d5_44 : decode jdk_52_method_16_code 44 = .ok (.aload_n 3, 1) := by decide +kernel
theorem d5_45 : decode jdk_52_method_16_code 45 = .ok (.iconst 0, 1) := by decide +kernel
theorem d5_46 : decode jdk_52_method_16_code 46 = .ok (.iload_n 2, 1) := by decide +kernel
theorem d5_47 : decode jdk_52_method_16_code 47 = .ok (.invokestatic 123, 3) := by decide +kernel
theorem d5_50 : decode jdk_52_method_16_code 50 = .ok (.iload_n 2, 1) := by decide +kernel
theorem d5_51 : decode jdk_52_method_16_code 51 = .ok (.if_icmp .eq 6, 3) := by decide +kernel
theorem d5_54 : decode jdk_52_method_16_code 54 = .ok (.aload 5, 2) := by decide +kernel
theorem d5_56 : decode jdk_52_method_16_code 56 = .ok (.areturn, 1) := by decide +kernel
theorem d5_57 : decode jdk_52_method_16_code 57 = .ok (.aload_n 3, 1) := by decide +kernel
theorem d5_58 : decode jdk_52_method_16_code 58 = .ok (.areturn, 1) := by decide +kernel
theorem pd_1 : parseMethodDescriptor "([CI[BII)I" = some ⟨[(.array .char), .int, (.array .byte), .int, .int], some .int⟩ := by decide +kernel
theorem ef_51 (m : MethodId) (x0 : Addr) : entryFrame m #[(.ref x0), (.int (0 : Int32)), (.int (1 : Int32))] 6 = mkF m 0 #[.val (.ref x0), .val (.int (0 : Int32)), .val (.int (1 : Int32)), .unset, .unset, .unset] [] := by first | (simp [entryFrame, mkF, argsToLocals, Value.category]; done) | rfl
def Q51 (Z : State) (a0 : Addr) (ka : ClassId) (x0 : Int32) (h0 : Heap) (n0 : Nat) (v : Option Value) (h : Heap) (L : List Loc) : Prop := ∃ kb : ClassId, ∃ b : Addr, v = some (.ref b) ∧ Fr n0 L ∧ Keep h0 h [] ∧ h0.size ≤ b ∧ Arv Z h b kb .byte (1 : Int32) [(.int (nar .byte (x0.toInt8.toInt32)))] (.int (0 : Int32)) ∧ True
set_option maxRecDepth 65536 in
set_option maxHeartbeats 40000000 in
theorem rm51 (l : Launch) (Z : State) (aw : Array Value) (hw : ∀ d ∈ tables_1, d.before aw Z = true) (ws : List Jvm.Cond) (a0 : Addr) (ka : ClassId) (x0 : Int32) (h0 : Heap) (n0 : Nat) (Z0 : n0 ≤ h0.size) (r0 : Arv Z h0 a0 ka .char (1 : Int32) [(.int x0)] (.int (0 : Int32))) (hl0 : (¬ (255 : Int32) < x0)) :
    MetFree l (⟨"java/lang/StringUTF16", "compress", "([CII)[B"⟩ : MethodName) (head1 (Jvm.Cond.code (⟨"java/lang/StringUTF16", "compress", "([CII)[B"⟩ : MethodName) jdk_52_method_16_code 6 (some (.array .byte)) :: ws) ({ frames := 1, cells := 1, slots := 1, locals := 18 } : Room)) (fun a U => a = #[(.ref a0), (.int (0 : Int32)), (.int (1 : Int32))] ∧ Z.Warmed39 U.vm ∧ U.heap = h0) (fun _ _ _ _ _ => True) (fun _ U o U' => ∃ v L, o = .returned v ∧ Q51 Z a0 ka x0 h0 n0 v U'.heap L ∧ FrameEnd U o U' L ({ frames := 1, cells := 1, slots := 1, locals := 18 } : Room).cells ({ frames := 1, cells := 1, slots := 1, locals := 18 } : Room).slots) := by
  refine MetFree.of_bodySF (plainFor_of_name pn_7) hisR ?_
  intro p e s m args below meth c s₁ Bd hml0 hP hK
  obtain ⟨rfl, hZ, hh⟩ := hP
  have hx := Bd.exec
  have hby := Bd.bytes
  have hml : c.maxLocals = 6 := hml0
  have hown : s.vm.findClass "java/lang/StringUTF16" = some m.cls := findClass_of_methodNamed Bd.named
  have hnm := (name_of_methodNamed Bd.named Bd.method).1
  have X0 : Stand p l e ({ frames := 1, cells := 1, slots := 1, locals := 18 } : Room) s m #[(.ref a0), (.int (0 : Int32)), (.int (1 : Int32))] below meth c s₁ [] 0 0 := Stand.of_body Bd
  have e0 : s₁.heap = h0 := by rw [← hh, Bd.state]; rfl
  have N0 := Fr.nil n0
  obtain ⟨A0, hA0⟩ : ∃ A0, A0 = s₁.setTop (entryFrame m #[(.ref a0), (.int (0 : Int32)), (.int (1 : Int32))] 6) := ⟨_, rfl⟩
  have go0 : Go p e below A0 (s₁.setTop (mkF m 0 #[.val (.ref a0), .val (.int (0 : Int32)), .val (.int (1 : Int32)), .unset, .unset, .unset] [])) := fun t k => by rw [hA0]; exact castTop (ef_51 m a0) k
  obtain ⟨T1, h1, k1, X1, e1, E1, A1, st1⟩ := newP X0 hx hZ (hw _ (List.mem_of_getElem? (i := 24) rfl)) e0 (g := (mkF m 1 #[.val (.ref a0), .val (.int (0 : Int32)), .val (.int (1 : Int32)), .unset, .unset, .unset] [(.int (1 : Int32))])) rfl (hb hby d5_1) rfl (by decide) (cap := 1) (by decide) (by decide) (by decide) (by decide)
  obtain ⟨b1, g1⟩ : ∃ z, z = h0.size := ⟨_, rfl⟩
  rw [← g1] at A1 st1
  have ne_a0_b1 : a0 ≠ b1 := Nat.ne_of_lt (Nat.lt_of_lt_of_le r0.lt (Nat.le_of_eq g1.symm))
  have g_b1 : n0 ≤ b1 := Nat.le_trans Z0 (Nat.le_of_eq g1.symm)
  have sz_b1 : h0.size ≤ b1 := Nat.le_trans (Keep.refl h0 []).1 (Nat.le_of_eq g1.symm)
  have f1 : Arv Z h1 a0 ka .char (1 : Int32) [(.int x0)] (.int (0 : Int32)) := r0.ext E1
  have Zp1 : n0 ≤ h1.size := Nat.le_trans Z0 E1.1
  have K1 : Keep h0 h1 [] := (Keep.refl h0 []).ext E1
  have f2 : Arv Z h1 b1 k1 .byte (1 : Int32) [(.int (0 : Int32))] (.int (0 : Int32)) := (Arv.new A1 (by decide)).pad (pad_rep [] (.int (0 : Int32)) 1)
  have go1 : Go p e below A0 (T1.setTop (mkF m 9 #[.val (.ref a0), .val (.int (0 : Int32)), .val (.int (1 : Int32)), .val (.ref b1), .unset, .unset] [(.int (1 : Int32)), (.int (0 : Int32)), (.ref b1), (.int (0 : Int32)), (.ref a0)])) := by
    intro t k
    refine go0 t ?_
    refine o_iloadN X0 hx hby d5_0 1 rfl rfl ?_
    refine st1 _ ?_
    show Steps p.tables e below (T1.setTop (mkF m 3 #[.val (.ref a0), .val (.int (0 : Int32)), .val (.int (1 : Int32)), .unset, .unset, .unset] [(.ref b1)])) _
    refine o_astoreN X1 hx hby d5_3 4 rfl rfl (l' := #[.val (.ref a0), .val (.int (0 : Int32)), .val (.int (1 : Int32)), .val (.ref b1), .unset, .unset]) rfl ?_
    refine o_aloadN X1 hx hby d5_4 5 rfl rfl rfl ?_
    refine o_iloadN X1 hx hby d5_5 6 rfl rfl ?_
    refine o_aloadN X1 hx hby d5_6 7 rfl rfl rfl ?_
    refine o_iconst X1 hx hby d5_7 8 rfl (v := (0 : Int32)) rfl ?_
    refine o_iloadN X1 hx hby d5_8 9 rfl rfl ?_
    exact k
  obtain ⟨_, _, ⟨T2, L2, k2, n2⟩, -, X2, ⟨Lc2, hQ2, l2, y2, z2⟩, st2⟩ := Jvm.LawKit.callS X1 hx (y := (⟨"java/lang/StringUTF16", "compress", "([CI[BII)I"⟩ : MethodName)) hown (mvT hZ (hw _ (List.mem_of_getElem? (i := 25) rfl))) (mvT hZ (hw _ (List.mem_of_getElem? (i := 26) rfl))) (mvT hZ (hw _ (List.mem_of_getElem? (i := 22) rfl))) (mvT hZ (hw _ (List.mem_of_getElem? (i := 27) rfl))) (by decide) (backOf (W := 0) (rm61 l Z aw hw [] a0 b1 ka k1 x0 h1 n0 Zp1 (f1) (f2) (ne_a0_b1) (g_b1) (hl0)) hZ (hw _ (List.mem_of_getElem? (i := 27) rfl)) (hw _ (List.mem_of_getElem? (i := 22) rfl)) (by decide) (by decide)) (g := (mkF m 9 #[.val (.ref a0), .val (.int (0 : Int32)), .val (.int (1 : Int32)), .val (.ref b1), .unset, .unset] [(.int (1 : Int32)), (.int (0 : Int32)), (.ref b1), (.int (0 : Int32)), (.ref a0)])) rfl (by rw [hml]; rfl) (argsL := [(.ref a0), (.int (0 : Int32)), (.ref b1), (.int (0 : Int32)), (.int (1 : Int32))]) (rest := []) (lenOf pd_1 rfl) rfl (by show 2 * 0 + _ ≤ _; exact Nat.le_of_eq rfl) (hb hby d5_9) (fun _ _ => ⟨rfl, e1, (by decide : 1 + 0 ≤ _), (by decide : 1 + 0 ≤ _)⟩)
  dsimp only [Pt.U, Pt.locs, Pt.cells, Pt.slots] at X2 l2 y2 z2 st2 hQ2
  subst l2 y2 z2
  obtain ⟨rfl, N2q, K2q, qf2_0, -⟩ := hQ2
  have f3 : Arv Z T2.heap a0 ka .char (1 : Int32) [(.int x0)] (.int (0 : Int32)) := f1.keep K2q (ninS ne_a0_b1 nin0)
  have Zp2 : n0 ≤ T2.heap.size := Nat.le_trans Zp1 K2q.1
  have K2 : Keep h0 T2.heap [] := Keep.trans K1 K2q (allS (P := fun x => x ∈ ([] : List Addr) ∨ h0.size ≤ x) (Or.inr sz_b1) all0)
  have f4 : Arv Z T2.heap b1 k1 .byte (1 : Int32) [(.int (nar .byte (x0.toInt8.toInt32)))] (.int (0 : Int32)) := qf2_0
  have N2 := Fr.app N0 N2q
  have go2 : Go p e below A0 (T2.setTop (mkF m 12 #[.val (.ref a0), .val (.int (0 : Int32)), .val (.int (1 : Int32)), .val (.ref b1), .unset, .unset] [(.int (1 : Int32))])) := by
    intro t k
    refine go1 t ?_
    refine st2 _ ?_
    show Steps p.tables e below (T2.setTop (mkF m 12 #[.val (.ref a0), .val (.int (0 : Int32)), .val (.int (1 : Int32)), .val (.ref b1), .unset, .unset] [(.int (1 : Int32))])) _
    exact k
  have go3 : Go p e below A0 (T2.setTop (mkF m 14 #[.val (.ref a0), .val (.int (0 : Int32)), .val (.int (1 : Int32)), .val (.ref b1), .val (.int (1 : Int32)), .unset] [])) := by
    intro t k
    refine go2 t ?_
    refine o_istore X2 hx hby d5_12 14 rfl (l' := #[.val (.ref a0), .val (.int (0 : Int32)), .val (.int (1 : Int32)), .val (.ref b1), .val (.int (1 : Int32)), .unset]) rfl ?_
    exact k
  have go4 : Go p e below A0 (T2.setTop (mkF m 58 #[.val (.ref a0), .val (.int (0 : Int32)), .val (.int (1 : Int32)), .val (.ref b1), .val (.int (1 : Int32)), .unset] [(.ref b1)])) := by
    intro t k
    refine go3 t ?_
    refine o_iload X2 hx hby d5_14 16 rfl rfl ?_
    refine o_iloadN X2 hx hby d5_16 17 rfl rfl ?_
    refine o_icmpY X2 hx hby d5_17 57 rfl (teq (show (1 : Int32) = (1 : Int32) by decide)).1 ?_
    refine o_aloadN X2 hx hby d5_57 58 rfl rfl rfl ?_
    exact k
  rw [hA0] at go4
  obtain ⟨fs, hr, hrun, hended, hW, hsame⟩ := X2.leave (v := some (.ref b1)) (fun h => by rw [Bd.returns] at h; cases h)
  refine ⟨_, _, go4 _ (o_retR X2 hx Bd.returns rfl (hb hby d5_58) rfl rfl hr), hrun, hended, _, _, rfl, ?_, ⟨_, rfl⟩, hW, hsame.mono (by decide) (by decide)⟩
  show Q51 Z a0 ka x0 h0 n0 _ T2.heap _
  exact ⟨k1, b1, rfl, N2, K2, sz_b1, f4, trivial⟩
theorem d3_0 : decode jdk_42_method_149_code 0 = .ok (.aload_n 0, 1) := by decide +kernel
theorem d3_1 : decode jdk_42_method_149_code 1 = .ok (.invokespecial 1, 3) := by decide +kernel
theorem d3_4 : decode jdk_42_method_149_code 4 = .ok (.iload_n 3, 1) := by decide +kernel
theorem d3_5 : decode jdk_42_method_149_code 5 = .ok (.ifCond .ne 22, 3) := by decide +kernel
theorem d3_8 : decode jdk_42_method_149_code 8 = .ok (.aload_n 0, 1) := by decide +kernel
theorem d3_9 : decode jdk_42_method_149_code 9 = .ok (.ldc 7, 2) := by decide +kernel
theorem d3_11 : decode jdk_42_method_149_code 11 = .ok (.getfield 9, 3) := by decide +kernel
theorem d3_14 : decode jdk_42_method_149_code 14 = .ok (.putfield 9, 3) := by decide +kernel
theorem d3_17 : decode jdk_42_method_149_code 17 = .ok (.aload_n 0, 1) := by decide +kernel
theorem d3_18 : decode jdk_42_method_149_code 18 = .ok (.ldc 7, 2) := by decide +kernel
theorem d3_20 : decode jdk_42_method_149_code 20 = .ok (.getfield 15, 3) := by decide +kernel
theorem d3_23 : decode jdk_42_method_149_code 23 = .ok (.putfield 15, 3) := by decide +kernel
theorem d3_26 : decode jdk_42_method_149_code 26 = .ok (.return_, 1) := by decide +kernel
theorem d3_27 : decode jdk_42_method_149_code 27 = .ok (.getstatic 38, 3) := by decide +kernel
theorem d3_30 : decode jdk_42_method_149_code 30 = .ok (.ifCond .eq 28, 3) := by decide +kernel
theorem d3_33 : decode jdk_42_method_149_code 33 = .ok (.aload_n 1, 1) := by decide +kernel
theorem d3_34 : decode jdk_42_method_149_code 34 = .ok (.iload_n 2, 1) := by decide +kernel
theorem d3_35 : decode jdk_42_method_149_code 35 = .ok (.iload_n 3, 1) := by decide +kernel
theorem d3_36 : decode jdk_42_method_149_code 36 = .ok (.invokestatic 177, 3) := by decide +kernel
theorem d3_39 : decode jdk_42_method_149_code 39 = .ok (.astore 5, 2) := by decide +kernel
theorem d3_41 : decode jdk_42_method_149_code 41 = .ok (.aload_n 0, 1) := by decide +kernel
theorem d3_42 : decode jdk_42_method_149_code 42 = .ok (.aload 5, 2) := by decide +kernel
theorem d3_44 : decode jdk_42_method_149_code 44 = .ok (.iload_n 3, 1) := by decide +kernel
theorem d3_45 : decode jdk_42_method_149_code 45 = .ok (.invokestatic 47, 3) := by decide +kernel
theorem d3_48 : decode jdk_42_method_149_code 48 = .ok (.putfield 15, 3) := by decide +kernel
theorem d3_51 : decode jdk_42_method_149_code 51 = .ok (.aload_n 0, 1) := by decide +kernel
theorem d3_52 : decode jdk_42_method_149_code 52 = .ok (.aload 5, 2) := by decide +kernel
theorem d3_54 : decode jdk_42_method_149_code 54 = .ok (.putfield 9, 3) := by decide +kernel
theorem d3_57 : decode jdk_42_method_149_code 57 = .ok (.return_, 1) := by decide +kernel
theorem d3_58 : decode jdk_42_method_149_code 58 = .ok (.aload_n 0, 1) := by decide +kernel
theorem d3_59 : decode jdk_42_method_149_code 59 = .ok (.iconst 1, 1) := by decide +kernel
theorem d3_60 : decode jdk_42_method_149_code 60 = .ok (.putfield 15, 3) := by decide +kernel
theorem d3_63 : decode jdk_42_method_149_code 63 = .ok (.aload_n 0, 1) := by decide +kernel
theorem d3_64 : decode jdk_42_method_149_code 64 = .ok (.aload_n 1, 1) := by decide +kernel
theorem d3_65 : decode jdk_42_method_149_code 65 = .ok (.iload_n 2, 1) := by decide +kernel
theorem d3_66 : decode jdk_42_method_149_code 66 = .ok (.iload_n 3, 1) := by decide +kernel
theorem d3_67 : decode jdk_42_method_149_code 67 = .ok (.invokestatic 180, 3) := by decide +kernel
theorem d3_70 : decode jdk_42_method_149_code 70 = .ok (.putfield 9, 3) := by decide +kernel
theorem d3_73 : decode jdk_42_method_149_code 73 = .ok (.return_, 1) := by decide +kernel
theorem pn_3 : plainName "java/lang/String" = true := by first | (simp [plainName, overriddenIn]; done) | decide +kernel
theorem pd_3 : parseMethodDescriptor "([CII)[B" = some ⟨[(.array .char), .int, .int], some (.array .byte)⟩ := by decide +kernel
theorem pd_4 : parseMethodDescriptor "([BI)B" = some ⟨[(.array .byte), .int], some .byte⟩ := by decide +kernel
theorem ef_31 (m : MethodId) (x0 : Addr) (x1 : Addr) : entryFrame m #[(.ref x0), (.ref x1), (.int (0 : Int32)), (.int (1 : Int32)), .null] 6 = mkF m 0 #[.val (.ref x0), .val (.ref x1), .val (.int (0 : Int32)), .val (.int (1 : Int32)), .val .null, .unset] [] := by first | (simp [entryFrame, mkF, argsToLocals, Value.category]; done) | rfl
def Q31 (Z : State) (a0 : Addr) (a1 : Addr) (ka : ClassId) (cs : Int32) (x0 : Int32) (h0 : Heap) (n0 : Nat) (v : Option Value) (h : Heap) (L : List Loc) : Prop := ∃ d : Addr, ∃ kd : ClassId, v = none ∧ Fr n0 L ∧ Keep h0 h [a0] ∧ Fld Z h a0 "java/lang/String" "value" "[B" (.ref d) ∧ Fld Z h a0 "java/lang/String" "coder" "B" (.int (0 : Int32)) ∧ Arv Z h d kd .byte (1 : Int32) [(.int (nar .byte (x0.toInt8.toInt32)))] (.int (0 : Int32)) ∧ True
set_option maxRecDepth 65536 in
set_option maxHeartbeats 40000000 in
theorem rm31 (l : Launch) (Z : State) (aw : Array Value) (hw : ∀ d ∈ tables_1, d.before aw Z = true) (ws : List Jvm.Cond) (a0 : Addr) (a1 : Addr) (ka : ClassId) (cs : Int32) (x0 : Int32) (h0 : Heap) (n0 : Nat) (Z0 : n0 ≤ h0.size) (r0 : Exa Z h0 a0 "java/lang/String") (r1 : n0 ≤ a0) (r2 : Fld Z h0 a0 "java/lang/String" "value" "[B" .null) (r3 : Fld Z h0 a0 "java/lang/String" "coder" "B" (.int (0 : Int32))) (r4 : Arv Z h0 a1 ka .char (1 : Int32) [(.int x0)] (.int (0 : Int32))) (r5 : a0 ≠ a1) (r6 : Sta Z Z.heap "java/lang/String" "COMPACT_STRINGS" "Z" (.int cs)) (r7 : Old Z n0 h0) (hcs : (¬ (cs = 0))) (hl0 : (¬ (255 : Int32) < x0)) :
    MetFree l (⟨"java/lang/String", "<init>", "([CIILjava/lang/Void;)V"⟩ : MethodName) (head1 (Jvm.Cond.code (⟨"java/lang/String", "<init>", "([CIILjava/lang/Void;)V"⟩ : MethodName) jdk_42_method_149_code 6 none :: ws) ({ frames := 2, cells := 1, slots := 1, locals := 35 } : Room)) (fun a U => a = #[(.ref a0), (.ref a1), (.int (0 : Int32)), (.int (1 : Int32)), .null] ∧ Z.Warmed39 U.vm ∧ U.heap = h0) (fun _ _ _ _ _ => True) (fun _ U o U' => ∃ v L, o = .returned v ∧ Q31 Z a0 a1 ka cs x0 h0 n0 v U'.heap L ∧ FrameEnd U o U' L ({ frames := 2, cells := 1, slots := 1, locals := 35 } : Room).cells ({ frames := 2, cells := 1, slots := 1, locals := 35 } : Room).slots) := by
  refine MetFree.of_bodySF (plainFor_of_name pn_3) hisR ?_
  intro p e s m args below meth c s₁ Bd hml0 hP hK
  obtain ⟨rfl, hZ, hh⟩ := hP
  have hx := Bd.exec
  have hby := Bd.bytes
  have hml : c.maxLocals = 6 := hml0
  have hown : s.vm.findClass "java/lang/String" = some m.cls := findClass_of_methodNamed Bd.named
  have hnm := (name_of_methodNamed Bd.named Bd.method).1
  have X0 : Stand p l e ({ frames := 2, cells := 1, slots := 1, locals := 35 } : Room) s m #[(.ref a0), (.ref a1), (.int (0 : Int32)), (.int (1 : Int32)), .null] below meth c s₁ [] 0 0 := Stand.of_body Bd
  have e0 : s₁.heap = h0 := by rw [← hh, Bd.state]; rfl
  have N0 := Fr.nil n0
  obtain ⟨A0, hA0⟩ : ∃ A0, A0 = s₁.setTop (entryFrame m #[(.ref a0), (.ref a1), (.int (0 : Int32)), (.int (1 : Int32)), .null] 6) := ⟨_, rfl⟩
  have go0 : Go p e below A0 (s₁.setTop (mkF m 0 #[.val (.ref a0), .val (.ref a1), .val (.int (0 : Int32)), .val (.int (1 : Int32)), .val .null, .unset] [])) := fun t k => by rw [hA0]; exact castTop (ef_31 m a0 a1) k
  obtain ⟨T1, X1, e1, st1⟩ := initO X0 hx hZ hown (hw _ (List.mem_of_getElem? (i := 16) rfl)) (hw _ (List.mem_of_getElem? (i := 17) rfl)) (hw _ (List.mem_of_getElem? (i := 18) rfl)) e0 (g := (mkF m 1 #[.val (.ref a0), .val (.ref a1), .val (.int (0 : Int32)), .val (.int (1 : Int32)), .val .null, .unset] [(.ref a0)])) rfl (by rw [hml]; rfl) rfl (hb hby d3_1) (by decide) (W := 0) (by show 2 * 0 + _ ≤ _; exact Nat.le_of_eq rfl) (by decide)
  obtain ⟨T2, X2, e2, st2⟩ := getS2 X1 hx hZ hown (host := "") (Or.inl (hw _ (List.mem_of_getElem? (i := 19) rfl))) Via.refl e1 (r6.ext r7.2) (g := (mkF m 27 #[.val (.ref a0), .val (.ref a1), .val (.int (0 : Int32)), .val (.int (1 : Int32)), .val .null, .unset] [])) rfl (hb hby d3_27)
  have go1 : Go p e below A0 (T2.setTop (mkF m 36 #[.val (.ref a0), .val (.ref a1), .val (.int (0 : Int32)), .val (.int (1 : Int32)), .val .null, .unset] [(.int (1 : Int32)), (.int (0 : Int32)), (.ref a1)])) := by
    intro t k
    refine go0 t ?_
    refine o_aloadN X0 hx hby d3_0 1 rfl rfl rfl ?_
    refine st1 _ ?_
    refine o_iloadN X1 hx hby d3_4 5 rfl rfl ?_
    refine o_ifY X1 hx hby d3_5 27 rfl (feq (show ¬ ((1 : Int32) = (0 : Int32)) by decide)).2 ?_
    refine st2 _ ?_
    show Steps p.tables e below (T2.setTop (mkF m 30 #[.val (.ref a0), .val (.ref a1), .val (.int (0 : Int32)), .val (.int (1 : Int32)), .val .null, .unset] [(.int cs)])) _
    refine o_ifN X2 hx hby d3_30 33 rfl (feq (hcs)).1 ?_
    refine o_aloadN X2 hx hby d3_33 34 rfl rfl rfl ?_
    refine o_iloadN X2 hx hby d3_34 35 rfl rfl ?_
    refine o_iloadN X2 hx hby d3_35 36 rfl rfl ?_
    exact k
  obtain ⟨_, _, ⟨T3, L3, k3, n3⟩, -, X3, ⟨Lc3, hQ3, l3, y3, z3⟩, st3⟩ := Jvm.LawKit.callS X2 hx (y := (⟨"java/lang/StringUTF16", "compress", "([CII)[B"⟩ : MethodName)) hown (mvT hZ (hw _ (List.mem_of_getElem? (i := 20) rfl))) (mvT hZ (hw _ (List.mem_of_getElem? (i := 21) rfl))) (mvT hZ (hw _ (List.mem_of_getElem? (i := 22) rfl))) (mvT hZ (hw _ (List.mem_of_getElem? (i := 23) rfl))) (by decide) (backOf (W := 0) (rm51 l Z aw hw [] a1 ka x0 h0 n0 Z0 (r4) (hl0)) hZ (hw _ (List.mem_of_getElem? (i := 23) rfl)) (hw _ (List.mem_of_getElem? (i := 22) rfl)) (by decide) (by decide)) (g := (mkF m 36 #[.val (.ref a0), .val (.ref a1), .val (.int (0 : Int32)), .val (.int (1 : Int32)), .val .null, .unset] [(.int (1 : Int32)), (.int (0 : Int32)), (.ref a1)])) rfl (by rw [hml]; rfl) (argsL := [(.ref a1), (.int (0 : Int32)), (.int (1 : Int32))]) (rest := []) (lenOf pd_3 rfl) rfl (by show 2 * 0 + _ ≤ _; exact Nat.le_of_eq rfl) (hb hby d3_36) (fun _ _ => ⟨rfl, e2, (by decide : 0 + 1 ≤ _), (by decide : 0 + 1 ≤ _)⟩)
  dsimp only [Pt.U, Pt.locs, Pt.cells, Pt.slots] at X3 l3 y3 z3 st3 hQ3
  subst l3 y3 z3
  obtain ⟨r3_kb, b3_b, rfl, N3q, K3q, sz_b3_bq, qf3_0, -⟩ := hQ3
  have ne_a0_b3_b : a0 ≠ b3_b := Nat.ne_of_lt (Nat.lt_of_lt_of_le r0.lt sz_b3_bq)
  have ne_a1_b3_b : a1 ≠ b3_b := Nat.ne_of_lt (Nat.lt_of_lt_of_le r4.lt sz_b3_bq)
  have g_b3_b : n0 ≤ b3_b := Nat.le_trans Z0 sz_b3_bq
  have sz_b3_b : h0.size ≤ b3_b := Nat.le_trans (Keep.refl h0 [a0]).1 sz_b3_bq
  have f1 : Exa Z T3.heap a0 "java/lang/String" := r0.keep K3q
  have f2 : Fld Z T3.heap a0 "java/lang/String" "value" "[B" .null := r2.keep K3q nin0
  have f3 : Fld Z T3.heap a0 "java/lang/String" "coder" "B" (.int (0 : Int32)) := r3.keep K3q nin0
  have f4 : Arv Z T3.heap a1 ka .char (1 : Int32) [(.int x0)] (.int (0 : Int32)) := r4.keep K3q nin0
  have f5 : Old Z n0 T3.heap := r7.keep K3q all0
  have Zp3 : n0 ≤ T3.heap.size := Nat.le_trans Z0 K3q.1
  have K3 : Keep h0 T3.heap [a0] := Keep.trans (Keep.refl h0 [a0]) K3q all0
  have f6 : Arv Z T3.heap b3_b r3_kb .byte (1 : Int32) [(.int (nar .byte (x0.toInt8.toInt32)))] (.int (0 : Int32)) := qf3_0
  have N3 := Fr.app N0 N3q
  have go2 : Go p e below A0 (T3.setTop (mkF m 39 #[.val (.ref a0), .val (.ref a1), .val (.int (0 : Int32)), .val (.int (1 : Int32)), .val .null, .unset] [(.ref b3_b)])) := by
    intro t k
    refine go1 t ?_
    refine st3 _ ?_
    show Steps p.tables e below (T3.setTop (mkF m 39 #[.val (.ref a0), .val (.ref a1), .val (.int (0 : Int32)), .val (.int (1 : Int32)), .val .null, .unset] [(.ref b3_b)])) _
    exact k
  have go3 : Go p e below A0 (T3.setTop (mkF m 45 #[.val (.ref a0), .val (.ref a1), .val (.int (0 : Int32)), .val (.int (1 : Int32)), .val .null, .val (.ref b3_b)] [(.int (1 : Int32)), (.ref b3_b), (.ref a0)])) := by
    intro t k
    refine go2 t ?_
    refine o_astore X3 hx hby d3_39 41 rfl rfl (l' := #[.val (.ref a0), .val (.ref a1), .val (.int (0 : Int32)), .val (.int (1 : Int32)), .val .null, .val (.ref b3_b)]) rfl ?_
    refine o_aloadN X3 hx hby d3_41 42 rfl rfl rfl ?_
    refine o_aload X3 hx hby d3_42 44 rfl rfl rfl ?_
    refine o_iloadN X3 hx hby d3_44 45 rfl rfl ?_
    exact k
  obtain ⟨_, _, ⟨T4, L4, k4, n4⟩, -, X4, ⟨Lc4, hQ4, l4, y4, z4⟩, st4⟩ := Jvm.LawKit.callS X3 hx (y := (⟨"java/lang/StringUTF16", "coderFromArrayLen", "([BI)B"⟩ : MethodName)) hown (mvT hZ (hw _ (List.mem_of_getElem? (i := 28) rfl))) (mvT hZ (hw _ (List.mem_of_getElem? (i := 29) rfl))) (mvT hZ (hw _ (List.mem_of_getElem? (i := 22) rfl))) (mvT hZ (hw _ (List.mem_of_getElem? (i := 30) rfl))) (by decide) (backOf (W := 1) (rm71 l Z aw hw [] b3_b r3_kb ((nar .byte (x0.toInt8.toInt32))) T3.heap n0 Zp3 (f6)) hZ (hw _ (List.mem_of_getElem? (i := 30) rfl)) (hw _ (List.mem_of_getElem? (i := 22) rfl)) (by decide) (by decide)) (g := (mkF m 45 #[.val (.ref a0), .val (.ref a1), .val (.int (0 : Int32)), .val (.int (1 : Int32)), .val .null, .val (.ref b3_b)] [(.int (1 : Int32)), (.ref b3_b), (.ref a0)])) rfl (by rw [hml]; rfl) (argsL := [(.ref b3_b), (.int (1 : Int32))]) (rest := [(.ref a0)]) (lenOf pd_4 rfl) rfl (by show 2 * 0 + _ ≤ _; exact Nat.le_of_eq rfl) (hb hby d3_45) (fun _ _ => ⟨rfl, rfl, (by decide : 1 + 0 ≤ _), (by decide : 1 + 0 ≤ _)⟩)
  dsimp only [Pt.U, Pt.locs, Pt.cells, Pt.slots] at X4 l4 y4 z4 st4 hQ4
  subst l4 y4 z4
  obtain ⟨rfl, N4q, e4⟩ := hQ4
  have N4 := Fr.app N3 N4q
  have go4 : Go p e below A0 (T4.setTop (mkF m 48 #[.val (.ref a0), .val (.ref a1), .val (.int (0 : Int32)), .val (.int (1 : Int32)), .val .null, .val (.ref b3_b)] [(.int (0 : Int32)), (.ref a0)])) := by
    intro t k
    refine go3 t ?_
    refine st4 _ ?_
    show Steps p.tables e below (T4.setTop (mkF m 48 #[.val (.ref a0), .val (.ref a1), .val (.int (0 : Int32)), .val (.int (1 : Int32)), .val .null, .val (.ref b3_b)] [(.int (0 : Int32)), (.ref a0)])) _
    exact k
  obtain ⟨T5, h5, X5, e5, W5, st5⟩ := putF X4 hx hZ hown (host := "") (Or.inl (hw _ (List.mem_of_getElem? (i := 31) rfl))) Via.refl e4 f3 f1 (Or.inr ⟨(hw _ (List.mem_of_getElem? (i := 32) rfl)), rfl, hnm⟩) (hw _ (List.mem_of_getElem? (i := 7) rfl)) (ty := .byte) (by decide) (by decide) (by decide) (g := (mkF m 48 #[.val (.ref a0), .val (.ref a1), .val (.int (0 : Int32)), .val (.int (1 : Int32)), .val .null, .val (.ref b3_b)] [(.int (0 : Int32)), (.ref a0)])) rfl rfl (hb hby d3_48)
  have f7 : Exa Z h5 a0 "java/lang/String" := f1.wr W5
  have f8 : Fld Z h5 a0 "java/lang/String" "value" "[B" .null := f2.other W5 (Or.inr (slot_ne (Or.inr (hw _ (List.mem_of_getElem? (i := 34) rfl))) (Or.inr (hw _ (List.mem_of_getElem? (i := 32) rfl))) (by decide) (t := (.array .byte)) (t' := .byte) (by decide) (by decide)))
  have f9 : Arv Z h5 a1 ka .char (1 : Int32) [(.int x0)] (.int (0 : Int32)) := f4.other W5 (Ne.symm r5)
  have f10 : Old Z n0 h5 := f5.wr W5 r1
  have f11 : Arv Z h5 b3_b r3_kb .byte (1 : Int32) [(.int (nar .byte (x0.toInt8.toInt32)))] (.int (0 : Int32)) := f6.other W5 (Ne.symm ne_a0_b3_b)
  have Zp5 : n0 ≤ h5.size := Nat.le_trans Zp3 (Keep.of_wr W5).1
  have K5 : Keep h0 h5 [a0] := K3.wr W5 (Or.inl (List.mem_of_getElem? (i := 0) rfl))
  have N5 := Fr.snoc X5 N4 r1
  have f12 : Fld Z h5 a0 "java/lang/String" "coder" "B" (.int (0 : Int32)) := f3.same W5
  have go5 : Go p e below A0 (T5.setTop (mkF m 54 #[.val (.ref a0), .val (.ref a1), .val (.int (0 : Int32)), .val (.int (1 : Int32)), .val .null, .val (.ref b3_b)] [(.ref b3_b), (.ref a0)])) := by
    intro t k
    refine go4 t ?_
    refine st5 _ ?_
    show Steps p.tables e below (T5.setTop (mkF m 51 #[.val (.ref a0), .val (.ref a1), .val (.int (0 : Int32)), .val (.int (1 : Int32)), .val .null, .val (.ref b3_b)] [])) _
    refine o_aloadN X5 hx hby d3_51 52 rfl rfl rfl ?_
    refine o_aload X5 hx hby d3_52 54 rfl rfl rfl ?_
    exact k
  obtain ⟨T6, h6, X6, e6, W6, st6⟩ := putF X5 hx hZ hown (host := "") (Or.inl (hw _ (List.mem_of_getElem? (i := 33) rfl))) Via.refl e5 f8 f7 (Or.inr ⟨(hw _ (List.mem_of_getElem? (i := 34) rfl)), rfl, hnm⟩) (hw _ (List.mem_of_getElem? (i := 7) rfl)) (ty := (.array .byte)) (by decide) rfl rfl (g := (mkF m 54 #[.val (.ref a0), .val (.ref a1), .val (.int (0 : Int32)), .val (.int (1 : Int32)), .val .null, .val (.ref b3_b)] [(.ref b3_b), (.ref a0)])) rfl rfl (hb hby d3_54)
  have f13 : Exa Z h6 a0 "java/lang/String" := f7.wr W6
  have f14 : Arv Z h6 a1 ka .char (1 : Int32) [(.int x0)] (.int (0 : Int32)) := f9.other W6 (Ne.symm r5)
  have f15 : Old Z n0 h6 := f10.wr W6 r1
  have f16 : Arv Z h6 b3_b r3_kb .byte (1 : Int32) [(.int (nar .byte (x0.toInt8.toInt32)))] (.int (0 : Int32)) := f11.other W6 (Ne.symm ne_a0_b3_b)
  have f17 : Fld Z h6 a0 "java/lang/String" "coder" "B" (.int (0 : Int32)) := f12.other W6 (Or.inr (slot_ne (Or.inr (hw _ (List.mem_of_getElem? (i := 32) rfl))) (Or.inr (hw _ (List.mem_of_getElem? (i := 34) rfl))) (by decide) (t := .byte) (t' := (.array .byte)) (by decide) (by decide)))
  have Zp6 : n0 ≤ h6.size := Nat.le_trans Zp5 (Keep.of_wr W6).1
  have K6 : Keep h0 h6 [a0] := K5.wr W6 (Or.inl (List.mem_of_getElem? (i := 0) rfl))
  have N6 := Fr.snoc X6 N5 r1
  have f18 : Fld Z h6 a0 "java/lang/String" "value" "[B" (.ref b3_b) := f8.same W6
  have go6 : Go p e below A0 (T6.setTop (mkF m 57 #[.val (.ref a0), .val (.ref a1), .val (.int (0 : Int32)), .val (.int (1 : Int32)), .val .null, .val (.ref b3_b)] [])) := by
    intro t k
    refine go5 t ?_
    refine st6 _ ?_
    show Steps p.tables e below (T6.setTop (mkF m 57 #[.val (.ref a0), .val (.ref a1), .val (.int (0 : Int32)), .val (.int (1 : Int32)), .val .null, .val (.ref b3_b)] [])) _
    exact k
  rw [hA0] at go6
  obtain ⟨fs, hr, hrun, hended, hW, hsame⟩ := X6.leave (v := none) (fun _ => rfl)
  refine ⟨_, _, go6 _ (X6.returnOut hx Bd.returns (hb hby d3_57) hr), hrun, hended, _, _, rfl, ?_, ⟨_, rfl⟩, hW, hsame.mono (by decide) (by decide)⟩
  show Q31 Z a0 a1 ka cs x0 h0 n0 _ T6.heap _
  rw [e6]
  exact ⟨b3_b, r3_kb, rfl, N6, K6, f18, f17, f16, trivial⟩
theorem d2_0 : decode jdk_42_method_3_code 0 = .ok (.aload_n 0, 1) := by decide +kernel
theorem d2_1 : decode jdk_42_method_3_code 1 = .ok (.aload_n 1, 1) := by decide +kernel
theorem d2_2 : decode jdk_42_method_3_code 2 = .ok (.iconst 0, 1) := by decide +kernel
theorem d2_3 : decode jdk_42_method_3_code 3 = .ok (.aload_n 1, 1) := by decide +kernel
theorem d2_4 : decode jdk_42_method_3_code 4 = .ok (.arraylength, 1) := by decide +kernel
theorem d2_5 : decode jdk_42_method_3_code 5 = .ok (.aconst_null, 1) := by decide +kernel
theorem d2_6 : decode jdk_42_method_3_code 6 = .ok (.invokespecial 27, 3) := by decide +kernel
theorem d2_9 : decode jdk_42_method_3_code 9 = .ok (.return_, 1) := by decide +kernel
theorem pd_5 : parseMethodDescriptor "([CIILjava/lang/Void;)V" = some ⟨[(.array .char), .int, .int, (.object "java/lang/Void")], none⟩ := by decide +kernel
theorem ef_21 (m : MethodId) (x0 : Addr) (x1 : Addr) : entryFrame m #[(.ref x0), (.ref x1)] 2 = mkF m 0 #[.val (.ref x0), .val (.ref x1)] [] := by first | (simp [entryFrame, mkF, argsToLocals, Value.category]; done) | rfl
def Q21 (Z : State) (a0 : Addr) (a1 : Addr) (ka : ClassId) (cs : Int32) (x0 : Int32) (h0 : Heap) (n0 : Nat) (v : Option Value) (h : Heap) (L : List Loc) : Prop := ∃ d : Addr, ∃ kd : ClassId, v = none ∧ Fr n0 L ∧ Keep h0 h [a0] ∧ Fld Z h a0 "java/lang/String" "value" "[B" (.ref d) ∧ Fld Z h a0 "java/lang/String" "coder" "B" (.int (0 : Int32)) ∧ Arv Z h d kd .byte (1 : Int32) [(.int (nar .byte (x0.toInt8.toInt32)))] (.int (0 : Int32)) ∧ True
set_option maxRecDepth 65536 in
set_option maxHeartbeats 40000000 in
theorem rm21 (l : Launch) (Z : State) (aw : Array Value) (hw : ∀ d ∈ tables_1, d.before aw Z = true) (ws : List Jvm.Cond) (a0 : Addr) (a1 : Addr) (ka : ClassId) (cs : Int32) (x0 : Int32) (h0 : Heap) (n0 : Nat) (Z0 : n0 ≤ h0.size) (r0 : Exa Z h0 a0 "java/lang/String") (r1 : n0 ≤ a0) (r2 : Fld Z h0 a0 "java/lang/String" "value" "[B" .null) (r3 : Fld Z h0 a0 "java/lang/String" "coder" "B" (.int (0 : Int32))) (r4 : Arv Z h0 a1 ka .char (1 : Int32) [(.int x0)] (.int (0 : Int32))) (r5 : a0 ≠ a1) (r6 : Sta Z Z.heap "java/lang/String" "COMPACT_STRINGS" "Z" (.int cs)) (r7 : Old Z n0 h0) (hcs : (¬ (cs = 0))) (hl0 : (¬ (255 : Int32) < x0)) :
    MetFree l (⟨"java/lang/String", "<init>", "([C)V"⟩ : MethodName) (head1 (Jvm.Cond.code (⟨"java/lang/String", "<init>", "([C)V"⟩ : MethodName) jdk_42_method_3_code 2 none :: ws) ({ frames := 3, cells := 1, slots := 1, locals := 52 } : Room)) (fun a U => a = #[(.ref a0), (.ref a1)] ∧ Z.Warmed39 U.vm ∧ U.heap = h0) (fun _ _ _ _ _ => True) (fun _ U o U' => ∃ v L, o = .returned v ∧ Q21 Z a0 a1 ka cs x0 h0 n0 v U'.heap L ∧ FrameEnd U o U' L ({ frames := 3, cells := 1, slots := 1, locals := 52 } : Room).cells ({ frames := 3, cells := 1, slots := 1, locals := 52 } : Room).slots) := by
  refine MetFree.of_bodySF (plainFor_of_name pn_3) hisR ?_
  intro p e s m args below meth c s₁ Bd hml0 hP hK
  obtain ⟨rfl, hZ, hh⟩ := hP
  have hx := Bd.exec
  have hby := Bd.bytes
  have hml : c.maxLocals = 2 := hml0
  have hown : s.vm.findClass "java/lang/String" = some m.cls := findClass_of_methodNamed Bd.named
  have hnm := (name_of_methodNamed Bd.named Bd.method).1
  have X0 : Stand p l e ({ frames := 3, cells := 1, slots := 1, locals := 52 } : Room) s m #[(.ref a0), (.ref a1)] below meth c s₁ [] 0 0 := Stand.of_body Bd
  have e0 : s₁.heap = h0 := by rw [← hh, Bd.state]; rfl
  have N0 := Fr.nil n0
  obtain ⟨A0, hA0⟩ : ∃ A0, A0 = s₁.setTop (entryFrame m #[(.ref a0), (.ref a1)] 2) := ⟨_, rfl⟩
  have go0 : Go p e below A0 (s₁.setTop (mkF m 0 #[.val (.ref a0), .val (.ref a1)] [])) := fun t k => by rw [hA0]; exact castTop (ef_21 m a0 a1) k
  obtain ⟨cl1, Ar1, q1, S1, M1, H1, G1⟩ := id r4
  have go1 : Go p e below A0 (s₁.setTop (mkF m 6 #[.val (.ref a0), .val (.ref a1)] [.null, (.int (1 : Int32)), (.int (0 : Int32)), (.ref a1), (.ref a0)])) := by
    intro t k
    refine go0 t ?_
    refine o_aloadN X0 hx hby d2_0 1 rfl rfl rfl ?_
    refine o_aloadN X0 hx hby d2_1 2 rfl rfl rfl ?_
    refine o_iconst X0 hx hby d2_2 3 rfl (v := (0 : Int32)) rfl ?_
    refine o_aloadN X0 hx hby d2_3 4 rfl rfl rfl ?_
    refine X0.arraylength hx (by rw [e0]; exact Ar1.1) (State.isArrayOf_alike hZ.alike Ar1.2.1) (g := (mkF m 4 #[.val (.ref a0), .val (.ref a1)] [(.ref a1), (.int (0 : Int32)), (.ref a1), (.ref a0)])) rfl rfl (hb hby d2_4) _ ?_
    rw [len_of S1 M1]
    show Steps p.tables e below (s₁.setTop (mkF m 5 #[.val (.ref a0), .val (.ref a1)] [(.int (1 : Int32)), (.int (0 : Int32)), (.ref a1), (.ref a0)])) _
    refine o_aconstNull X0 hx hby d2_5 6 rfl ?_
    exact k
  obtain ⟨_, _, ⟨T2, L2, k2, n2⟩, -, X2, ⟨Lc2, hQ2, l2, y2, z2⟩, st2⟩ := X0.specialBack hx (y := (⟨"java/lang/String", "<init>", "([CIILjava/lang/Void;)V"⟩ : MethodName)) rfl hown (mvT hZ (hw _ (List.mem_of_getElem? (i := 12) rfl))) (mvT hZ (hw _ (List.mem_of_getElem? (i := 13) rfl))) (mvT hZ (hw _ (List.mem_of_getElem? (i := 15) rfl))) (by decide) (backOf (W := 0) (rm31 l Z aw hw [] a0 a1 ka cs x0 h0 n0 Z0 (r0) (r1) (r2) (r3) (r4) (r5) (r6) (r7) (hcs) (hl0)) hZ (hw _ (List.mem_of_getElem? (i := 15) rfl)) (hw _ (List.mem_of_getElem? (i := 8) rfl)) (by decide) (by decide)) (g := (mkF m 6 #[.val (.ref a0), .val (.ref a1)] [.null, (.int (1 : Int32)), (.int (0 : Int32)), (.ref a1), (.ref a0)])) rfl (by rw [hml]; rfl) (Steps.refl _) (a := a0) (argsL := [(.ref a1), (.int (0 : Int32)), (.int (1 : Int32)), .null]) (rest := []) (lenOf pd_5 rfl) rfl (by show 2 * 0 + _ ≤ _; exact Nat.le_of_eq rfl) (hb hby d2_6) (fun _ _ => ⟨rfl, e0, (by decide : 0 + 1 ≤ _), (by decide : 0 + 1 ≤ _)⟩)
  dsimp only [Pt.U, Pt.locs, Pt.cells, Pt.slots] at X2 l2 y2 z2 st2 hQ2
  subst l2 y2 z2
  obtain ⟨r2_d, r2_kd, rfl, N2q, K2q, qf2_0, qf2_1, qf2_2, -⟩ := hQ2
  have f1 : Exa Z T2.heap a0 "java/lang/String" := r0.keep K2q
  have f2 : Arv Z T2.heap a1 ka .char (1 : Int32) [(.int x0)] (.int (0 : Int32)) := r4.keep K2q (ninS (Ne.symm r5) nin0)
  have f3 : Old Z n0 T2.heap := r7.keep K2q (allS r1 all0)
  have Zp2 : n0 ≤ T2.heap.size := Nat.le_trans Z0 K2q.1
  have K2 : Keep h0 T2.heap [a0] := Keep.trans (Keep.refl h0 [a0]) K2q (allS (P := fun x => x ∈ ([a0] : List Addr) ∨ h0.size ≤ x) (Or.inl (List.mem_of_getElem? (i := 0) rfl)) all0)
  have f4 : Fld Z T2.heap a0 "java/lang/String" "value" "[B" (.ref r2_d) := qf2_0
  have f5 : Fld Z T2.heap a0 "java/lang/String" "coder" "B" (.int (0 : Int32)) := qf2_1
  have f6 : Arv Z T2.heap r2_d r2_kd .byte (1 : Int32) [(.int (nar .byte (x0.toInt8.toInt32)))] (.int (0 : Int32)) := qf2_2
  have N2 := Fr.app N0 N2q
  have go2 : Go p e below A0 (T2.setTop (mkF m 9 #[.val (.ref a0), .val (.ref a1)] [])) := by
    intro t k
    refine go1 t ?_
    refine st2.trans ?_
    show Steps p.tables e below (T2.setTop (mkF m 9 #[.val (.ref a0), .val (.ref a1)] [])) _
    exact k
  rw [hA0] at go2
  obtain ⟨fs, hr, hrun, hended, hW, hsame⟩ := X2.leave (v := none) (fun _ => rfl)
  refine ⟨_, _, go2 _ (X2.returnOut hx Bd.returns (hb hby d2_9) hr), hrun, hended, _, _, rfl, ?_, ⟨_, rfl⟩, hW, hsame.mono (by decide) (by decide)⟩
  show Q21 Z a0 a1 ka cs x0 h0 n0 _ T2.heap _
  exact ⟨r2_d, r2_kd, rfl, N2, K2, f4, f5, f6, trivial⟩
theorem ef_72 (m : MethodId) (x0 : Addr) : entryFrame m #[(.ref x0), (.int (2 : Int32))] 2 = mkF m 0 #[.val (.ref x0), .val (.int (2 : Int32))] [] := by first | (simp [entryFrame, mkF, argsToLocals, Value.category]; done) | rfl
def Q72 (Z : State) (a0 : Addr) (ka : ClassId) (x0 : Int32) (x1 : Int32) (h0 : Heap) (n0 : Nat) (v : Option Value) (h : Heap) (L : List Loc) : Prop := v = some (.int (0 : Int32)) ∧ Fr n0 L ∧ h = h0
set_option maxRecDepth 65536 in
set_option maxHeartbeats 40000000 in
theorem rm72 (l : Launch) (Z : State) (aw : Array Value) (hw : ∀ d ∈ tables_1, d.before aw Z = true) (ws : List Jvm.Cond) (a0 : Addr) (ka : ClassId) (x0 : Int32) (x1 : Int32) (h0 : Heap) (n0 : Nat) (Z0 : n0 ≤ h0.size) (r0 : Arv Z h0 a0 ka .byte (2 : Int32) [(.int x0), (.int x1)] (.int (0 : Int32))) :
    MetFree l (⟨"java/lang/StringUTF16", "coderFromArrayLen", "([BI)B"⟩ : MethodName) (head1 (Jvm.Cond.code (⟨"java/lang/StringUTF16", "coderFromArrayLen", "([BI)B"⟩ : MethodName) jdk_52_method_15_code 2 (some .byte) :: ws) ({ frames := 0, cells := 0, slots := 0, locals := 0 } : Room)) (fun a U => a = #[(.ref a0), (.int (2 : Int32))] ∧ Z.Warmed39 U.vm ∧ U.heap = h0) (fun _ _ _ _ _ => True) (fun _ U o U' => ∃ v L, o = .returned v ∧ Q72 Z a0 ka x0 x1 h0 n0 v U'.heap L ∧ FrameEnd U o U' L ({ frames := 0, cells := 0, slots := 0, locals := 0 } : Room).cells ({ frames := 0, cells := 0, slots := 0, locals := 0 } : Room).slots) := by
  refine MetFree.of_bodySF (plainFor_of_name pn_7) hisR ?_
  intro p e s m args below meth c s₁ Bd hml0 hP hK
  obtain ⟨rfl, hZ, hh⟩ := hP
  have hx := Bd.exec
  have hby := Bd.bytes
  have hml : c.maxLocals = 2 := hml0
  have hown : s.vm.findClass "java/lang/StringUTF16" = some m.cls := findClass_of_methodNamed Bd.named
  have hnm := (name_of_methodNamed Bd.named Bd.method).1
  have X0 : Stand p l e ({ frames := 0, cells := 0, slots := 0, locals := 0 } : Room) s m #[(.ref a0), (.int (2 : Int32))] below meth c s₁ [] 0 0 := Stand.of_body Bd
  have e0 : s₁.heap = h0 := by rw [← hh, Bd.state]; rfl
  have N0 := Fr.nil n0
  obtain ⟨A0, hA0⟩ : ∃ A0, A0 = s₁.setTop (entryFrame m #[(.ref a0), (.int (2 : Int32))] 2) := ⟨_, rfl⟩
  have go0 : Go p e below A0 (s₁.setTop (mkF m 0 #[.val (.ref a0), .val (.int (2 : Int32))] [])) := fun t k => by rw [hA0]; exact castTop (ef_72 m a0) k
  obtain ⟨cl1, Ar1, q1, S1, M1, H1, G1⟩ := id r0
  have go1 : Go p e below A0 (s₁.setTop (mkF m 8 #[.val (.ref a0), .val (.int (2 : Int32))] [(.int (((((2 : Int32) - (2 : Int32)).toUInt32 >>> ((31 : Int32) &&& 31).toUInt32).toInt32).toInt8.toInt32))])) := by
    intro t k
    refine go0 t ?_
    refine o_iloadN X0 hx hby d7_0 1 rfl rfl ?_
    refine o_aloadN X0 hx hby d7_1 2 rfl rfl rfl ?_
    refine X0.arraylength hx (by rw [e0]; exact Ar1.1) (State.isArrayOf_alike hZ.alike Ar1.2.1) (g := (mkF m 2 #[.val (.ref a0), .val (.int (2 : Int32))] [(.ref a0), (.int (2 : Int32))])) rfl rfl (hb hby d7_2) _ ?_
    rw [len_of S1 M1]
    show Steps p.tables e below (s₁.setTop (mkF m 3 #[.val (.ref a0), .val (.int (2 : Int32))] [(.int (2 : Int32)), (.int (2 : Int32))])) _
    refine o_isub X0 hx hby d7_3 4 rfl ?_
    refine o_bipush X0 hx hby d7_4 6 rfl (v := (31 : Int32)) rfl ?_
    refine o_iushr X0 hx hby d7_6 7 rfl ?_
    refine o_i2b X0 hx hby d7_7 8 rfl ?_
    exact k
  have hF : (((((2 : Int32) - (2 : Int32)).toUInt32 >>> ((31 : Int32) &&& 31).toUInt32).toInt32).toInt8.toInt32) = (0 : Int32) := by
    decide
  rw [hA0] at go1
  obtain ⟨fs, hr, hrun, hended, hW, hsame⟩ := X0.leave (v := some (.int (((((2 : Int32) - (2 : Int32)).toUInt32 >>> ((31 : Int32) &&& 31).toUInt32).toInt32).toInt8.toInt32))) (fun h => by rw [Bd.returns] at h; cases h)
  refine ⟨_, _, go1 _ (o_retB X0 hx Bd.returns (hb hby d7_8) (by decide) hr), hrun, hended, _, _, rfl, ?_, ⟨_, rfl⟩, hW, hsame.mono (by decide) (by decide)⟩
  show Q72 Z a0 ka x0 x1 h0 n0 _ s₁.heap _
  rw [e0]
  exact ⟨by rw [← hF], N0, rfl⟩
theorem ef_62 (m : MethodId) (x0 : Addr) (x2 : Addr) : entryFrame m #[(.ref x0), (.int (0 : Int32)), (.ref x2), (.int (0 : Int32)), (.int (2 : Int32))] 7 = mkF m 0 #[.val (.ref x0), .val (.int (0 : Int32)), .val (.ref x2), .val (.int (0 : Int32)), .val (.int (2 : Int32)), .unset, .unset] [] := by first | (simp [entryFrame, mkF, argsToLocals, Value.category]; done) | rfl
def Q62 (Z : State) (a0 : Addr) (a2 : Addr) (ka : ClassId) (kb : ClassId) (x0 : Int32) (x1 : Int32) (h0 : Heap) (n0 : Nat) (v : Option Value) (h : Heap) (L : List Loc) : Prop := v = some (.int (2 : Int32)) ∧ Fr n0 L ∧ Keep h0 h [a2] ∧ Arv Z h a2 kb .byte (2 : Int32) [(.int (nar .byte (x0.toInt8.toInt32))), (.int (nar .byte (x1.toInt8.toInt32)))] (.int (0 : Int32)) ∧ True
set_option maxRecDepth 65536 in
set_option maxHeartbeats 40000000 in
theorem rm62 (l : Launch) (Z : State) (aw : Array Value) (hw : ∀ d ∈ tables_1, d.before aw Z = true) (ws : List Jvm.Cond) (a0 : Addr) (a2 : Addr) (ka : ClassId) (kb : ClassId) (x0 : Int32) (x1 : Int32) (h0 : Heap) (n0 : Nat) (Z0 : n0 ≤ h0.size) (r0 : Arv Z h0 a0 ka .char (2 : Int32) [(.int x0), (.int x1)] (.int (0 : Int32))) (r1 : Arv Z h0 a2 kb .byte (2 : Int32) [(.int (0 : Int32)), (.int (0 : Int32))] (.int (0 : Int32))) (r2 : a0 ≠ a2) (r3 : n0 ≤ a2) (hl0 : (¬ (255 : Int32) < x0)) (hl1 : (¬ (255 : Int32) < x1)) :
    MetFree l (⟨"java/lang/StringUTF16", "compress", "([CI[BII)I"⟩ : MethodName) (head1 (Jvm.Cond.code (⟨"java/lang/StringUTF16", "compress", "([CI[BII)I"⟩ : MethodName) jdk_52_method_21_code 7 (some .int) :: ws) ({ frames := 0, cells := 0, slots := 0, locals := 0 } : Room)) (fun a U => a = #[(.ref a0), (.int (0 : Int32)), (.ref a2), (.int (0 : Int32)), (.int (2 : Int32))] ∧ Z.Warmed39 U.vm ∧ U.heap = h0) (fun _ _ _ _ _ => True) (fun _ U o U' => ∃ v L, o = .returned v ∧ Q62 Z a0 a2 ka kb x0 x1 h0 n0 v U'.heap L ∧ FrameEnd U o U' L ({ frames := 0, cells := 0, slots := 0, locals := 0 } : Room).cells ({ frames := 0, cells := 0, slots := 0, locals := 0 } : Room).slots) := by
  refine MetFree.of_bodySF (plainFor_of_name pn_7) hisR ?_
  intro p e s m args below meth c s₁ Bd hml0 hP hK
  obtain ⟨rfl, hZ, hh⟩ := hP
  have hx := Bd.exec
  have hby := Bd.bytes
  have hml : c.maxLocals = 7 := hml0
  have hown : s.vm.findClass "java/lang/StringUTF16" = some m.cls := findClass_of_methodNamed Bd.named
  have hnm := (name_of_methodNamed Bd.named Bd.method).1
  have X0 : Stand p l e ({ frames := 0, cells := 0, slots := 0, locals := 0 } : Room) s m #[(.ref a0), (.int (0 : Int32)), (.ref a2), (.int (0 : Int32)), (.int (2 : Int32))] below meth c s₁ [] 0 0 := Stand.of_body Bd
  have e0 : s₁.heap = h0 := by rw [← hh, Bd.state]; rfl
  have N0 := Fr.nil n0
  obtain ⟨A0, hA0⟩ : ∃ A0, A0 = s₁.setTop (entryFrame m #[(.ref a0), (.int (0 : Int32)), (.ref a2), (.int (0 : Int32)), (.int (2 : Int32))] 7) := ⟨_, rfl⟩
  have go0 : Go p e below A0 (s₁.setTop (mkF m 0 #[.val (.ref a0), .val (.int (0 : Int32)), .val (.ref a2), .val (.int (0 : Int32)), .val (.int (2 : Int32)), .unset, .unset] [])) := fun t k => by rw [hA0]; exact castTop (ef_62 m a0 a2) k
  have go1 : Go p e below A0 (s₁.setTop (mkF m 3 #[.val (.ref a0), .val (.int (0 : Int32)), .val (.ref a2), .val (.int (0 : Int32)), .val (.int (2 : Int32)), .val (.int (0 : Int32)), .unset] [])) := by
    intro t k
    refine go0 t ?_
    refine o_iconst X0 hx hby d6_0 1 rfl (v := (0 : Int32)) rfl ?_
    refine o_istore X0 hx hby d6_1 3 rfl (l' := #[.val (.ref a0), .val (.int (0 : Int32)), .val (.ref a2), .val (.int (0 : Int32)), .val (.int (2 : Int32)), .val (.int (0 : Int32)), .unset]) rfl ?_
    exact k
  obtain ⟨cl1, Ar1, q1, S1, M1, H1, G1⟩ := id r0
  have hin1 : ¬ ((0 : Int32) < 0 ∨ cl1.slots.size ≤ ((0 : Int32)).toNatClampNeg) := inb_of S1 ⟨by decide, by decide⟩
  have hat1 : cl1.slots[((0 : Int32)).toNatClampNeg]? = some (.int x0) := H1.at hin1 rfl
  have go2 : Go p e below A0 (s₁.setTop (mkF m 15 #[.val (.ref a0), .val (.int (0 : Int32)), .val (.ref a2), .val (.int (0 : Int32)), .val (.int (2 : Int32)), .val (.int (0 : Int32)), .val (.int x0)] [])) := by
    intro t k
    refine go1 t ?_
    refine o_iload X0 hx hby d6_3 5 rfl rfl ?_
    refine o_iload X0 hx hby d6_5 7 rfl rfl ?_
    refine o_icmpN X0 hx hby d6_7 10 rfl (tlt (show (0 : Int32) < (2 : Int32) by decide)).2.1 ?_
    refine o_aloadN X0 hx hby d6_10 11 rfl rfl rfl ?_
    refine o_iloadN X0 hx hby d6_11 12 rfl rfl ?_
    refine X0.caload hx (j := (0 : Int32)) (v := (.int x0)) (by rw [e0]; exact Ar1.1) (State.isArrayOf_alike hZ.alike Ar1.2.1) Ar1.2.2 hin1 hat1 (g := (mkF m 12 #[.val (.ref a0), .val (.int (0 : Int32)), .val (.ref a2), .val (.int (0 : Int32)), .val (.int (2 : Int32)), .val (.int (0 : Int32)), .unset] [(.int (0 : Int32)), (.ref a0)])) rfl rfl (hb hby d6_12) _ ?_
    show Steps p.tables e below (s₁.setTop (mkF m 13 #[.val (.ref a0), .val (.int (0 : Int32)), .val (.ref a2), .val (.int (0 : Int32)), .val (.int (2 : Int32)), .val (.int (0 : Int32)), .unset] [(.int x0)])) _
    refine o_istore X0 hx hby d6_13 15 rfl (l' := #[.val (.ref a0), .val (.int (0 : Int32)), .val (.ref a2), .val (.int (0 : Int32)), .val (.int (2 : Int32)), .val (.int (0 : Int32)), .val (.int x0)]) rfl ?_
    exact k
  have go3 : Go p e below A0 (s₁.setTop (mkF m 31 #[.val (.ref a0), .val (.int (0 : Int32)), .val (.ref a2), .val (.int (0 : Int32)), .val (.int (2 : Int32)), .val (.int (0 : Int32)), .val (.int x0)] [(.int (x0.toInt8.toInt32)), (.int (0 : Int32)), (.ref a2)])) := by
    intro t k
    refine go2 t ?_
    refine o_iload X0 hx hby d6_15 17 rfl rfl ?_
    refine o_sipush X0 hx hby d6_17 20 rfl (v := (255 : Int32)) rfl ?_
    refine o_icmpY X0 hx hby d6_20 26 rfl (flt (hl0)).2.2.2 ?_
    refine o_aloadN X0 hx hby d6_26 27 rfl rfl rfl ?_
    refine o_iloadN X0 hx hby d6_27 28 rfl rfl ?_
    refine o_iload X0 hx hby d6_28 30 rfl rfl ?_
    refine o_i2b X0 hx hby d6_30 31 rfl ?_
    exact k
  obtain ⟨v1, hv1, go4⟩ : ∃ v1 : Int32, v1 = (x0.toInt8.toInt32) ∧ Go p e below A0 (s₁.setTop (mkF m 31 #[.val (.ref a0), .val (.int (0 : Int32)), .val (.ref a2), .val (.int (0 : Int32)), .val (.int (2 : Int32)), .val (.int (0 : Int32)), .val (.int x0)] [(.int v1), (.int (0 : Int32)), (.ref a2)])) := ⟨_, rfl, go3⟩
  obtain ⟨cl2, Ar2, q2, S2, M2, H2, G2⟩ := id r1
  have hin2 : ¬ ((0 : Int32) < 0 ∨ cl2.slots.size ≤ ((0 : Int32)).toNatClampNeg) := inb_of S2 ⟨by decide, by decide⟩
  obtain ⟨T2, h2, X2, e2, W2, st2⟩ := stB X0 hx hZ e0 Ar2 (j := (0 : Int32)) hin2 (g := (mkF m 31 #[.val (.ref a0), .val (.int (0 : Int32)), .val (.ref a2), .val (.int (0 : Int32)), .val (.int (2 : Int32)), .val (.int (0 : Int32)), .val (.int x0)] [(.int v1), (.int (0 : Int32)), (.ref a2)])) rfl rfl (hb hby d6_31)
  have f1 : Arv Z h2 a0 ka .char (2 : Int32) [(.int x0), (.int x1)] (.int (0 : Int32)) := r0.other W2 r2
  have Zp2 : n0 ≤ h2.size := Nat.le_trans Z0 (Keep.of_wr W2).1
  have K2 : Keep h0 h2 [a2] := (Keep.refl h0 [a2]).wr W2 (Or.inl (List.mem_of_getElem? (i := 0) rfl))
  have N2 := Fr.snoc X2 N0 r3
  have f2 : Arv Z h2 a2 kb .byte (2 : Int32) [(.int (nar .byte v1)), (.int (0 : Int32))] (.int (0 : Int32)) := Arv.set Ar2 q2 S2 M2 H2 G2 (fits_nar_byte _) W2 0 rfl (Nat.le_of_ble_eq_true rfl)
  have go5 : Go p e below A0 (T2.setTop (mkF m 35 #[.val (.ref a0), .val (.int (1 : Int32)), .val (.ref a2), .val (.int (0 : Int32)), .val (.int (2 : Int32)), .val (.int (0 : Int32)), .val (.int x0)] [])) := by
    intro t k
    refine go4 t ?_
    refine st2 _ ?_
    show Steps p.tables e below (T2.setTop (mkF m 32 #[.val (.ref a0), .val (.int (0 : Int32)), .val (.ref a2), .val (.int (0 : Int32)), .val (.int (2 : Int32)), .val (.int (0 : Int32)), .val (.int x0)] [])) _
    refine o_iinc X2 hx hby d6_32 35 rfl rfl (i := (1 : Int32)) rfl (l' := #[.val (.ref a0), .val (.int (1 : Int32)), .val (.ref a2), .val (.int (0 : Int32)), .val (.int (2 : Int32)), .val (.int (0 : Int32)), .val (.int x0)]) rfl ?_
    exact k
  have go6 : Go p e below A0 (T2.setTop (mkF m 38 #[.val (.ref a0), .val (.int (1 : Int32)), .val (.ref a2), .val (.int (1 : Int32)), .val (.int (2 : Int32)), .val (.int (0 : Int32)), .val (.int x0)] [])) := by
    intro t k
    refine go5 t ?_
    refine o_iinc X2 hx hby d6_35 38 rfl rfl (i := (1 : Int32)) rfl (l' := #[.val (.ref a0), .val (.int (1 : Int32)), .val (.ref a2), .val (.int (1 : Int32)), .val (.int (2 : Int32)), .val (.int (0 : Int32)), .val (.int x0)]) rfl ?_
    exact k
  have go7 : Go p e below A0 (T2.setTop (mkF m 41 #[.val (.ref a0), .val (.int (1 : Int32)), .val (.ref a2), .val (.int (1 : Int32)), .val (.int (2 : Int32)), .val (.int (1 : Int32)), .val (.int x0)] [])) := by
    intro t k
    refine go6 t ?_
    refine o_iinc X2 hx hby d6_38 41 rfl rfl (i := (1 : Int32)) rfl (l' := #[.val (.ref a0), .val (.int (1 : Int32)), .val (.ref a2), .val (.int (1 : Int32)), .val (.int (2 : Int32)), .val (.int (1 : Int32)), .val (.int x0)]) rfl ?_
    exact k
  obtain ⟨cl3, Ar3, q3, S3, M3, H3, G3⟩ := id f1
  have hin3 : ¬ ((1 : Int32) < 0 ∨ cl3.slots.size ≤ ((1 : Int32)).toNatClampNeg) := inb_of S3 ⟨by decide, by decide⟩
  have hat3 : cl3.slots[((1 : Int32)).toNatClampNeg]? = some (.int x1) := H3.at hin3 rfl
  have go8 : Go p e below A0 (T2.setTop (mkF m 15 #[.val (.ref a0), .val (.int (1 : Int32)), .val (.ref a2), .val (.int (1 : Int32)), .val (.int (2 : Int32)), .val (.int (1 : Int32)), .val (.int x1)] [])) := by
    intro t k
    refine go7 t ?_
    refine o_goto X2 hx hby d6_41 3 rfl ?_
    refine o_iload X2 hx hby d6_3 5 rfl rfl ?_
    refine o_iload X2 hx hby d6_5 7 rfl rfl ?_
    refine o_icmpN X2 hx hby d6_7 10 rfl (tlt (show (1 : Int32) < (2 : Int32) by decide)).2.1 ?_
    refine o_aloadN X2 hx hby d6_10 11 rfl rfl rfl ?_
    refine o_iloadN X2 hx hby d6_11 12 rfl rfl ?_
    refine X2.caload hx (j := (1 : Int32)) (v := (.int x1)) (by rw [e2]; exact Ar3.1) (State.isArrayOf_alike hZ.alike Ar3.2.1) Ar3.2.2 hin3 hat3 (g := (mkF m 12 #[.val (.ref a0), .val (.int (1 : Int32)), .val (.ref a2), .val (.int (1 : Int32)), .val (.int (2 : Int32)), .val (.int (1 : Int32)), .val (.int x0)] [(.int (1 : Int32)), (.ref a0)])) rfl rfl (hb hby d6_12) _ ?_
    show Steps p.tables e below (T2.setTop (mkF m 13 #[.val (.ref a0), .val (.int (1 : Int32)), .val (.ref a2), .val (.int (1 : Int32)), .val (.int (2 : Int32)), .val (.int (1 : Int32)), .val (.int x0)] [(.int x1)])) _
    refine o_istore X2 hx hby d6_13 15 rfl (l' := #[.val (.ref a0), .val (.int (1 : Int32)), .val (.ref a2), .val (.int (1 : Int32)), .val (.int (2 : Int32)), .val (.int (1 : Int32)), .val (.int x1)]) rfl ?_
    exact k
  have go9 : Go p e below A0 (T2.setTop (mkF m 31 #[.val (.ref a0), .val (.int (1 : Int32)), .val (.ref a2), .val (.int (1 : Int32)), .val (.int (2 : Int32)), .val (.int (1 : Int32)), .val (.int x1)] [(.int (x1.toInt8.toInt32)), (.int (1 : Int32)), (.ref a2)])) := by
    intro t k
    refine go8 t ?_
    refine o_iload X2 hx hby d6_15 17 rfl rfl ?_
    refine o_sipush X2 hx hby d6_17 20 rfl (v := (255 : Int32)) rfl ?_
    refine o_icmpY X2 hx hby d6_20 26 rfl (flt (hl1)).2.2.2 ?_
    refine o_aloadN X2 hx hby d6_26 27 rfl rfl rfl ?_
    refine o_iloadN X2 hx hby d6_27 28 rfl rfl ?_
    refine o_iload X2 hx hby d6_28 30 rfl rfl ?_
    refine o_i2b X2 hx hby d6_30 31 rfl ?_
    exact k
  obtain ⟨v2, hv2, go10⟩ : ∃ v2 : Int32, v2 = (x1.toInt8.toInt32) ∧ Go p e below A0 (T2.setTop (mkF m 31 #[.val (.ref a0), .val (.int (1 : Int32)), .val (.ref a2), .val (.int (1 : Int32)), .val (.int (2 : Int32)), .val (.int (1 : Int32)), .val (.int x1)] [(.int v2), (.int (1 : Int32)), (.ref a2)])) := ⟨_, rfl, go9⟩
  obtain ⟨cl4, Ar4, q4, S4, M4, H4, G4⟩ := id f2
  have hin4 : ¬ ((1 : Int32) < 0 ∨ cl4.slots.size ≤ ((1 : Int32)).toNatClampNeg) := inb_of S4 ⟨by decide, by decide⟩
  obtain ⟨T4, h4, X4, e4, W4, st4⟩ := stB X2 hx hZ e2 Ar4 (j := (1 : Int32)) hin4 (g := (mkF m 31 #[.val (.ref a0), .val (.int (1 : Int32)), .val (.ref a2), .val (.int (1 : Int32)), .val (.int (2 : Int32)), .val (.int (1 : Int32)), .val (.int x1)] [(.int v2), (.int (1 : Int32)), (.ref a2)])) rfl rfl (hb hby d6_31)
  have f3 : Arv Z h4 a0 ka .char (2 : Int32) [(.int x0), (.int x1)] (.int (0 : Int32)) := f1.other W4 r2
  have Zp4 : n0 ≤ h4.size := Nat.le_trans Zp2 (Keep.of_wr W4).1
  have K4 : Keep h0 h4 [a2] := K2.wr W4 (Or.inl (List.mem_of_getElem? (i := 0) rfl))
  have N4 := Fr.snoc X4 N2 r3
  have f4 : Arv Z h4 a2 kb .byte (2 : Int32) [(.int (nar .byte v1)), (.int (nar .byte v2))] (.int (0 : Int32)) := Arv.set Ar4 q4 S4 M4 H4 G4 (fits_nar_byte _) W4 1 rfl (Nat.le_of_ble_eq_true rfl)
  have go11 : Go p e below A0 (T4.setTop (mkF m 35 #[.val (.ref a0), .val (.int (2 : Int32)), .val (.ref a2), .val (.int (1 : Int32)), .val (.int (2 : Int32)), .val (.int (1 : Int32)), .val (.int x1)] [])) := by
    intro t k
    refine go10 t ?_
    refine st4 _ ?_
    show Steps p.tables e below (T4.setTop (mkF m 32 #[.val (.ref a0), .val (.int (1 : Int32)), .val (.ref a2), .val (.int (1 : Int32)), .val (.int (2 : Int32)), .val (.int (1 : Int32)), .val (.int x1)] [])) _
    refine o_iinc X4 hx hby d6_32 35 rfl rfl (i := (1 : Int32)) rfl (l' := #[.val (.ref a0), .val (.int (2 : Int32)), .val (.ref a2), .val (.int (1 : Int32)), .val (.int (2 : Int32)), .val (.int (1 : Int32)), .val (.int x1)]) rfl ?_
    exact k
  have go12 : Go p e below A0 (T4.setTop (mkF m 38 #[.val (.ref a0), .val (.int (2 : Int32)), .val (.ref a2), .val (.int (2 : Int32)), .val (.int (2 : Int32)), .val (.int (1 : Int32)), .val (.int x1)] [])) := by
    intro t k
    refine go11 t ?_
    refine o_iinc X4 hx hby d6_35 38 rfl rfl (i := (1 : Int32)) rfl (l' := #[.val (.ref a0), .val (.int (2 : Int32)), .val (.ref a2), .val (.int (2 : Int32)), .val (.int (2 : Int32)), .val (.int (1 : Int32)), .val (.int x1)]) rfl ?_
    exact k
  have go13 : Go p e below A0 (T4.setTop (mkF m 41 #[.val (.ref a0), .val (.int (2 : Int32)), .val (.ref a2), .val (.int (2 : Int32)), .val (.int (2 : Int32)), .val (.int (2 : Int32)), .val (.int x1)] [])) := by
    intro t k
    refine go12 t ?_
    refine o_iinc X4 hx hby d6_38 41 rfl rfl (i := (1 : Int32)) rfl (l' := #[.val (.ref a0), .val (.int (2 : Int32)), .val (.ref a2), .val (.int (2 : Int32)), .val (.int (2 : Int32)), .val (.int (2 : Int32)), .val (.int x1)]) rfl ?_
    exact k
  have go14 : Go p e below A0 (T4.setTop (mkF m 46 #[.val (.ref a0), .val (.int (2 : Int32)), .val (.ref a2), .val (.int (2 : Int32)), .val (.int (2 : Int32)), .val (.int (2 : Int32)), .val (.int x1)] [(.int (2 : Int32))])) := by
    intro t k
    refine go13 t ?_
    refine o_goto X4 hx hby d6_41 3 rfl ?_
    refine o_iload X4 hx hby d6_3 5 rfl rfl ?_
    refine o_iload X4 hx hby d6_5 7 rfl rfl ?_
    refine o_icmpY X4 hx hby d6_7 44 rfl (flt (show ¬ ((2 : Int32) < (2 : Int32)) by decide)).2.1 ?_
    refine o_iload X4 hx hby d6_44 46 rfl rfl ?_
    exact k
  have hF : (2 : Int32) = (2 : Int32) := by subst hv1; subst hv2; first | rfl | simp only [*]
  subst hv1
  subst hv2
  rw [hA0] at go14
  obtain ⟨fs, hr, hrun, hended, hW, hsame⟩ := X4.leave (v := some (.int (2 : Int32))) (fun h => by rw [Bd.returns] at h; cases h)
  refine ⟨_, _, go14 _ (o_retI X4 hx Bd.returns (hb hby d6_46) hr), hrun, hended, _, _, rfl, ?_, ⟨_, rfl⟩, hW, hsame.mono (by decide) (by decide)⟩
  show Q62 Z a0 a2 ka kb x0 x1 h0 n0 _ T4.heap _
  rw [e4]
  exact ⟨by rw [← hF], N4, K4, f4, trivial⟩
theorem ef_52 (m : MethodId) (x0 : Addr) : entryFrame m #[(.ref x0), (.int (0 : Int32)), (.int (2 : Int32))] 6 = mkF m 0 #[.val (.ref x0), .val (.int (0 : Int32)), .val (.int (2 : Int32)), .unset, .unset, .unset] [] := by first | (simp [entryFrame, mkF, argsToLocals, Value.category]; done) | rfl
def Q52 (Z : State) (a0 : Addr) (ka : ClassId) (x0 : Int32) (x1 : Int32) (h0 : Heap) (n0 : Nat) (v : Option Value) (h : Heap) (L : List Loc) : Prop := ∃ kb : ClassId, ∃ b : Addr, v = some (.ref b) ∧ Fr n0 L ∧ Keep h0 h [] ∧ h0.size ≤ b ∧ Arv Z h b kb .byte (2 : Int32) [(.int (nar .byte (x0.toInt8.toInt32))), (.int (nar .byte (x1.toInt8.toInt32)))] (.int (0 : Int32)) ∧ True
set_option maxRecDepth 65536 in
set_option maxHeartbeats 40000000 in
theorem rm52 (l : Launch) (Z : State) (aw : Array Value) (hw : ∀ d ∈ tables_1, d.before aw Z = true) (ws : List Jvm.Cond) (a0 : Addr) (ka : ClassId) (x0 : Int32) (x1 : Int32) (h0 : Heap) (n0 : Nat) (Z0 : n0 ≤ h0.size) (r0 : Arv Z h0 a0 ka .char (2 : Int32) [(.int x0), (.int x1)] (.int (0 : Int32))) (hl0 : (¬ (255 : Int32) < x0)) (hl1 : (¬ (255 : Int32) < x1)) :
    MetFree l (⟨"java/lang/StringUTF16", "compress", "([CII)[B"⟩ : MethodName) (head1 (Jvm.Cond.code (⟨"java/lang/StringUTF16", "compress", "([CII)[B"⟩ : MethodName) jdk_52_method_16_code 6 (some (.array .byte)) :: ws) ({ frames := 1, cells := 1, slots := 2, locals := 18 } : Room)) (fun a U => a = #[(.ref a0), (.int (0 : Int32)), (.int (2 : Int32))] ∧ Z.Warmed39 U.vm ∧ U.heap = h0) (fun _ _ _ _ _ => True) (fun _ U o U' => ∃ v L, o = .returned v ∧ Q52 Z a0 ka x0 x1 h0 n0 v U'.heap L ∧ FrameEnd U o U' L ({ frames := 1, cells := 1, slots := 2, locals := 18 } : Room).cells ({ frames := 1, cells := 1, slots := 2, locals := 18 } : Room).slots) := by
  refine MetFree.of_bodySF (plainFor_of_name pn_7) hisR ?_
  intro p e s m args below meth c s₁ Bd hml0 hP hK
  obtain ⟨rfl, hZ, hh⟩ := hP
  have hx := Bd.exec
  have hby := Bd.bytes
  have hml : c.maxLocals = 6 := hml0
  have hown : s.vm.findClass "java/lang/StringUTF16" = some m.cls := findClass_of_methodNamed Bd.named
  have hnm := (name_of_methodNamed Bd.named Bd.method).1
  have X0 : Stand p l e ({ frames := 1, cells := 1, slots := 2, locals := 18 } : Room) s m #[(.ref a0), (.int (0 : Int32)), (.int (2 : Int32))] below meth c s₁ [] 0 0 := Stand.of_body Bd
  have e0 : s₁.heap = h0 := by rw [← hh, Bd.state]; rfl
  have N0 := Fr.nil n0
  obtain ⟨A0, hA0⟩ : ∃ A0, A0 = s₁.setTop (entryFrame m #[(.ref a0), (.int (0 : Int32)), (.int (2 : Int32))] 6) := ⟨_, rfl⟩
  have go0 : Go p e below A0 (s₁.setTop (mkF m 0 #[.val (.ref a0), .val (.int (0 : Int32)), .val (.int (2 : Int32)), .unset, .unset, .unset] [])) := fun t k => by rw [hA0]; exact castTop (ef_52 m a0) k
  obtain ⟨T1, h1, k1, X1, e1, E1, A1, st1⟩ := newP X0 hx hZ (hw _ (List.mem_of_getElem? (i := 24) rfl)) e0 (g := (mkF m 1 #[.val (.ref a0), .val (.int (0 : Int32)), .val (.int (2 : Int32)), .unset, .unset, .unset] [(.int (2 : Int32))])) rfl (hb hby d5_1) rfl (by decide) (cap := 2) (by decide) (by decide) (by decide) (by decide)
  obtain ⟨b1, g1⟩ : ∃ z, z = h0.size := ⟨_, rfl⟩
  rw [← g1] at A1 st1
  have ne_a0_b1 : a0 ≠ b1 := Nat.ne_of_lt (Nat.lt_of_lt_of_le r0.lt (Nat.le_of_eq g1.symm))
  have g_b1 : n0 ≤ b1 := Nat.le_trans Z0 (Nat.le_of_eq g1.symm)
  have sz_b1 : h0.size ≤ b1 := Nat.le_trans (Keep.refl h0 []).1 (Nat.le_of_eq g1.symm)
  have f1 : Arv Z h1 a0 ka .char (2 : Int32) [(.int x0), (.int x1)] (.int (0 : Int32)) := r0.ext E1
  have Zp1 : n0 ≤ h1.size := Nat.le_trans Z0 E1.1
  have K1 : Keep h0 h1 [] := (Keep.refl h0 []).ext E1
  have f2 : Arv Z h1 b1 k1 .byte (2 : Int32) [(.int (0 : Int32)), (.int (0 : Int32))] (.int (0 : Int32)) := (Arv.new A1 (by decide)).pad (pad_rep [] (.int (0 : Int32)) 2)
  have go1 : Go p e below A0 (T1.setTop (mkF m 9 #[.val (.ref a0), .val (.int (0 : Int32)), .val (.int (2 : Int32)), .val (.ref b1), .unset, .unset] [(.int (2 : Int32)), (.int (0 : Int32)), (.ref b1), (.int (0 : Int32)), (.ref a0)])) := by
    intro t k
    refine go0 t ?_
    refine o_iloadN X0 hx hby d5_0 1 rfl rfl ?_
    refine st1 _ ?_
    show Steps p.tables e below (T1.setTop (mkF m 3 #[.val (.ref a0), .val (.int (0 : Int32)), .val (.int (2 : Int32)), .unset, .unset, .unset] [(.ref b1)])) _
    refine o_astoreN X1 hx hby d5_3 4 rfl rfl (l' := #[.val (.ref a0), .val (.int (0 : Int32)), .val (.int (2 : Int32)), .val (.ref b1), .unset, .unset]) rfl ?_
    refine o_aloadN X1 hx hby d5_4 5 rfl rfl rfl ?_
    refine o_iloadN X1 hx hby d5_5 6 rfl rfl ?_
    refine o_aloadN X1 hx hby d5_6 7 rfl rfl rfl ?_
    refine o_iconst X1 hx hby d5_7 8 rfl (v := (0 : Int32)) rfl ?_
    refine o_iloadN X1 hx hby d5_8 9 rfl rfl ?_
    exact k
  obtain ⟨_, _, ⟨T2, L2, k2, n2⟩, -, X2, ⟨Lc2, hQ2, l2, y2, z2⟩, st2⟩ := Jvm.LawKit.callS X1 hx (y := (⟨"java/lang/StringUTF16", "compress", "([CI[BII)I"⟩ : MethodName)) hown (mvT hZ (hw _ (List.mem_of_getElem? (i := 25) rfl))) (mvT hZ (hw _ (List.mem_of_getElem? (i := 26) rfl))) (mvT hZ (hw _ (List.mem_of_getElem? (i := 22) rfl))) (mvT hZ (hw _ (List.mem_of_getElem? (i := 27) rfl))) (by decide) (backOf (W := 0) (rm62 l Z aw hw [] a0 b1 ka k1 x0 x1 h1 n0 Zp1 (f1) (f2) (ne_a0_b1) (g_b1) (hl0) (hl1)) hZ (hw _ (List.mem_of_getElem? (i := 27) rfl)) (hw _ (List.mem_of_getElem? (i := 22) rfl)) (by decide) (by decide)) (g := (mkF m 9 #[.val (.ref a0), .val (.int (0 : Int32)), .val (.int (2 : Int32)), .val (.ref b1), .unset, .unset] [(.int (2 : Int32)), (.int (0 : Int32)), (.ref b1), (.int (0 : Int32)), (.ref a0)])) rfl (by rw [hml]; rfl) (argsL := [(.ref a0), (.int (0 : Int32)), (.ref b1), (.int (0 : Int32)), (.int (2 : Int32))]) (rest := []) (lenOf pd_1 rfl) rfl (by show 2 * 0 + _ ≤ _; exact Nat.le_of_eq rfl) (hb hby d5_9) (fun _ _ => ⟨rfl, e1, (by decide : 1 + 0 ≤ _), (by decide : 2 + 0 ≤ _)⟩)
  dsimp only [Pt.U, Pt.locs, Pt.cells, Pt.slots] at X2 l2 y2 z2 st2 hQ2
  subst l2 y2 z2
  obtain ⟨rfl, N2q, K2q, qf2_0, -⟩ := hQ2
  have f3 : Arv Z T2.heap a0 ka .char (2 : Int32) [(.int x0), (.int x1)] (.int (0 : Int32)) := f1.keep K2q (ninS ne_a0_b1 nin0)
  have Zp2 : n0 ≤ T2.heap.size := Nat.le_trans Zp1 K2q.1
  have K2 : Keep h0 T2.heap [] := Keep.trans K1 K2q (allS (P := fun x => x ∈ ([] : List Addr) ∨ h0.size ≤ x) (Or.inr sz_b1) all0)
  have f4 : Arv Z T2.heap b1 k1 .byte (2 : Int32) [(.int (nar .byte (x0.toInt8.toInt32))), (.int (nar .byte (x1.toInt8.toInt32)))] (.int (0 : Int32)) := qf2_0
  have N2 := Fr.app N0 N2q
  have go2 : Go p e below A0 (T2.setTop (mkF m 12 #[.val (.ref a0), .val (.int (0 : Int32)), .val (.int (2 : Int32)), .val (.ref b1), .unset, .unset] [(.int (2 : Int32))])) := by
    intro t k
    refine go1 t ?_
    refine st2 _ ?_
    show Steps p.tables e below (T2.setTop (mkF m 12 #[.val (.ref a0), .val (.int (0 : Int32)), .val (.int (2 : Int32)), .val (.ref b1), .unset, .unset] [(.int (2 : Int32))])) _
    exact k
  have go3 : Go p e below A0 (T2.setTop (mkF m 14 #[.val (.ref a0), .val (.int (0 : Int32)), .val (.int (2 : Int32)), .val (.ref b1), .val (.int (2 : Int32)), .unset] [])) := by
    intro t k
    refine go2 t ?_
    refine o_istore X2 hx hby d5_12 14 rfl (l' := #[.val (.ref a0), .val (.int (0 : Int32)), .val (.int (2 : Int32)), .val (.ref b1), .val (.int (2 : Int32)), .unset]) rfl ?_
    exact k
  have go4 : Go p e below A0 (T2.setTop (mkF m 58 #[.val (.ref a0), .val (.int (0 : Int32)), .val (.int (2 : Int32)), .val (.ref b1), .val (.int (2 : Int32)), .unset] [(.ref b1)])) := by
    intro t k
    refine go3 t ?_
    refine o_iload X2 hx hby d5_14 16 rfl rfl ?_
    refine o_iloadN X2 hx hby d5_16 17 rfl rfl ?_
    refine o_icmpY X2 hx hby d5_17 57 rfl (teq (show (2 : Int32) = (2 : Int32) by decide)).1 ?_
    refine o_aloadN X2 hx hby d5_57 58 rfl rfl rfl ?_
    exact k
  rw [hA0] at go4
  obtain ⟨fs, hr, hrun, hended, hW, hsame⟩ := X2.leave (v := some (.ref b1)) (fun h => by rw [Bd.returns] at h; cases h)
  refine ⟨_, _, go4 _ (o_retR X2 hx Bd.returns rfl (hb hby d5_58) rfl rfl hr), hrun, hended, _, _, rfl, ?_, ⟨_, rfl⟩, hW, hsame.mono (by decide) (by decide)⟩
  show Q52 Z a0 ka x0 x1 h0 n0 _ T2.heap _
  exact ⟨k1, b1, rfl, N2, K2, sz_b1, f4, trivial⟩
theorem ef_32 (m : MethodId) (x0 : Addr) (x1 : Addr) : entryFrame m #[(.ref x0), (.ref x1), (.int (0 : Int32)), (.int (2 : Int32)), .null] 6 = mkF m 0 #[.val (.ref x0), .val (.ref x1), .val (.int (0 : Int32)), .val (.int (2 : Int32)), .val .null, .unset] [] := by first | (simp [entryFrame, mkF, argsToLocals, Value.category]; done) | rfl
def Q32 (Z : State) (a0 : Addr) (a1 : Addr) (ka : ClassId) (cs : Int32) (x0 : Int32) (x1 : Int32) (h0 : Heap) (n0 : Nat) (v : Option Value) (h : Heap) (L : List Loc) : Prop := ∃ d : Addr, ∃ kd : ClassId, v = none ∧ Fr n0 L ∧ Keep h0 h [a0] ∧ Fld Z h a0 "java/lang/String" "value" "[B" (.ref d) ∧ Fld Z h a0 "java/lang/String" "coder" "B" (.int (0 : Int32)) ∧ Arv Z h d kd .byte (2 : Int32) [(.int (nar .byte (x0.toInt8.toInt32))), (.int (nar .byte (x1.toInt8.toInt32)))] (.int (0 : Int32)) ∧ True
set_option maxRecDepth 65536 in
set_option maxHeartbeats 40000000 in
theorem rm32 (l : Launch) (Z : State) (aw : Array Value) (hw : ∀ d ∈ tables_1, d.before aw Z = true) (ws : List Jvm.Cond) (a0 : Addr) (a1 : Addr) (ka : ClassId) (cs : Int32) (x0 : Int32) (x1 : Int32) (h0 : Heap) (n0 : Nat) (Z0 : n0 ≤ h0.size) (r0 : Exa Z h0 a0 "java/lang/String") (r1 : n0 ≤ a0) (r2 : Fld Z h0 a0 "java/lang/String" "value" "[B" .null) (r3 : Fld Z h0 a0 "java/lang/String" "coder" "B" (.int (0 : Int32))) (r4 : Arv Z h0 a1 ka .char (2 : Int32) [(.int x0), (.int x1)] (.int (0 : Int32))) (r5 : a0 ≠ a1) (r6 : Sta Z Z.heap "java/lang/String" "COMPACT_STRINGS" "Z" (.int cs)) (r7 : Old Z n0 h0) (hcs : (¬ (cs = 0))) (hl0 : (¬ (255 : Int32) < x0)) (hl1 : (¬ (255 : Int32) < x1)) :
    MetFree l (⟨"java/lang/String", "<init>", "([CIILjava/lang/Void;)V"⟩ : MethodName) (head1 (Jvm.Cond.code (⟨"java/lang/String", "<init>", "([CIILjava/lang/Void;)V"⟩ : MethodName) jdk_42_method_149_code 6 none :: ws) ({ frames := 2, cells := 1, slots := 2, locals := 35 } : Room)) (fun a U => a = #[(.ref a0), (.ref a1), (.int (0 : Int32)), (.int (2 : Int32)), .null] ∧ Z.Warmed39 U.vm ∧ U.heap = h0) (fun _ _ _ _ _ => True) (fun _ U o U' => ∃ v L, o = .returned v ∧ Q32 Z a0 a1 ka cs x0 x1 h0 n0 v U'.heap L ∧ FrameEnd U o U' L ({ frames := 2, cells := 1, slots := 2, locals := 35 } : Room).cells ({ frames := 2, cells := 1, slots := 2, locals := 35 } : Room).slots) := by
  refine MetFree.of_bodySF (plainFor_of_name pn_3) hisR ?_
  intro p e s m args below meth c s₁ Bd hml0 hP hK
  obtain ⟨rfl, hZ, hh⟩ := hP
  have hx := Bd.exec
  have hby := Bd.bytes
  have hml : c.maxLocals = 6 := hml0
  have hown : s.vm.findClass "java/lang/String" = some m.cls := findClass_of_methodNamed Bd.named
  have hnm := (name_of_methodNamed Bd.named Bd.method).1
  have X0 : Stand p l e ({ frames := 2, cells := 1, slots := 2, locals := 35 } : Room) s m #[(.ref a0), (.ref a1), (.int (0 : Int32)), (.int (2 : Int32)), .null] below meth c s₁ [] 0 0 := Stand.of_body Bd
  have e0 : s₁.heap = h0 := by rw [← hh, Bd.state]; rfl
  have N0 := Fr.nil n0
  obtain ⟨A0, hA0⟩ : ∃ A0, A0 = s₁.setTop (entryFrame m #[(.ref a0), (.ref a1), (.int (0 : Int32)), (.int (2 : Int32)), .null] 6) := ⟨_, rfl⟩
  have go0 : Go p e below A0 (s₁.setTop (mkF m 0 #[.val (.ref a0), .val (.ref a1), .val (.int (0 : Int32)), .val (.int (2 : Int32)), .val .null, .unset] [])) := fun t k => by rw [hA0]; exact castTop (ef_32 m a0 a1) k
  obtain ⟨T1, X1, e1, st1⟩ := initO X0 hx hZ hown (hw _ (List.mem_of_getElem? (i := 16) rfl)) (hw _ (List.mem_of_getElem? (i := 17) rfl)) (hw _ (List.mem_of_getElem? (i := 18) rfl)) e0 (g := (mkF m 1 #[.val (.ref a0), .val (.ref a1), .val (.int (0 : Int32)), .val (.int (2 : Int32)), .val .null, .unset] [(.ref a0)])) rfl (by rw [hml]; rfl) rfl (hb hby d3_1) (by decide) (W := 0) (by show 2 * 0 + _ ≤ _; exact Nat.le_of_eq rfl) (by decide)
  obtain ⟨T2, X2, e2, st2⟩ := getS2 X1 hx hZ hown (host := "") (Or.inl (hw _ (List.mem_of_getElem? (i := 19) rfl))) Via.refl e1 (r6.ext r7.2) (g := (mkF m 27 #[.val (.ref a0), .val (.ref a1), .val (.int (0 : Int32)), .val (.int (2 : Int32)), .val .null, .unset] [])) rfl (hb hby d3_27)
  have go1 : Go p e below A0 (T2.setTop (mkF m 36 #[.val (.ref a0), .val (.ref a1), .val (.int (0 : Int32)), .val (.int (2 : Int32)), .val .null, .unset] [(.int (2 : Int32)), (.int (0 : Int32)), (.ref a1)])) := by
    intro t k
    refine go0 t ?_
    refine o_aloadN X0 hx hby d3_0 1 rfl rfl rfl ?_
    refine st1 _ ?_
    refine o_iloadN X1 hx hby d3_4 5 rfl rfl ?_
    refine o_ifY X1 hx hby d3_5 27 rfl (feq (show ¬ ((2 : Int32) = (0 : Int32)) by decide)).2 ?_
    refine st2 _ ?_
    show Steps p.tables e below (T2.setTop (mkF m 30 #[.val (.ref a0), .val (.ref a1), .val (.int (0 : Int32)), .val (.int (2 : Int32)), .val .null, .unset] [(.int cs)])) _
    refine o_ifN X2 hx hby d3_30 33 rfl (feq (hcs)).1 ?_
    refine o_aloadN X2 hx hby d3_33 34 rfl rfl rfl ?_
    refine o_iloadN X2 hx hby d3_34 35 rfl rfl ?_
    refine o_iloadN X2 hx hby d3_35 36 rfl rfl ?_
    exact k
  obtain ⟨_, _, ⟨T3, L3, k3, n3⟩, -, X3, ⟨Lc3, hQ3, l3, y3, z3⟩, st3⟩ := Jvm.LawKit.callS X2 hx (y := (⟨"java/lang/StringUTF16", "compress", "([CII)[B"⟩ : MethodName)) hown (mvT hZ (hw _ (List.mem_of_getElem? (i := 20) rfl))) (mvT hZ (hw _ (List.mem_of_getElem? (i := 21) rfl))) (mvT hZ (hw _ (List.mem_of_getElem? (i := 22) rfl))) (mvT hZ (hw _ (List.mem_of_getElem? (i := 23) rfl))) (by decide) (backOf (W := 0) (rm52 l Z aw hw [] a1 ka x0 x1 h0 n0 Z0 (r4) (hl0) (hl1)) hZ (hw _ (List.mem_of_getElem? (i := 23) rfl)) (hw _ (List.mem_of_getElem? (i := 22) rfl)) (by decide) (by decide)) (g := (mkF m 36 #[.val (.ref a0), .val (.ref a1), .val (.int (0 : Int32)), .val (.int (2 : Int32)), .val .null, .unset] [(.int (2 : Int32)), (.int (0 : Int32)), (.ref a1)])) rfl (by rw [hml]; rfl) (argsL := [(.ref a1), (.int (0 : Int32)), (.int (2 : Int32))]) (rest := []) (lenOf pd_3 rfl) rfl (by show 2 * 0 + _ ≤ _; exact Nat.le_of_eq rfl) (hb hby d3_36) (fun _ _ => ⟨rfl, e2, (by decide : 0 + 1 ≤ _), (by decide : 0 + 2 ≤ _)⟩)
  dsimp only [Pt.U, Pt.locs, Pt.cells, Pt.slots] at X3 l3 y3 z3 st3 hQ3
  subst l3 y3 z3
  obtain ⟨r3_kb, b3_b, rfl, N3q, K3q, sz_b3_bq, qf3_0, -⟩ := hQ3
  have ne_a0_b3_b : a0 ≠ b3_b := Nat.ne_of_lt (Nat.lt_of_lt_of_le r0.lt sz_b3_bq)
  have ne_a1_b3_b : a1 ≠ b3_b := Nat.ne_of_lt (Nat.lt_of_lt_of_le r4.lt sz_b3_bq)
  have g_b3_b : n0 ≤ b3_b := Nat.le_trans Z0 sz_b3_bq
  have sz_b3_b : h0.size ≤ b3_b := Nat.le_trans (Keep.refl h0 [a0]).1 sz_b3_bq
  have f1 : Exa Z T3.heap a0 "java/lang/String" := r0.keep K3q
  have f2 : Fld Z T3.heap a0 "java/lang/String" "value" "[B" .null := r2.keep K3q nin0
  have f3 : Fld Z T3.heap a0 "java/lang/String" "coder" "B" (.int (0 : Int32)) := r3.keep K3q nin0
  have f4 : Arv Z T3.heap a1 ka .char (2 : Int32) [(.int x0), (.int x1)] (.int (0 : Int32)) := r4.keep K3q nin0
  have f5 : Old Z n0 T3.heap := r7.keep K3q all0
  have Zp3 : n0 ≤ T3.heap.size := Nat.le_trans Z0 K3q.1
  have K3 : Keep h0 T3.heap [a0] := Keep.trans (Keep.refl h0 [a0]) K3q all0
  have f6 : Arv Z T3.heap b3_b r3_kb .byte (2 : Int32) [(.int (nar .byte (x0.toInt8.toInt32))), (.int (nar .byte (x1.toInt8.toInt32)))] (.int (0 : Int32)) := qf3_0
  have N3 := Fr.app N0 N3q
  have go2 : Go p e below A0 (T3.setTop (mkF m 39 #[.val (.ref a0), .val (.ref a1), .val (.int (0 : Int32)), .val (.int (2 : Int32)), .val .null, .unset] [(.ref b3_b)])) := by
    intro t k
    refine go1 t ?_
    refine st3 _ ?_
    show Steps p.tables e below (T3.setTop (mkF m 39 #[.val (.ref a0), .val (.ref a1), .val (.int (0 : Int32)), .val (.int (2 : Int32)), .val .null, .unset] [(.ref b3_b)])) _
    exact k
  have go3 : Go p e below A0 (T3.setTop (mkF m 45 #[.val (.ref a0), .val (.ref a1), .val (.int (0 : Int32)), .val (.int (2 : Int32)), .val .null, .val (.ref b3_b)] [(.int (2 : Int32)), (.ref b3_b), (.ref a0)])) := by
    intro t k
    refine go2 t ?_
    refine o_astore X3 hx hby d3_39 41 rfl rfl (l' := #[.val (.ref a0), .val (.ref a1), .val (.int (0 : Int32)), .val (.int (2 : Int32)), .val .null, .val (.ref b3_b)]) rfl ?_
    refine o_aloadN X3 hx hby d3_41 42 rfl rfl rfl ?_
    refine o_aload X3 hx hby d3_42 44 rfl rfl rfl ?_
    refine o_iloadN X3 hx hby d3_44 45 rfl rfl ?_
    exact k
  obtain ⟨_, _, ⟨T4, L4, k4, n4⟩, -, X4, ⟨Lc4, hQ4, l4, y4, z4⟩, st4⟩ := Jvm.LawKit.callS X3 hx (y := (⟨"java/lang/StringUTF16", "coderFromArrayLen", "([BI)B"⟩ : MethodName)) hown (mvT hZ (hw _ (List.mem_of_getElem? (i := 28) rfl))) (mvT hZ (hw _ (List.mem_of_getElem? (i := 29) rfl))) (mvT hZ (hw _ (List.mem_of_getElem? (i := 22) rfl))) (mvT hZ (hw _ (List.mem_of_getElem? (i := 30) rfl))) (by decide) (backOf (W := 1) (rm72 l Z aw hw [] b3_b r3_kb ((nar .byte (x0.toInt8.toInt32))) ((nar .byte (x1.toInt8.toInt32))) T3.heap n0 Zp3 (f6)) hZ (hw _ (List.mem_of_getElem? (i := 30) rfl)) (hw _ (List.mem_of_getElem? (i := 22) rfl)) (by decide) (by decide)) (g := (mkF m 45 #[.val (.ref a0), .val (.ref a1), .val (.int (0 : Int32)), .val (.int (2 : Int32)), .val .null, .val (.ref b3_b)] [(.int (2 : Int32)), (.ref b3_b), (.ref a0)])) rfl (by rw [hml]; rfl) (argsL := [(.ref b3_b), (.int (2 : Int32))]) (rest := [(.ref a0)]) (lenOf pd_4 rfl) rfl (by show 2 * 0 + _ ≤ _; exact Nat.le_of_eq rfl) (hb hby d3_45) (fun _ _ => ⟨rfl, rfl, (by decide : 1 + 0 ≤ _), (by decide : 2 + 0 ≤ _)⟩)
  dsimp only [Pt.U, Pt.locs, Pt.cells, Pt.slots] at X4 l4 y4 z4 st4 hQ4
  subst l4 y4 z4
  obtain ⟨rfl, N4q, e4⟩ := hQ4
  have N4 := Fr.app N3 N4q
  have go4 : Go p e below A0 (T4.setTop (mkF m 48 #[.val (.ref a0), .val (.ref a1), .val (.int (0 : Int32)), .val (.int (2 : Int32)), .val .null, .val (.ref b3_b)] [(.int (0 : Int32)), (.ref a0)])) := by
    intro t k
    refine go3 t ?_
    refine st4 _ ?_
    show Steps p.tables e below (T4.setTop (mkF m 48 #[.val (.ref a0), .val (.ref a1), .val (.int (0 : Int32)), .val (.int (2 : Int32)), .val .null, .val (.ref b3_b)] [(.int (0 : Int32)), (.ref a0)])) _
    exact k
  obtain ⟨T5, h5, X5, e5, W5, st5⟩ := putF X4 hx hZ hown (host := "") (Or.inl (hw _ (List.mem_of_getElem? (i := 31) rfl))) Via.refl e4 f3 f1 (Or.inr ⟨(hw _ (List.mem_of_getElem? (i := 32) rfl)), rfl, hnm⟩) (hw _ (List.mem_of_getElem? (i := 7) rfl)) (ty := .byte) (by decide) (by decide) (by decide) (g := (mkF m 48 #[.val (.ref a0), .val (.ref a1), .val (.int (0 : Int32)), .val (.int (2 : Int32)), .val .null, .val (.ref b3_b)] [(.int (0 : Int32)), (.ref a0)])) rfl rfl (hb hby d3_48)
  have f7 : Exa Z h5 a0 "java/lang/String" := f1.wr W5
  have f8 : Fld Z h5 a0 "java/lang/String" "value" "[B" .null := f2.other W5 (Or.inr (slot_ne (Or.inr (hw _ (List.mem_of_getElem? (i := 34) rfl))) (Or.inr (hw _ (List.mem_of_getElem? (i := 32) rfl))) (by decide) (t := (.array .byte)) (t' := .byte) (by decide) (by decide)))
  have f9 : Arv Z h5 a1 ka .char (2 : Int32) [(.int x0), (.int x1)] (.int (0 : Int32)) := f4.other W5 (Ne.symm r5)
  have f10 : Old Z n0 h5 := f5.wr W5 r1
  have f11 : Arv Z h5 b3_b r3_kb .byte (2 : Int32) [(.int (nar .byte (x0.toInt8.toInt32))), (.int (nar .byte (x1.toInt8.toInt32)))] (.int (0 : Int32)) := f6.other W5 (Ne.symm ne_a0_b3_b)
  have Zp5 : n0 ≤ h5.size := Nat.le_trans Zp3 (Keep.of_wr W5).1
  have K5 : Keep h0 h5 [a0] := K3.wr W5 (Or.inl (List.mem_of_getElem? (i := 0) rfl))
  have N5 := Fr.snoc X5 N4 r1
  have f12 : Fld Z h5 a0 "java/lang/String" "coder" "B" (.int (0 : Int32)) := f3.same W5
  have go5 : Go p e below A0 (T5.setTop (mkF m 54 #[.val (.ref a0), .val (.ref a1), .val (.int (0 : Int32)), .val (.int (2 : Int32)), .val .null, .val (.ref b3_b)] [(.ref b3_b), (.ref a0)])) := by
    intro t k
    refine go4 t ?_
    refine st5 _ ?_
    show Steps p.tables e below (T5.setTop (mkF m 51 #[.val (.ref a0), .val (.ref a1), .val (.int (0 : Int32)), .val (.int (2 : Int32)), .val .null, .val (.ref b3_b)] [])) _
    refine o_aloadN X5 hx hby d3_51 52 rfl rfl rfl ?_
    refine o_aload X5 hx hby d3_52 54 rfl rfl rfl ?_
    exact k
  obtain ⟨T6, h6, X6, e6, W6, st6⟩ := putF X5 hx hZ hown (host := "") (Or.inl (hw _ (List.mem_of_getElem? (i := 33) rfl))) Via.refl e5 f8 f7 (Or.inr ⟨(hw _ (List.mem_of_getElem? (i := 34) rfl)), rfl, hnm⟩) (hw _ (List.mem_of_getElem? (i := 7) rfl)) (ty := (.array .byte)) (by decide) rfl rfl (g := (mkF m 54 #[.val (.ref a0), .val (.ref a1), .val (.int (0 : Int32)), .val (.int (2 : Int32)), .val .null, .val (.ref b3_b)] [(.ref b3_b), (.ref a0)])) rfl rfl (hb hby d3_54)
  have f13 : Exa Z h6 a0 "java/lang/String" := f7.wr W6
  have f14 : Arv Z h6 a1 ka .char (2 : Int32) [(.int x0), (.int x1)] (.int (0 : Int32)) := f9.other W6 (Ne.symm r5)
  have f15 : Old Z n0 h6 := f10.wr W6 r1
  have f16 : Arv Z h6 b3_b r3_kb .byte (2 : Int32) [(.int (nar .byte (x0.toInt8.toInt32))), (.int (nar .byte (x1.toInt8.toInt32)))] (.int (0 : Int32)) := f11.other W6 (Ne.symm ne_a0_b3_b)
  have f17 : Fld Z h6 a0 "java/lang/String" "coder" "B" (.int (0 : Int32)) := f12.other W6 (Or.inr (slot_ne (Or.inr (hw _ (List.mem_of_getElem? (i := 32) rfl))) (Or.inr (hw _ (List.mem_of_getElem? (i := 34) rfl))) (by decide) (t := .byte) (t' := (.array .byte)) (by decide) (by decide)))
  have Zp6 : n0 ≤ h6.size := Nat.le_trans Zp5 (Keep.of_wr W6).1
  have K6 : Keep h0 h6 [a0] := K5.wr W6 (Or.inl (List.mem_of_getElem? (i := 0) rfl))
  have N6 := Fr.snoc X6 N5 r1
  have f18 : Fld Z h6 a0 "java/lang/String" "value" "[B" (.ref b3_b) := f8.same W6
  have go6 : Go p e below A0 (T6.setTop (mkF m 57 #[.val (.ref a0), .val (.ref a1), .val (.int (0 : Int32)), .val (.int (2 : Int32)), .val .null, .val (.ref b3_b)] [])) := by
    intro t k
    refine go5 t ?_
    refine st6 _ ?_
    show Steps p.tables e below (T6.setTop (mkF m 57 #[.val (.ref a0), .val (.ref a1), .val (.int (0 : Int32)), .val (.int (2 : Int32)), .val .null, .val (.ref b3_b)] [])) _
    exact k
  rw [hA0] at go6
  obtain ⟨fs, hr, hrun, hended, hW, hsame⟩ := X6.leave (v := none) (fun _ => rfl)
  refine ⟨_, _, go6 _ (X6.returnOut hx Bd.returns (hb hby d3_57) hr), hrun, hended, _, _, rfl, ?_, ⟨_, rfl⟩, hW, hsame.mono (by decide) (by decide)⟩
  show Q32 Z a0 a1 ka cs x0 x1 h0 n0 _ T6.heap _
  rw [e6]
  exact ⟨b3_b, r3_kb, rfl, N6, K6, f18, f17, f16, trivial⟩
theorem ef_22 (m : MethodId) (x0 : Addr) (x1 : Addr) : entryFrame m #[(.ref x0), (.ref x1)] 2 = mkF m 0 #[.val (.ref x0), .val (.ref x1)] [] := by first | (simp [entryFrame, mkF, argsToLocals, Value.category]; done) | rfl
def Q22 (Z : State) (a0 : Addr) (a1 : Addr) (ka : ClassId) (cs : Int32) (x0 : Int32) (x1 : Int32) (h0 : Heap) (n0 : Nat) (v : Option Value) (h : Heap) (L : List Loc) : Prop := ∃ d : Addr, ∃ kd : ClassId, v = none ∧ Fr n0 L ∧ Keep h0 h [a0] ∧ Fld Z h a0 "java/lang/String" "value" "[B" (.ref d) ∧ Fld Z h a0 "java/lang/String" "coder" "B" (.int (0 : Int32)) ∧ Arv Z h d kd .byte (2 : Int32) [(.int (nar .byte (x0.toInt8.toInt32))), (.int (nar .byte (x1.toInt8.toInt32)))] (.int (0 : Int32)) ∧ True
set_option maxRecDepth 65536 in
set_option maxHeartbeats 40000000 in
theorem rm22 (l : Launch) (Z : State) (aw : Array Value) (hw : ∀ d ∈ tables_1, d.before aw Z = true) (ws : List Jvm.Cond) (a0 : Addr) (a1 : Addr) (ka : ClassId) (cs : Int32) (x0 : Int32) (x1 : Int32) (h0 : Heap) (n0 : Nat) (Z0 : n0 ≤ h0.size) (r0 : Exa Z h0 a0 "java/lang/String") (r1 : n0 ≤ a0) (r2 : Fld Z h0 a0 "java/lang/String" "value" "[B" .null) (r3 : Fld Z h0 a0 "java/lang/String" "coder" "B" (.int (0 : Int32))) (r4 : Arv Z h0 a1 ka .char (2 : Int32) [(.int x0), (.int x1)] (.int (0 : Int32))) (r5 : a0 ≠ a1) (r6 : Sta Z Z.heap "java/lang/String" "COMPACT_STRINGS" "Z" (.int cs)) (r7 : Old Z n0 h0) (hcs : (¬ (cs = 0))) (hl0 : (¬ (255 : Int32) < x0)) (hl1 : (¬ (255 : Int32) < x1)) :
    MetFree l (⟨"java/lang/String", "<init>", "([C)V"⟩ : MethodName) (head1 (Jvm.Cond.code (⟨"java/lang/String", "<init>", "([C)V"⟩ : MethodName) jdk_42_method_3_code 2 none :: ws) ({ frames := 3, cells := 1, slots := 2, locals := 52 } : Room)) (fun a U => a = #[(.ref a0), (.ref a1)] ∧ Z.Warmed39 U.vm ∧ U.heap = h0) (fun _ _ _ _ _ => True) (fun _ U o U' => ∃ v L, o = .returned v ∧ Q22 Z a0 a1 ka cs x0 x1 h0 n0 v U'.heap L ∧ FrameEnd U o U' L ({ frames := 3, cells := 1, slots := 2, locals := 52 } : Room).cells ({ frames := 3, cells := 1, slots := 2, locals := 52 } : Room).slots) := by
  refine MetFree.of_bodySF (plainFor_of_name pn_3) hisR ?_
  intro p e s m args below meth c s₁ Bd hml0 hP hK
  obtain ⟨rfl, hZ, hh⟩ := hP
  have hx := Bd.exec
  have hby := Bd.bytes
  have hml : c.maxLocals = 2 := hml0
  have hown : s.vm.findClass "java/lang/String" = some m.cls := findClass_of_methodNamed Bd.named
  have hnm := (name_of_methodNamed Bd.named Bd.method).1
  have X0 : Stand p l e ({ frames := 3, cells := 1, slots := 2, locals := 52 } : Room) s m #[(.ref a0), (.ref a1)] below meth c s₁ [] 0 0 := Stand.of_body Bd
  have e0 : s₁.heap = h0 := by rw [← hh, Bd.state]; rfl
  have N0 := Fr.nil n0
  obtain ⟨A0, hA0⟩ : ∃ A0, A0 = s₁.setTop (entryFrame m #[(.ref a0), (.ref a1)] 2) := ⟨_, rfl⟩
  have go0 : Go p e below A0 (s₁.setTop (mkF m 0 #[.val (.ref a0), .val (.ref a1)] [])) := fun t k => by rw [hA0]; exact castTop (ef_22 m a0 a1) k
  obtain ⟨cl1, Ar1, q1, S1, M1, H1, G1⟩ := id r4
  have go1 : Go p e below A0 (s₁.setTop (mkF m 6 #[.val (.ref a0), .val (.ref a1)] [.null, (.int (2 : Int32)), (.int (0 : Int32)), (.ref a1), (.ref a0)])) := by
    intro t k
    refine go0 t ?_
    refine o_aloadN X0 hx hby d2_0 1 rfl rfl rfl ?_
    refine o_aloadN X0 hx hby d2_1 2 rfl rfl rfl ?_
    refine o_iconst X0 hx hby d2_2 3 rfl (v := (0 : Int32)) rfl ?_
    refine o_aloadN X0 hx hby d2_3 4 rfl rfl rfl ?_
    refine X0.arraylength hx (by rw [e0]; exact Ar1.1) (State.isArrayOf_alike hZ.alike Ar1.2.1) (g := (mkF m 4 #[.val (.ref a0), .val (.ref a1)] [(.ref a1), (.int (0 : Int32)), (.ref a1), (.ref a0)])) rfl rfl (hb hby d2_4) _ ?_
    rw [len_of S1 M1]
    show Steps p.tables e below (s₁.setTop (mkF m 5 #[.val (.ref a0), .val (.ref a1)] [(.int (2 : Int32)), (.int (0 : Int32)), (.ref a1), (.ref a0)])) _
    refine o_aconstNull X0 hx hby d2_5 6 rfl ?_
    exact k
  obtain ⟨_, _, ⟨T2, L2, k2, n2⟩, -, X2, ⟨Lc2, hQ2, l2, y2, z2⟩, st2⟩ := X0.specialBack hx (y := (⟨"java/lang/String", "<init>", "([CIILjava/lang/Void;)V"⟩ : MethodName)) rfl hown (mvT hZ (hw _ (List.mem_of_getElem? (i := 12) rfl))) (mvT hZ (hw _ (List.mem_of_getElem? (i := 13) rfl))) (mvT hZ (hw _ (List.mem_of_getElem? (i := 15) rfl))) (by decide) (backOf (W := 0) (rm32 l Z aw hw [] a0 a1 ka cs x0 x1 h0 n0 Z0 (r0) (r1) (r2) (r3) (r4) (r5) (r6) (r7) (hcs) (hl0) (hl1)) hZ (hw _ (List.mem_of_getElem? (i := 15) rfl)) (hw _ (List.mem_of_getElem? (i := 8) rfl)) (by decide) (by decide)) (g := (mkF m 6 #[.val (.ref a0), .val (.ref a1)] [.null, (.int (2 : Int32)), (.int (0 : Int32)), (.ref a1), (.ref a0)])) rfl (by rw [hml]; rfl) (Steps.refl _) (a := a0) (argsL := [(.ref a1), (.int (0 : Int32)), (.int (2 : Int32)), .null]) (rest := []) (lenOf pd_5 rfl) rfl (by show 2 * 0 + _ ≤ _; exact Nat.le_of_eq rfl) (hb hby d2_6) (fun _ _ => ⟨rfl, e0, (by decide : 0 + 1 ≤ _), (by decide : 0 + 2 ≤ _)⟩)
  dsimp only [Pt.U, Pt.locs, Pt.cells, Pt.slots] at X2 l2 y2 z2 st2 hQ2
  subst l2 y2 z2
  obtain ⟨r2_d, r2_kd, rfl, N2q, K2q, qf2_0, qf2_1, qf2_2, -⟩ := hQ2
  have f1 : Exa Z T2.heap a0 "java/lang/String" := r0.keep K2q
  have f2 : Arv Z T2.heap a1 ka .char (2 : Int32) [(.int x0), (.int x1)] (.int (0 : Int32)) := r4.keep K2q (ninS (Ne.symm r5) nin0)
  have f3 : Old Z n0 T2.heap := r7.keep K2q (allS r1 all0)
  have Zp2 : n0 ≤ T2.heap.size := Nat.le_trans Z0 K2q.1
  have K2 : Keep h0 T2.heap [a0] := Keep.trans (Keep.refl h0 [a0]) K2q (allS (P := fun x => x ∈ ([a0] : List Addr) ∨ h0.size ≤ x) (Or.inl (List.mem_of_getElem? (i := 0) rfl)) all0)
  have f4 : Fld Z T2.heap a0 "java/lang/String" "value" "[B" (.ref r2_d) := qf2_0
  have f5 : Fld Z T2.heap a0 "java/lang/String" "coder" "B" (.int (0 : Int32)) := qf2_1
  have f6 : Arv Z T2.heap r2_d r2_kd .byte (2 : Int32) [(.int (nar .byte (x0.toInt8.toInt32))), (.int (nar .byte (x1.toInt8.toInt32)))] (.int (0 : Int32)) := qf2_2
  have N2 := Fr.app N0 N2q
  have go2 : Go p e below A0 (T2.setTop (mkF m 9 #[.val (.ref a0), .val (.ref a1)] [])) := by
    intro t k
    refine go1 t ?_
    refine st2.trans ?_
    show Steps p.tables e below (T2.setTop (mkF m 9 #[.val (.ref a0), .val (.ref a1)] [])) _
    exact k
  rw [hA0] at go2
  obtain ⟨fs, hr, hrun, hended, hW, hsame⟩ := X2.leave (v := none) (fun _ => rfl)
  refine ⟨_, _, go2 _ (X2.returnOut hx Bd.returns (hb hby d2_9) hr), hrun, hended, _, _, rfl, ?_, ⟨_, rfl⟩, hW, hsame.mono (by decide) (by decide)⟩
  show Q22 Z a0 a1 ka cs x0 x1 h0 n0 _ T2.heap _
  exact ⟨r2_d, r2_kd, rfl, N2, K2, f4, f5, f6, trivial⟩
theorem ef_3e (m : MethodId) (x0 : Addr) (x1 : Addr) : entryFrame m #[(.ref x0), (.ref x1), (.int (0 : Int32)), (.int (0 : Int32)), .null] 6 = mkF m 0 #[.val (.ref x0), .val (.ref x1), .val (.int (0 : Int32)), .val (.int (0 : Int32)), .val .null, .unset] [] := by first | (simp [entryFrame, mkF, argsToLocals, Value.category]; done) | rfl
def Q3e (Z : State) (a0 : Addr) (a1 : Addr) (ka : ClassId) (h0 : Heap) (n0 : Nat) (v : Option Value) (h : Heap) (L : List Loc) : Prop := ∃ d : Addr, ∃ kd : ClassId, v = none ∧ Fr n0 L ∧ Keep h0 h [a0] ∧ Fld Z h a0 "java/lang/String" "value" "[B" (.ref d) ∧ Fld Z h a0 "java/lang/String" "coder" "B" (.int (0 : Int32)) ∧ Arv Z h d kd .byte (0 : Int32) [] (.int (0 : Int32)) ∧ True
set_option maxRecDepth 65536 in
set_option maxHeartbeats 40000000 in
theorem rm3e (l : Launch) (Z : State) (aw : Array Value) (hw : ∀ d ∈ tables_1, d.before aw Z = true) (ws : List Jvm.Cond) (a0 : Addr) (a1 : Addr) (ka : ClassId) (h0 : Heap) (n0 : Nat) (Z0 : n0 ≤ h0.size) (r0 : Exa Z h0 a0 "java/lang/String") (r1 : n0 ≤ a0) (r2 : Fld Z h0 a0 "java/lang/String" "value" "[B" .null) (r3 : Fld Z h0 a0 "java/lang/String" "coder" "B" (.int (0 : Int32))) (r4 : Arv Z h0 a1 ka .char (0 : Int32) [] (.int (0 : Int32))) (r5 : a0 ≠ a1) :
    MetFree l (⟨"java/lang/String", "<init>", "([CIILjava/lang/Void;)V"⟩ : MethodName) (head1 (Jvm.Cond.code (⟨"java/lang/String", "<init>", "([CIILjava/lang/Void;)V"⟩ : MethodName) jdk_42_method_149_code 6 none :: ws) ({ frames := 1, cells := 4, slots := 8, locals := 12 } : Room)) (fun a U => a = #[(.ref a0), (.ref a1), (.int (0 : Int32)), (.int (0 : Int32)), .null] ∧ Z.Warmed39 U.vm ∧ U.heap = h0 ∧ CHv Z own_EL U.vm h0) (fun _ _ _ _ _ => True) (fun _ U o U' => ∃ v L, o = .returned v ∧ Q3e Z a0 a1 ka h0 n0 v U'.heap L ∧ CHr Z own_EL U.vm U.heap U'.vm U'.heap ∧ ReturnedEndW U o U' L ({ frames := 1, cells := 4, slots := 8, locals := 12 } : Room).cells ({ frames := 1, cells := 4, slots := 8, locals := 12 } : Room).slots) := by
  refine MetFree.of_bodySF (plainFor_of_name pn_3) hisR ?_
  intro p e s m args below meth c s₁ Bd hml0 hP hK
  obtain ⟨rfl, hZ, hh, hC0⟩ := hP
  have hx := Bd.exec
  have hby := Bd.bytes
  have hml : c.maxLocals = 6 := hml0
  have hown : s.vm.findClass "java/lang/String" = some m.cls := findClass_of_methodNamed Bd.named
  have hnm := (name_of_methodNamed Bd.named Bd.method).1
  have X0 : Stand p l e ({ frames := 1, cells := 4, slots := 8, locals := 12 } : Room) s m #[(.ref a0), (.ref a1), (.int (0 : Int32)), (.int (0 : Int32)), .null] below meth c s₁ [] 0 0 := Stand.of_body Bd
  have e0 : s₁.heap = h0 := by rw [← hh, Bd.state]; rfl
  have N0 := Fr.nil n0
  obtain ⟨A0, hA0⟩ : ∃ A0, A0 = s₁.setTop (entryFrame m #[(.ref a0), (.ref a1), (.int (0 : Int32)), (.int (0 : Int32)), .null] 6) := ⟨_, rfl⟩
  have go0 : Go p e below A0 (s₁.setTop (mkF m 0 #[.val (.ref a0), .val (.ref a1), .val (.int (0 : Int32)), .val (.int (0 : Int32)), .val .null, .unset] [])) := fun t k => by rw [hA0]; exact castTop (ef_3e m a0 a1) k
  have hEW : EW Z aw own_EL := own_ew hw
  have R0H : CHr Z own_EL s.vm h0 s.vm h0 := CHr.refl hC0
  have sf0_a0 : Safe Z own_EL s.vm h0 a0 := own_safe hZ.alike r0 r2
  obtain ⟨T1, X1, e1, st1⟩ := initO X0 hx hZ hown (hw _ (List.mem_of_getElem? (i := 16) rfl)) (hw _ (List.mem_of_getElem? (i := 17) rfl)) (hw _ (List.mem_of_getElem? (i := 18) rfl)) e0 (g := (mkF m 1 #[.val (.ref a0), .val (.ref a1), .val (.int (0 : Int32)), .val (.int (0 : Int32)), .val .null, .unset] [(.ref a0)])) rfl (by rw [hml]; rfl) rfl (hb hby d3_1) (by decide) (W := 0) (by show 2 * 0 + _ ≤ _; exact Nat.le_of_eq rfl) (by decide)
  have hwS2 : ∀ d ∈ Bundle.stringAtoms, d.before aw Z = true := fun d hd => hw d ((by decide +kernel : ∀ d ∈ Bundle.stringAtoms, d ∈ tables_1) d hd)
  obtain ⟨a2, T2, h2, k2, b2, kb2, X2, e2, E2, S2, sk2, hZ, hown, FE2, FC2, FV2, FA2, -, -, ch2, -, SF2, st2⟩ := ldcCH (s := s) (vm0 := s.vm) X1 hx hZ hown (hw _ (List.mem_of_getElem? (i := 53) rfl)) hwS2 e1 ((State.WarmedH.refl s).since 0) (Nat.zero_le _) hEW (by decide) R0H.1 (vs := []) (z := (0 : Int32)) ⟨by decide, by first | rfl | decide⟩ (by decide) (by decide) (g := (mkF m 9 #[.val (.ref a0), .val (.ref a1), .val (.int (0 : Int32)), .val (.int (0 : Int32)), .val .null, .unset] [(.ref a0)])) rfl (hb hby d3_9) (n := 0) (by decide) (by decide) (by decide) (by decide)
  have st2H : CHr Z own_EL s.vm h0 T2.vm h2 := ch2
  have R2H : CHr Z own_EL s.vm h0 T2.vm h2 := CHr.trans R0H st2H
  have sf2_a0 : Safe Z own_EL T2.vm h2 a0 := CHr.safe st2H r0.lt sf0_a0
  have f1 : Exa Z h2 a0 "java/lang/String" := r0.ext E2
  have f2 : Fld Z h2 a0 "java/lang/String" "value" "[B" .null := r2.ext E2
  have f3 : Fld Z h2 a0 "java/lang/String" "coder" "B" (.int (0 : Int32)) := r3.ext E2
  have f4 : Arv Z h2 a1 ka .char (0 : Int32) [] (.int (0 : Int32)) := r4.ext E2
  have Zp2 : n0 ≤ h2.size := Nat.le_trans Z0 E2.1
  have K2 : Keep h0 h2 [a0] := (Keep.refl h0 [a0]).ext E2
  have ne_a0_a2 := (SF2 _ sf2_a0).1
  have ne_a0_b2 := (SF2 _ sf2_a0).2
  have f5 : Exa Z h2 a2 "java/lang/String" := FE2
  have f6 : Fld Z h2 a2 "java/lang/String" "coder" "B" (.int (0 : Int32)) := FC2
  have f7 : Fld Z h2 a2 "java/lang/String" "value" "[B" (.ref b2) := FV2
  have f8 : Arv Z h2 b2 kb2 .byte (0 : Int32) [] (.int (0 : Int32)) := FA2
  obtain ⟨T3, X3, e3, st3⟩ := getF X2 hx hZ hown (host := "") (Or.inl (hw _ (List.mem_of_getElem? (i := 33) rfl))) Via.refl e2 f7 (g := (mkF m 11 #[.val (.ref a0), .val (.ref a1), .val (.int (0 : Int32)), .val (.int (0 : Int32)), .val .null, .unset] [(.ref a2), (.ref a0)])) rfl rfl (hb hby d3_11)
  have go1 : Go p e below A0 (T3.setTop (mkF m 14 #[.val (.ref a0), .val (.ref a1), .val (.int (0 : Int32)), .val (.int (0 : Int32)), .val .null, .unset] [(.ref b2), (.ref a0)])) := by
    intro t k
    refine go0 t ?_
    refine o_aloadN X0 hx hby d3_0 1 rfl rfl rfl ?_
    refine st1 _ ?_
    refine o_iloadN X1 hx hby d3_4 5 rfl rfl ?_
    refine o_ifN X1 hx hby d3_5 8 rfl (teq (show (0 : Int32) = (0 : Int32) by decide)).2 ?_
    refine o_aloadN X1 hx hby d3_8 9 rfl rfl rfl ?_
    refine st2 _ ?_
    show Steps p.tables e below (T2.setTop (mkF m 11 #[.val (.ref a0), .val (.ref a1), .val (.int (0 : Int32)), .val (.int (0 : Int32)), .val .null, .unset] [(.ref a2), (.ref a0)])) _
    refine st3 _ ?_
    show Steps p.tables e below (T3.setTop (mkF m 14 #[.val (.ref a0), .val (.ref a1), .val (.int (0 : Int32)), .val (.int (0 : Int32)), .val .null, .unset] [(.ref b2), (.ref a0)])) _
    exact k
  obtain ⟨T4, h4, X4, e4, W4, st4⟩ := putF X3 hx hZ hown (host := "") (Or.inl (hw _ (List.mem_of_getElem? (i := 33) rfl))) Via.refl e3 f2 f1 (Or.inr ⟨(hw _ (List.mem_of_getElem? (i := 34) rfl)), rfl, hnm⟩) (hw _ (List.mem_of_getElem? (i := 7) rfl)) (ty := (.array .byte)) (by decide) rfl rfl (g := (mkF m 14 #[.val (.ref a0), .val (.ref a1), .val (.int (0 : Int32)), .val (.int (0 : Int32)), .val .null, .unset] [(.ref b2), (.ref a0)])) rfl rfl (hb hby d3_14)
  have st4H : CHr Z own_EL T2.vm h2 T2.vm h4 := CHr.wr W4 sf2_a0 R2H.1
  have R4H : CHr Z own_EL s.vm h0 T2.vm h4 := CHr.trans R2H st4H
  have sf4_a0 : Safe Z own_EL T2.vm h4 a0 := CHr.safe st4H f1.lt sf2_a0
  have f9 : Exa Z h4 a0 "java/lang/String" := f1.wr W4
  have f10 : Fld Z h4 a0 "java/lang/String" "coder" "B" (.int (0 : Int32)) := f3.other W4 (Or.inr (slot_ne (Or.inr (hw _ (List.mem_of_getElem? (i := 32) rfl))) (Or.inr (hw _ (List.mem_of_getElem? (i := 34) rfl))) (by decide) (t := .byte) (t' := (.array .byte)) (by decide) (by decide)))
  have f11 : Arv Z h4 a1 ka .char (0 : Int32) [] (.int (0 : Int32)) := f4.other W4 (Ne.symm r5)
  have f12 : Exa Z h4 a2 "java/lang/String" := f5.wr W4
  have f13 : Fld Z h4 a2 "java/lang/String" "coder" "B" (.int (0 : Int32)) := f6.other W4 (Or.inl (Ne.symm ne_a0_a2))
  have f14 : Fld Z h4 a2 "java/lang/String" "value" "[B" (.ref b2) := f7.other W4 (Or.inl (Ne.symm ne_a0_a2))
  have f15 : Arv Z h4 b2 kb2 .byte (0 : Int32) [] (.int (0 : Int32)) := f8.other W4 (Ne.symm ne_a0_b2)
  have Zp4 : n0 ≤ h4.size := Nat.le_trans Zp2 (Keep.of_wr W4).1
  have sk4 := Nat.le_trans sk2 (Keep.of_wr W4).1
  have K4 : Keep h0 h4 [a0] := K2.wr W4 (Or.inl (List.mem_of_getElem? (i := 0) rfl))
  have N4 := Fr.snoc X4 N0 r1
  have f16 : Fld Z h4 a0 "java/lang/String" "value" "[B" (.ref b2) := f2.same W4
  have hwS5 : ∀ d ∈ Bundle.stringAtoms, d.before aw Z = true := fun d hd => hw d ((by decide +kernel : ∀ d ∈ Bundle.stringAtoms, d ∈ tables_1) d hd)
  obtain ⟨a5, T5, h5, k5, b5, kb5, X5, e5, E5, S5, sk5, hZ, hown, FE5, FC5, FV5, FA5, -, -, ch5, -, SF5, st5⟩ := ldcCH (s := s) (vm0 := T2.vm) X4 hx hZ hown (hw _ (List.mem_of_getElem? (i := 53) rfl)) hwS5 e4 S2 sk4 hEW (by decide) R4H.1 (vs := []) (z := (0 : Int32)) ⟨by decide, by first | rfl | decide⟩ (by decide) (by decide) (g := (mkF m 18 #[.val (.ref a0), .val (.ref a1), .val (.int (0 : Int32)), .val (.int (0 : Int32)), .val .null, .unset] [(.ref a0)])) rfl (hb hby d3_18) (n := 0) (by decide) (by decide) (by decide) (by decide)
  have st5H : CHr Z own_EL T2.vm h4 T5.vm h5 := ch5
  have R5H : CHr Z own_EL s.vm h0 T5.vm h5 := CHr.trans R4H st5H
  have sf5_a0 : Safe Z own_EL T5.vm h5 a0 := CHr.safe st5H f9.lt sf4_a0
  have f17 : Exa Z h5 a0 "java/lang/String" := f9.ext E5
  have f18 : Fld Z h5 a0 "java/lang/String" "coder" "B" (.int (0 : Int32)) := f10.ext E5
  have f19 : Arv Z h5 a1 ka .char (0 : Int32) [] (.int (0 : Int32)) := f11.ext E5
  have f20 : Exa Z h5 a2 "java/lang/String" := f12.ext E5
  have f21 : Fld Z h5 a2 "java/lang/String" "coder" "B" (.int (0 : Int32)) := f13.ext E5
  have f22 : Fld Z h5 a2 "java/lang/String" "value" "[B" (.ref b2) := f14.ext E5
  have f23 : Arv Z h5 b2 kb2 .byte (0 : Int32) [] (.int (0 : Int32)) := f15.ext E5
  have f24 : Fld Z h5 a0 "java/lang/String" "value" "[B" (.ref b2) := f16.ext E5
  have Zp5 : n0 ≤ h5.size := Nat.le_trans Zp4 E5.1
  have K5 : Keep h0 h5 [a0] := K4.ext E5
  have ne_a0_a5 := (SF5 _ sf5_a0).1
  have ne_a0_b5 := (SF5 _ sf5_a0).2
  have f25 : Exa Z h5 a5 "java/lang/String" := FE5
  have f26 : Fld Z h5 a5 "java/lang/String" "coder" "B" (.int (0 : Int32)) := FC5
  have f27 : Fld Z h5 a5 "java/lang/String" "value" "[B" (.ref b5) := FV5
  have f28 : Arv Z h5 b5 kb5 .byte (0 : Int32) [] (.int (0 : Int32)) := FA5
  obtain ⟨T6, X6, e6, st6⟩ := getF X5 hx hZ hown (host := "") (Or.inl (hw _ (List.mem_of_getElem? (i := 31) rfl))) Via.refl e5 f26 (g := (mkF m 20 #[.val (.ref a0), .val (.ref a1), .val (.int (0 : Int32)), .val (.int (0 : Int32)), .val .null, .unset] [(.ref a5), (.ref a0)])) rfl rfl (hb hby d3_20)
  have go2 : Go p e below A0 (T6.setTop (mkF m 23 #[.val (.ref a0), .val (.ref a1), .val (.int (0 : Int32)), .val (.int (0 : Int32)), .val .null, .unset] [(.int (0 : Int32)), (.ref a0)])) := by
    intro t k
    refine go1 t ?_
    refine st4 _ ?_
    show Steps p.tables e below (T4.setTop (mkF m 17 #[.val (.ref a0), .val (.ref a1), .val (.int (0 : Int32)), .val (.int (0 : Int32)), .val .null, .unset] [])) _
    refine o_aloadN X4 hx hby d3_17 18 rfl rfl rfl ?_
    refine st5 _ ?_
    show Steps p.tables e below (T5.setTop (mkF m 20 #[.val (.ref a0), .val (.ref a1), .val (.int (0 : Int32)), .val (.int (0 : Int32)), .val .null, .unset] [(.ref a5), (.ref a0)])) _
    refine st6 _ ?_
    show Steps p.tables e below (T6.setTop (mkF m 23 #[.val (.ref a0), .val (.ref a1), .val (.int (0 : Int32)), .val (.int (0 : Int32)), .val .null, .unset] [(.int (0 : Int32)), (.ref a0)])) _
    exact k
  obtain ⟨T7, h7, X7, e7, W7, st7⟩ := putF X6 hx hZ hown (host := "") (Or.inl (hw _ (List.mem_of_getElem? (i := 31) rfl))) Via.refl e6 f18 f17 (Or.inr ⟨(hw _ (List.mem_of_getElem? (i := 32) rfl)), rfl, hnm⟩) (hw _ (List.mem_of_getElem? (i := 7) rfl)) (ty := .byte) (by decide) (by decide) (by decide) (g := (mkF m 23 #[.val (.ref a0), .val (.ref a1), .val (.int (0 : Int32)), .val (.int (0 : Int32)), .val .null, .unset] [(.int (0 : Int32)), (.ref a0)])) rfl rfl (hb hby d3_23)
  have st7H : CHr Z own_EL T5.vm h5 T5.vm h7 := CHr.wr W7 sf5_a0 R5H.1
  have R7H : CHr Z own_EL s.vm h0 T5.vm h7 := CHr.trans R5H st7H
  have sf7_a0 : Safe Z own_EL T5.vm h7 a0 := CHr.safe st7H f17.lt sf5_a0
  have f29 : Exa Z h7 a0 "java/lang/String" := f17.wr W7
  have f30 : Arv Z h7 a1 ka .char (0 : Int32) [] (.int (0 : Int32)) := f19.other W7 (Ne.symm r5)
  have f31 : Exa Z h7 a2 "java/lang/String" := f20.wr W7
  have f32 : Fld Z h7 a2 "java/lang/String" "coder" "B" (.int (0 : Int32)) := f21.other W7 (Or.inl (Ne.symm ne_a0_a2))
  have f33 : Fld Z h7 a2 "java/lang/String" "value" "[B" (.ref b2) := f22.other W7 (Or.inl (Ne.symm ne_a0_a2))
  have f34 : Arv Z h7 b2 kb2 .byte (0 : Int32) [] (.int (0 : Int32)) := f23.other W7 (Ne.symm ne_a0_b2)
  have f35 : Fld Z h7 a0 "java/lang/String" "value" "[B" (.ref b2) := f24.other W7 (Or.inr (slot_ne (Or.inr (hw _ (List.mem_of_getElem? (i := 34) rfl))) (Or.inr (hw _ (List.mem_of_getElem? (i := 32) rfl))) (by decide) (t := (.array .byte)) (t' := .byte) (by decide) (by decide)))
  have f36 : Exa Z h7 a5 "java/lang/String" := f25.wr W7
  have f37 : Fld Z h7 a5 "java/lang/String" "coder" "B" (.int (0 : Int32)) := f26.other W7 (Or.inl (Ne.symm ne_a0_a5))
  have f38 : Fld Z h7 a5 "java/lang/String" "value" "[B" (.ref b5) := f27.other W7 (Or.inl (Ne.symm ne_a0_a5))
  have f39 : Arv Z h7 b5 kb5 .byte (0 : Int32) [] (.int (0 : Int32)) := f28.other W7 (Ne.symm ne_a0_b5)
  have Zp7 : n0 ≤ h7.size := Nat.le_trans Zp5 (Keep.of_wr W7).1
  have sk7 := Nat.le_trans sk5 (Keep.of_wr W7).1
  have K7 : Keep h0 h7 [a0] := K5.wr W7 (Or.inl (List.mem_of_getElem? (i := 0) rfl))
  have N7 := Fr.snoc X7 N4 r1
  have f40 : Fld Z h7 a0 "java/lang/String" "coder" "B" (.int (0 : Int32)) := f18.same W7
  have go3 : Go p e below A0 (T7.setTop (mkF m 26 #[.val (.ref a0), .val (.ref a1), .val (.int (0 : Int32)), .val (.int (0 : Int32)), .val .null, .unset] [])) := by
    intro t k
    refine go2 t ?_
    refine st7 _ ?_
    show Steps p.tables e below (T7.setTop (mkF m 26 #[.val (.ref a0), .val (.ref a1), .val (.int (0 : Int32)), .val (.int (0 : Int32)), .val .null, .unset] [])) _
    exact k
  rw [hA0] at go3
  obtain ⟨fs, hr, hrun, hended, hRW⟩ := X7.leaveW (s := s) S5 (by rw [e7]; exact sk7) (v := none) (fun _ => rfl)
  have hCHend : CHr Z own_EL s.vm s.heap T7.vm T7.heap := by rw [hh, e7]; exact CHr.trans R7H (CHv.at (s := s) (vm0 := T5.vm) X7 hZ hEW R7H.1)
  refine ⟨_, _, go3 _ (X7.returnOut hx Bd.returns (hb hby d3_26) hr), hrun, hended, _, _, rfl, ?_, hCHend, hRW.1, hRW.2.1, hRW.2.2.1, hRW.2.2.2.mono (by decide) (by decide)⟩
  show Q3e Z a0 a1 ka h0 n0 _ T7.heap _
  rw [e7]
  exact ⟨b2, kb2, rfl, N7, K7, f35, f40, f34, trivial⟩
theorem ef_2e (m : MethodId) (x0 : Addr) (x1 : Addr) : entryFrame m #[(.ref x0), (.ref x1)] 2 = mkF m 0 #[.val (.ref x0), .val (.ref x1)] [] := by first | (simp [entryFrame, mkF, argsToLocals, Value.category]; done) | rfl
def Q2e (Z : State) (a0 : Addr) (a1 : Addr) (ka : ClassId) (h0 : Heap) (n0 : Nat) (v : Option Value) (h : Heap) (L : List Loc) : Prop := ∃ d : Addr, ∃ kd : ClassId, v = none ∧ Fr n0 L ∧ Keep h0 h [a0] ∧ Fld Z h a0 "java/lang/String" "value" "[B" (.ref d) ∧ Fld Z h a0 "java/lang/String" "coder" "B" (.int (0 : Int32)) ∧ Arv Z h d kd .byte (0 : Int32) [] (.int (0 : Int32)) ∧ True
set_option maxRecDepth 65536 in
set_option maxHeartbeats 40000000 in
theorem rm2e (l : Launch) (Z : State) (aw : Array Value) (hw : ∀ d ∈ tables_1, d.before aw Z = true) (ws : List Jvm.Cond) (a0 : Addr) (a1 : Addr) (ka : ClassId) (h0 : Heap) (n0 : Nat) (Z0 : n0 ≤ h0.size) (r0 : Exa Z h0 a0 "java/lang/String") (r1 : n0 ≤ a0) (r2 : Fld Z h0 a0 "java/lang/String" "value" "[B" .null) (r3 : Fld Z h0 a0 "java/lang/String" "coder" "B" (.int (0 : Int32))) (r4 : Arv Z h0 a1 ka .char (0 : Int32) [] (.int (0 : Int32))) (r5 : a0 ≠ a1) :
    MetFree l (⟨"java/lang/String", "<init>", "([C)V"⟩ : MethodName) (head1 (Jvm.Cond.code (⟨"java/lang/String", "<init>", "([C)V"⟩ : MethodName) jdk_42_method_3_code 2 none :: ws) ({ frames := 2, cells := 4, slots := 8, locals := 29 } : Room)) (fun a U => a = #[(.ref a0), (.ref a1)] ∧ Z.Warmed39 U.vm ∧ U.heap = h0 ∧ CHv Z own_EL U.vm h0) (fun _ _ _ _ _ => True) (fun _ U o U' => ∃ v L, o = .returned v ∧ Q2e Z a0 a1 ka h0 n0 v U'.heap L ∧ CHr Z own_EL U.vm U.heap U'.vm U'.heap ∧ ReturnedEndW U o U' L ({ frames := 2, cells := 4, slots := 8, locals := 29 } : Room).cells ({ frames := 2, cells := 4, slots := 8, locals := 29 } : Room).slots) := by
  refine MetFree.of_bodySF (plainFor_of_name pn_3) hisR ?_
  intro p e s m args below meth c s₁ Bd hml0 hP hK
  obtain ⟨rfl, hZ, hh, hC0⟩ := hP
  have hx := Bd.exec
  have hby := Bd.bytes
  have hml : c.maxLocals = 2 := hml0
  have hown : s.vm.findClass "java/lang/String" = some m.cls := findClass_of_methodNamed Bd.named
  have hnm := (name_of_methodNamed Bd.named Bd.method).1
  have X0 : Stand p l e ({ frames := 2, cells := 4, slots := 8, locals := 29 } : Room) s m #[(.ref a0), (.ref a1)] below meth c s₁ [] 0 0 := Stand.of_body Bd
  have e0 : s₁.heap = h0 := by rw [← hh, Bd.state]; rfl
  have N0 := Fr.nil n0
  obtain ⟨A0, hA0⟩ : ∃ A0, A0 = s₁.setTop (entryFrame m #[(.ref a0), (.ref a1)] 2) := ⟨_, rfl⟩
  have go0 : Go p e below A0 (s₁.setTop (mkF m 0 #[.val (.ref a0), .val (.ref a1)] [])) := fun t k => by rw [hA0]; exact castTop (ef_2e m a0 a1) k
  have hEW : EW Z aw own_EL := own_ew hw
  have R0H : CHr Z own_EL s.vm h0 s.vm h0 := CHr.refl hC0
  obtain ⟨cl1, Ar1, q1, S1, M1, H1, G1⟩ := id r4
  have go1 : Go p e below A0 (s₁.setTop (mkF m 6 #[.val (.ref a0), .val (.ref a1)] [.null, (.int (0 : Int32)), (.int (0 : Int32)), (.ref a1), (.ref a0)])) := by
    intro t k
    refine go0 t ?_
    refine o_aloadN X0 hx hby d2_0 1 rfl rfl rfl ?_
    refine o_aloadN X0 hx hby d2_1 2 rfl rfl rfl ?_
    refine o_iconst X0 hx hby d2_2 3 rfl (v := (0 : Int32)) rfl ?_
    refine o_aloadN X0 hx hby d2_3 4 rfl rfl rfl ?_
    refine X0.arraylength hx (by rw [e0]; exact Ar1.1) (State.isArrayOf_alike hZ.alike Ar1.2.1) (g := (mkF m 4 #[.val (.ref a0), .val (.ref a1)] [(.ref a1), (.int (0 : Int32)), (.ref a1), (.ref a0)])) rfl rfl (hb hby d2_4) _ ?_
    rw [len_of S1 M1]
    show Steps p.tables e below (s₁.setTop (mkF m 5 #[.val (.ref a0), .val (.ref a1)] [(.int (0 : Int32)), (.int (0 : Int32)), (.ref a1), (.ref a0)])) _
    refine o_aconstNull X0 hx hby d2_5 6 rfl ?_
    exact k
  obtain ⟨_, _, ⟨T2, L2, k2, n2⟩, -, X2, S2, gr2, ⟨Lc2, hQ2, l2, y2, z2, ch2⟩, st2⟩ := X0.specialBackS hx (y := (⟨"java/lang/String", "<init>", "([CIILjava/lang/Void;)V"⟩ : MethodName)) rfl hown (mvT hZ (hw _ (List.mem_of_getElem? (i := 12) rfl))) (mvT hZ (hw _ (List.mem_of_getElem? (i := 13) rfl))) (mvT hZ (hw _ (List.mem_of_getElem? (i := 15) rfl))) (by decide) (backOfSH (s := s) (vm0 := s.vm) (W := 0) (rm3e l Z aw hw [] a0 a1 ka h0 n0 Z0 (r0) (r1) (r2) (r3) (r4) (r5)) hZ (hw _ (List.mem_of_getElem? (i := 15) rfl)) (hw _ (List.mem_of_getElem? (i := 8) rfl)) (by decide) (by decide) hEW R0H.1) (g := (mkF m 6 #[.val (.ref a0), .val (.ref a1)] [.null, (.int (0 : Int32)), (.int (0 : Int32)), (.ref a1), (.ref a0)])) rfl (by rw [hml]; rfl) (Steps.refl _) (a := a0) (argsL := [(.ref a1), (.int (0 : Int32)), (.int (0 : Int32)), .null]) (rest := []) (lenOf pd_5 rfl) rfl (by show 2 * 0 + _ ≤ _; exact Nat.le_of_eq rfl) (hb hby d2_6) (fun _ _ => ⟨rfl, e0, (by decide : 0 + 4 ≤ _), (by decide : 0 + 8 ≤ _)⟩)
  dsimp only [Pt.U, Pt.locs, Pt.cells, Pt.slots] at X2 l2 y2 z2 st2 hQ2 S2 gr2 ch2
  subst l2 y2 z2
  have hZ2q := State.Warmed39.trans hZ S2.1
  have hown2q : (s.setVm T2.vm).vm.findClass "java/lang/String" = some m.cls := by rw [show (s.setVm T2.vm).vm = T2.vm from rfl, S2.1.alike.findClass]; exact hown
  clear hZ hown
  obtain ⟨hZ, hown⟩ := And.intro hZ2q hown2q
  obtain ⟨r2_d, r2_kd, rfl, N2q, K2q, qf2_0, qf2_1, qf2_2, -⟩ := hQ2
  have f1 : Exa Z T2.heap a0 "java/lang/String" := r0.keep K2q
  have f2 : Arv Z T2.heap a1 ka .char (0 : Int32) [] (.int (0 : Int32)) := r4.keep K2q (ninS (Ne.symm r5) nin0)
  have Zp2 : n0 ≤ T2.heap.size := Nat.le_trans Z0 K2q.1
  have K2 : Keep h0 T2.heap [a0] := Keep.trans (Keep.refl h0 [a0]) K2q (allS (P := fun x => x ∈ ([a0] : List Addr) ∨ h0.size ≤ x) (Or.inl (List.mem_of_getElem? (i := 0) rfl)) all0)
  have f3 : Fld Z T2.heap a0 "java/lang/String" "value" "[B" (.ref r2_d) := qf2_0
  have f4 : Fld Z T2.heap a0 "java/lang/String" "coder" "B" (.int (0 : Int32)) := qf2_1
  have f5 : Arv Z T2.heap r2_d r2_kd .byte (0 : Int32) [] (.int (0 : Int32)) := qf2_2
  have N2 := Fr.app N0 N2q
  have st2H : CHr Z own_EL s.vm h0 T2.vm T2.heap := ch2
  have R2H : CHr Z own_EL s.vm h0 T2.vm T2.heap := CHr.trans R0H st2H
  have go2 : Go p e below A0 (T2.setTop (mkF m 9 #[.val (.ref a0), .val (.ref a1)] [])) := by
    intro t k
    refine go1 t ?_
    refine st2.trans ?_
    show Steps p.tables e below (T2.setTop (mkF m 9 #[.val (.ref a0), .val (.ref a1)] [])) _
    exact k
  rw [hA0] at go2
  obtain ⟨fs, hr, hrun, hended, hRW⟩ := X2.leaveW (s := s) S2 (Nat.le_refl _) (v := none) (fun _ => rfl)
  have hCHend : CHr Z own_EL s.vm s.heap T2.vm T2.heap := by rw [hh]; exact CHr.trans R2H (CHv.at (s := s) (vm0 := T2.vm) X2 hZ hEW R2H.1)
  refine ⟨_, _, go2 _ (X2.returnOut hx Bd.returns (hb hby d2_9) hr), hrun, hended, _, _, rfl, ?_, hCHend, hRW.1, hRW.2.1, hRW.2.2.1, hRW.2.2.2.mono (by decide) (by decide)⟩
  show Q2e Z a0 a1 ka h0 n0 _ T2.heap _
  exact ⟨r2_d, r2_kd, rfl, N2, K2, f3, f4, f5, trivial⟩
theorem d1_0 : decode method_3_code 0 = .ok (.iload_n 0, 1) := by decide +kernel
theorem d1_1 : decode method_3_code 1 = .ok (.ifCond .ne 14, 3) := by decide +kernel
theorem d1_4 : decode method_3_code 4 = .ok (.new 23, 3) := by decide +kernel
theorem d1_7 : decode method_3_code 7 = .ok (.dup, 1) := by decide +kernel
theorem d1_8 : decode method_3_code 8 = .ok (.iconst 0, 1) := by decide +kernel
theorem d1_9 : decode method_3_code 9 = .ok (.newarray .char, 2) := by decide +kernel
theorem d1_11 : decode method_3_code 11 = .ok (.invokespecial 25, 3) := by decide +kernel
theorem d1_14 : decode method_3_code 14 = .ok (.areturn, 1) := by decide +kernel
theorem d1_15 : decode method_3_code 15 = .ok (.iload_n 0, 1) := by decide +kernel
theorem d1_16 : decode method_3_code 16 = .ok (.iconst 1, 1) := by decide +kernel
theorem d1_17 : decode method_3_code 17 = .ok (.if_icmp .ne 20, 3) := by decide +kernel
theorem d1_20 : decode method_3_code 20 = .ok (.iconst 1, 1) := by decide +kernel
theorem d1_21 : decode method_3_code 21 = .ok (.newarray .char, 2) := by decide +kernel
theorem d1_23 : decode method_3_code 23 = .ok (.astore_n 3, 1) := by decide +kernel
theorem d1_24 : decode method_3_code 24 = .ok (.aload_n 3, 1) := by decide +kernel
theorem d1_25 : decode method_3_code 25 = .ok (.iconst 0, 1) := by decide +kernel
theorem d1_26 : decode method_3_code 26 = .ok (.iload_n 1, 1) := by decide +kernel
theorem d1_27 : decode method_3_code 27 = .ok (.castore, 1) := by decide +kernel
theorem d1_28 : decode method_3_code 28 = .ok (.new 23, 3) := by decide +kernel
theorem d1_31 : decode method_3_code 31 = .ok (.dup, 1) := by decide +kernel
theorem d1_32 : decode method_3_code 32 = .ok (.aload_n 3, 1) := by decide +kernel
theorem d1_33 : decode method_3_code 33 = .ok (.invokespecial 25, 3) := by decide +kernel
theorem d1_36 : decode method_3_code 36 = .ok (.areturn, 1) := by decide +kernel
theorem d1_37 : decode method_3_code 37 = .ok (.iconst 2, 1) := by decide +kernel
theorem d1_38 : decode method_3_code 38 = .ok (.newarray .char, 2) := by decide +kernel
theorem d1_40 : decode method_3_code 40 = .ok (.astore_n 3, 1) := by decide +kernel
theorem d1_41 : decode method_3_code 41 = .ok (.aload_n 3, 1) := by decide +kernel
theorem d1_42 : decode method_3_code 42 = .ok (.iconst 0, 1) := by decide +kernel
theorem d1_43 : decode method_3_code 43 = .ok (.iload_n 1, 1) := by decide +kernel
theorem d1_44 : decode method_3_code 44 = .ok (.castore, 1) := by decide +kernel
theorem d1_45 : decode method_3_code 45 = .ok (.aload_n 3, 1) := by decide +kernel
theorem d1_46 : decode method_3_code 46 = .ok (.iconst 1, 1) := by decide +kernel
theorem d1_47 : decode method_3_code 47 = .ok (.iload_n 2, 1) := by decide +kernel
theorem d1_48 : decode method_3_code 48 = .ok (.castore, 1) := by decide +kernel
theorem d1_49 : decode method_3_code 49 = .ok (.new 23, 3) := by decide +kernel
theorem d1_52 : decode method_3_code 52 = .ok (.dup, 1) := by decide +kernel
theorem d1_53 : decode method_3_code 53 = .ok (.aload_n 3, 1) := by decide +kernel
theorem d1_54 : decode method_3_code 54 = .ok (.invokespecial 25, 3) := by decide +kernel
theorem d1_57 : decode method_3_code 57 = .ok (.areturn, 1) := by decide +kernel
theorem pn_1 : plainName "com/example/racelint/racelint/check/ChoiceEqualsPinLaw" = true := by first | (simp [plainName, overriddenIn]; done) | decide +kernel
theorem pd_7 : parseMethodDescriptor "([C)V" = some ⟨[(.array .char)], none⟩ := by decide +kernel
theorem ef_1 (m : MethodId) (x0 : Int32) (x1 : Int32) (x2 : Int32) : entryFrame m #[(.int x0), (.int x1), (.int x2)] 4 = mkF m 0 #[.val (.int x0), .val (.int x1), .val (.int x2), .unset] [] := by first | (simp [entryFrame, mkF, argsToLocals, Value.category]; done) | rfl
def Q1 (Z : State) (p0 : Int32) (p1 : Int32) (p2 : Int32) (cs : Int32) (h0 : Heap) (n0 : Nat) (v : Option Value) (h : Heap) (L : List Loc) : Prop := ∃ d : Addr, ∃ kd : ClassId, ∃ b : Addr, v = some (.ref b) ∧ Fr n0 L ∧ Keep h0 h [] ∧ h0.size ≤ b ∧ Exa Z h b "java/lang/String" ∧ Fld Z h b "java/lang/String" "value" "[B" (.ref d) ∧ Fld Z h b "java/lang/String" "coder" "B" (.int (0 : Int32)) ∧ Arv Z h d kd .byte p0 (own_vs p0 p1 p2) (.int (0 : Int32)) ∧ True
set_option maxRecDepth 65536 in
set_option maxHeartbeats 40000000 in
theorem rm1 (l : Launch) (Z : State) (aw : Array Value) (hw : ∀ d ∈ tables_1, d.before aw Z = true) (ws : List Jvm.Cond) (p0 : Int32) (p1 : Int32) (p2 : Int32) (cs : Int32) (h0 : Heap) (n0 : Nat) (Z0 : n0 ≤ h0.size) (r0 : Sta Z Z.heap "java/lang/String" "COMPACT_STRINGS" "Z" (.int cs)) (r1 : Old Z n0 h0) (hcs : (¬ (cs = 0))) (hl : (p0 = 0 ∨ p0 = 1 ∨ p0 = 2)) (pa1 : (¬ (255 : Int32) < nar .char p1)) (pa2 : (¬ (255 : Int32) < nar .char p2)) :
    MetFree l (⟨"com/example/racelint/racelint/check/ChoiceEqualsPinLaw", "make", "(ICC)Ljava/lang/String;"⟩ : MethodName) (head1 (Jvm.Cond.code (⟨"com/example/racelint/racelint/check/ChoiceEqualsPinLaw", "make", "(ICC)Ljava/lang/String;"⟩ : MethodName) method_3_code 4 (some (.object "java/lang/String")) :: ws) ({ frames := 4, cells := 6, slots := 12, locals := 66 } : Room)) (fun a U => a = #[(.int p0), (.int p1), (.int p2)] ∧ Z.Warmed39 U.vm ∧ U.heap = h0 ∧ CHv Z own_EL U.vm h0) (fun _ _ _ _ _ => True) (fun _ U o U' => ∃ v L, o = .returned v ∧ Q1 Z p0 p1 p2 cs h0 n0 v U'.heap L ∧ CHr Z own_EL U.vm U.heap U'.vm U'.heap ∧ ReturnedEndW U o U' L ({ frames := 4, cells := 6, slots := 12, locals := 66 } : Room).cells ({ frames := 4, cells := 6, slots := 12, locals := 66 } : Room).slots) := by
  refine MetFree.of_bodySF (plainFor_of_name pn_1) hisR ?_
  intro p e s m args below meth c s₁ Bd hml0 hP hK
  obtain ⟨rfl, hZ, hh, hC0⟩ := hP
  have hx := Bd.exec
  have hby := Bd.bytes
  have hml : c.maxLocals = 4 := hml0
  have hown : s.vm.findClass "com/example/racelint/racelint/check/ChoiceEqualsPinLaw" = some m.cls := findClass_of_methodNamed Bd.named
  have hnm := (name_of_methodNamed Bd.named Bd.method).1
  have X0 : Stand p l e ({ frames := 4, cells := 6, slots := 12, locals := 66 } : Room) s m #[(.int p0), (.int p1), (.int p2)] below meth c s₁ [] 0 0 := Stand.of_body Bd
  have e0 : s₁.heap = h0 := by rw [← hh, Bd.state]; rfl
  have N0 := Fr.nil n0
  obtain ⟨A0, hA0⟩ : ∃ A0, A0 = s₁.setTop (entryFrame m #[(.int p0), (.int p1), (.int p2)] 4) := ⟨_, rfl⟩
  have go0 : Go p e below A0 (s₁.setTop (mkF m 0 #[.val (.int p0), .val (.int p1), .val (.int p2), .unset] [])) := fun t k => by rw [hA0]; exact castTop (ef_1 m p0 p1 p2) k
  have hEW : EW Z aw own_EL := own_ew hw
  have R0H : CHr Z own_EL s.vm h0 s.vm h0 := CHr.refl hC0
  have go1 : Go p e below A0 (s₁.setTop (mkF m 1 #[.val (.int p0), .val (.int p1), .val (.int p2), .unset] [(.int p0)])) := by
    intro t k
    refine go0 t ?_
    refine o_iloadN X0 hx hby d1_0 1 rfl rfl ?_
    exact k
  by_cases hc1_1 : p0 = (0 : Int32)
  · obtain ⟨T2, h2, X2, e2, E2, A2, D2, -, st2⟩ := newO X0 hx hZ hown (hw _ (List.mem_of_getElem? (i := 6) rfl)) (hw _ (List.mem_of_getElem? (i := 7) rfl)) (hw _ (List.mem_of_getElem? (i := 8) rfl)) e0 (g := (mkF m 4 #[.val (.int p0), .val (.int p1), .val (.int p2), .unset] [])) rfl (hb hby d1_4) (by decide) (by decide)
    obtain ⟨b2, g2⟩ : ∃ z, z = h0.size := ⟨_, rfl⟩
    rw [← g2] at A2 D2 st2
    have g_b2 : n0 ≤ b2 := Nat.le_trans Z0 (Nat.le_of_eq g2.symm)
    have sz_b2 : h0.size ≤ b2 := Nat.le_trans (Keep.refl h0 []).1 (Nat.le_of_eq g2.symm)
    have st2H : CHr Z own_EL s.vm h0 s.vm h2 := CHr.ext E2 R0H.1
    have R2H : CHr Z own_EL s.vm h0 s.vm h2 := CHr.trans R0H st2H
    have sf2_b2 : Safe Z own_EL s.vm h2 b2 := Safe.ext E2 R0H.1 (Safe.new (Nat.le_of_eq g2.symm))
    have f1 : Old Z n0 h2 := r1.ext E2
    have Zp2 : n0 ≤ h2.size := Nat.le_trans Z0 E2.1
    have K2 : Keep h0 h2 [] := (Keep.refl h0 []).ext E2
    have f2 : Exa Z h2 b2 "java/lang/String" := A2
    have f3 : Fld Z h2 b2 "java/lang/String" "coder" "B" (.int (0 : Int32)) := D2 (Or.inr (hw _ (List.mem_of_getElem? (i := 32) rfl))) (ty := .byte) (by decide)
    have f4 : Fld Z h2 b2 "java/lang/String" "value" "[B" .null := D2 (Or.inr (hw _ (List.mem_of_getElem? (i := 34) rfl))) (ty := (.array .byte)) (by decide)
    obtain ⟨T3, h3, k3, X3, e3, E3, A3, st3⟩ := newP X2 hx hZ (hw _ (List.mem_of_getElem? (i := 5) rfl)) e2 (g := (mkF m 9 #[.val (.int p0), .val (.int p1), .val (.int p2), .unset] [(.int (0 : Int32)), (.ref b2), (.ref b2)])) rfl (hb hby d1_9) rfl (by decide) (cap := 0) (by decide) (by decide) (by decide) (by decide)
    obtain ⟨b3, g3⟩ : ∃ z, z = h2.size := ⟨_, rfl⟩
    rw [← g3] at A3 st3
    have ne_b2_b3 : b2 ≠ b3 := Nat.ne_of_lt (Nat.lt_of_lt_of_le f2.lt (Nat.le_of_eq g3.symm))
    have g_b3 : n0 ≤ b3 := Nat.le_trans Zp2 (Nat.le_of_eq g3.symm)
    have sz_b3 : h0.size ≤ b3 := Nat.le_trans K2.1 (Nat.le_of_eq g3.symm)
    have st3H : CHr Z own_EL s.vm h2 s.vm h3 := CHr.ext E3 R2H.1
    have R3H : CHr Z own_EL s.vm h0 s.vm h3 := CHr.trans R2H st3H
    have sf3_b2 : Safe Z own_EL s.vm h3 b2 := CHr.safe st3H f2.lt sf2_b2
    have sf3_b3 : Safe Z own_EL s.vm h3 b3 := Safe.ext E3 R2H.1 (Safe.new (Nat.le_of_eq g3.symm))
    have f5 : Old Z n0 h3 := f1.ext E3
    have f6 : Exa Z h3 b2 "java/lang/String" := f2.ext E3
    have f7 : Fld Z h3 b2 "java/lang/String" "coder" "B" (.int (0 : Int32)) := f3.ext E3
    have f8 : Fld Z h3 b2 "java/lang/String" "value" "[B" .null := f4.ext E3
    have Zp3 : n0 ≤ h3.size := Nat.le_trans Zp2 E3.1
    have K3 : Keep h0 h3 [] := K2.ext E3
    have f9 : Arv Z h3 b3 k3 .char (0 : Int32) [] (.int (0 : Int32)) := (Arv.new A3 (by decide)).pad (pad_rep [] (.int (0 : Int32)) 0)
    have go2 : Go p e below A0 (T3.setTop (mkF m 11 #[.val (.int p0), .val (.int p1), .val (.int p2), .unset] [(.ref b3), (.ref b2), (.ref b2)])) := by
      intro t k
      refine go1 t ?_
      refine o_ifN X0 hx hby d1_1 4 rfl (teq hc1_1).2 ?_
      refine st2 _ ?_
      show Steps p.tables e below (T2.setTop (mkF m 7 #[.val (.int p0), .val (.int p1), .val (.int p2), .unset] [(.ref b2)])) _
      refine o_dup X2 hx hby d1_7 8 rfl rfl ?_
      refine o_iconst X2 hx hby d1_8 9 rfl (v := (0 : Int32)) rfl ?_
      refine st3 _ ?_
      show Steps p.tables e below (T3.setTop (mkF m 11 #[.val (.int p0), .val (.int p1), .val (.int p2), .unset] [(.ref b3), (.ref b2), (.ref b2)])) _
      exact k
    obtain ⟨_, _, ⟨T4, L4, k4, n4⟩, -, X4, S4, gr4, ⟨Lc4, hQ4, l4, y4, z4, ch4⟩, st4⟩ := X3.specialBackS hx (y := (⟨"java/lang/String", "<init>", "([C)V"⟩ : MethodName)) rfl hown (mvT hZ (hw _ (List.mem_of_getElem? (i := 9) rfl))) (mvT hZ (hw _ (List.mem_of_getElem? (i := 10) rfl))) (mvT hZ (hw _ (List.mem_of_getElem? (i := 11) rfl))) (by decide) (backOfSH (s := s) (vm0 := s.vm) (W := 1) (rm2e l Z aw hw [] b2 b3 k3 h3 n0 Zp3 (f6) (g_b2) (f8) (f7) (f9) (ne_b2_b3)) hZ (hw _ (List.mem_of_getElem? (i := 11) rfl)) (hw _ (List.mem_of_getElem? (i := 8) rfl)) (by decide) (by decide) hEW R3H.1) (g := (mkF m 11 #[.val (.int p0), .val (.int p1), .val (.int p2), .unset] [(.ref b3), (.ref b2), (.ref b2)])) rfl (by rw [hml]; rfl) (Steps.refl _) (a := b2) (argsL := [(.ref b3)]) (rest := [(.ref b2)]) (lenOf pd_7 rfl) rfl (by show 2 * 0 + _ ≤ _; exact Nat.le_of_eq rfl) (hb hby d1_11) (fun _ _ => ⟨rfl, e3, (by decide : 2 + 4 ≤ _), (by decide : 4 + 8 ≤ _)⟩)
    dsimp only [Pt.U, Pt.locs, Pt.cells, Pt.slots] at X4 l4 y4 z4 st4 hQ4 S4 gr4 ch4
    subst l4 y4 z4
    have hZ4q := State.Warmed39.trans hZ S4.1
    have hown4q : (s.setVm T4.vm).vm.findClass "com/example/racelint/racelint/check/ChoiceEqualsPinLaw" = some m.cls := by rw [show (s.setVm T4.vm).vm = T4.vm from rfl, S4.1.alike.findClass]; exact hown
    clear hZ hown
    obtain ⟨hZ, hown⟩ := And.intro hZ4q hown4q
    obtain ⟨r4_d, r4_kd, rfl, N4q, K4q, qf4_0, qf4_1, qf4_2, -⟩ := hQ4
    have f10 : Old Z n0 T4.heap := f5.keep K4q (allS g_b2 all0)
    have f11 : Exa Z T4.heap b2 "java/lang/String" := f6.keep K4q
    have f12 : Arv Z T4.heap b3 k3 .char (0 : Int32) [] (.int (0 : Int32)) := f9.keep K4q (ninS (Ne.symm ne_b2_b3) nin0)
    have Zp4 : n0 ≤ T4.heap.size := Nat.le_trans Zp3 K4q.1
    have K4 : Keep h0 T4.heap [] := Keep.trans K3 K4q (allS (P := fun x => x ∈ ([] : List Addr) ∨ h0.size ≤ x) (Or.inr sz_b2) all0)
    have f13 : Fld Z T4.heap b2 "java/lang/String" "value" "[B" (.ref r4_d) := qf4_0
    have f14 : Fld Z T4.heap b2 "java/lang/String" "coder" "B" (.int (0 : Int32)) := qf4_1
    have f15 : Arv Z T4.heap r4_d r4_kd .byte (0 : Int32) [] (.int (0 : Int32)) := qf4_2
    have N4 := Fr.app N0 N4q
    have st4H : CHr Z own_EL s.vm h3 T4.vm T4.heap := ch4
    have R4H : CHr Z own_EL s.vm h0 T4.vm T4.heap := CHr.trans R3H st4H
    have sf4_b2 : Safe Z own_EL T4.vm T4.heap b2 := CHr.safe st4H f6.lt sf3_b2
    have sf4_b3 : Safe Z own_EL T4.vm T4.heap b3 := CHr.safe st4H f9.lt sf3_b3
    have go3 : Go p e below A0 (T4.setTop (mkF m 14 #[.val (.int p0), .val (.int p1), .val (.int p2), .unset] [(.ref b2)])) := by
      intro t k
      refine go2 t ?_
      refine st4.trans ?_
      show Steps p.tables e below (T4.setTop (mkF m 14 #[.val (.int p0), .val (.int p1), .val (.int p2), .unset] [(.ref b2)])) _
      exact k
    rw [hA0] at go3
    obtain ⟨fs, hr, hrun, hended, hRW⟩ := X4.leaveW (s := s) S4 (Nat.le_refl _) (v := some (.ref b2)) (fun h => by rw [Bd.returns] at h; cases h)
    have hCHend : CHr Z own_EL s.vm s.heap T4.vm T4.heap := by rw [hh]; exact CHr.trans R4H (CHv.at (s := s) (vm0 := T4.vm) X4 hZ hEW R4H.1)
    refine ⟨_, _, go3 _ (o_retR X4 hx Bd.returns rfl (hb hby d1_14) rfl rfl hr), hrun, hended, _, _, rfl, ?_, hCHend, hRW.1, hRW.2.1, hRW.2.2.1, hRW.2.2.2.mono (by decide) (by decide)⟩
    show Q1 Z p0 p1 p2 cs h0 n0 _ T4.heap _
    exact ⟨r4_d, r4_kd, b2, rfl, N4, K4, sz_b2, f11, f13, f14, (by rw [hc1_1, own_vs0]; exact f15), trivial⟩
  · have go4 : Go p e below A0 (s₁.setTop (mkF m 17 #[.val (.int p0), .val (.int p1), .val (.int p2), .unset] [(.int (1 : Int32)), (.int p0)])) := by
      intro t k
      refine go1 t ?_
      refine o_ifY X0 hx hby d1_1 15 rfl (feq hc1_1).2 ?_
      refine o_iloadN X0 hx hby d1_15 16 rfl rfl ?_
      refine o_iconst X0 hx hby d1_16 17 rfl (v := (1 : Int32)) rfl ?_
      exact k
    by_cases hc17_5 : p0 = (1 : Int32)
    · obtain ⟨T6, h6, k6, X6, e6, E6, A6, st6⟩ := newP X0 hx hZ (hw _ (List.mem_of_getElem? (i := 5) rfl)) e0 (g := (mkF m 21 #[.val (.int p0), .val (.int p1), .val (.int p2), .unset] [(.int (1 : Int32))])) rfl (hb hby d1_21) rfl (by decide) (cap := 1) (by decide) (by decide) (by decide) (by decide)
      obtain ⟨b6, g6⟩ : ∃ z, z = h0.size := ⟨_, rfl⟩
      rw [← g6] at A6 st6
      have g_b6 : n0 ≤ b6 := Nat.le_trans Z0 (Nat.le_of_eq g6.symm)
      have sz_b6 : h0.size ≤ b6 := Nat.le_trans (Keep.refl h0 []).1 (Nat.le_of_eq g6.symm)
      have st6H : CHr Z own_EL s.vm h0 s.vm h6 := CHr.ext E6 R0H.1
      have R6H : CHr Z own_EL s.vm h0 s.vm h6 := CHr.trans R0H st6H
      have sf6_b6 : Safe Z own_EL s.vm h6 b6 := Safe.ext E6 R0H.1 (Safe.new (Nat.le_of_eq g6.symm))
      have f16 : Old Z n0 h6 := r1.ext E6
      have Zp6 : n0 ≤ h6.size := Nat.le_trans Z0 E6.1
      have K6 : Keep h0 h6 [] := (Keep.refl h0 []).ext E6
      have f17 : Arv Z h6 b6 k6 .char (1 : Int32) [(.int (0 : Int32))] (.int (0 : Int32)) := (Arv.new A6 (by decide)).pad (pad_rep [] (.int (0 : Int32)) 1)
      have go5 : Go p e below A0 (T6.setTop (mkF m 27 #[.val (.int p0), .val (.int p1), .val (.int p2), .val (.ref b6)] [(.int p1), (.int (0 : Int32)), (.ref b6)])) := by
        intro t k
        refine go4 t ?_
        refine o_icmpN X0 hx hby d1_17 20 rfl (teq hc17_5).2 ?_
        refine o_iconst X0 hx hby d1_20 21 rfl (v := (1 : Int32)) rfl ?_
        refine st6 _ ?_
        show Steps p.tables e below (T6.setTop (mkF m 23 #[.val (.int p0), .val (.int p1), .val (.int p2), .unset] [(.ref b6)])) _
        refine o_astoreN X6 hx hby d1_23 24 rfl rfl (l' := #[.val (.int p0), .val (.int p1), .val (.int p2), .val (.ref b6)]) rfl ?_
        refine o_aloadN X6 hx hby d1_24 25 rfl rfl rfl ?_
        refine o_iconst X6 hx hby d1_25 26 rfl (v := (0 : Int32)) rfl ?_
        refine o_iloadN X6 hx hby d1_26 27 rfl rfl ?_
        exact k
      obtain ⟨cl7, Ar7, q7, S7, M7, H7, G7⟩ := id f17
      have hin7 : ¬ ((0 : Int32) < 0 ∨ cl7.slots.size ≤ ((0 : Int32)).toNatClampNeg) := inb_of S7 ⟨by decide, by decide⟩
      obtain ⟨T7, h7, X7, e7, W7, st7⟩ := stC X6 hx hZ e6 Ar7 (j := (0 : Int32)) hin7 (g := (mkF m 27 #[.val (.int p0), .val (.int p1), .val (.int p2), .val (.ref b6)] [(.int p1), (.int (0 : Int32)), (.ref b6)])) rfl rfl (hb hby d1_27)
      have st7H : CHr Z own_EL s.vm h6 s.vm h7 := CHr.wr W7 sf6_b6 R6H.1
      have R7H : CHr Z own_EL s.vm h0 s.vm h7 := CHr.trans R6H st7H
      have sf7_b6 : Safe Z own_EL s.vm h7 b6 := CHr.safe st7H f17.lt sf6_b6
      have f18 : Old Z n0 h7 := f16.wr W7 g_b6
      have Zp7 : n0 ≤ h7.size := Nat.le_trans Zp6 (Keep.of_wr W7).1
      have K7 : Keep h0 h7 [] := K6.wr W7 (Or.inr sz_b6)
      have N7 := Fr.snoc X7 N0 g_b6
      have f19 : Arv Z h7 b6 k6 .char (1 : Int32) [(.int (nar .char p1))] (.int (0 : Int32)) := Arv.set Ar7 q7 S7 M7 H7 G7 (fits_nar_char _) W7 0 rfl (Nat.le_of_ble_eq_true rfl)
      obtain ⟨T8, h8, X8, e8, E8, A8, D8, -, st8⟩ := newO X7 hx hZ hown (hw _ (List.mem_of_getElem? (i := 6) rfl)) (hw _ (List.mem_of_getElem? (i := 7) rfl)) (hw _ (List.mem_of_getElem? (i := 8) rfl)) e7 (g := (mkF m 28 #[.val (.int p0), .val (.int p1), .val (.int p2), .val (.ref b6)] [])) rfl (hb hby d1_28) (by decide) (by decide)
      obtain ⟨b8, g8⟩ : ∃ z, z = h7.size := ⟨_, rfl⟩
      rw [← g8] at A8 D8 st8
      have ne_b6_b8 : b6 ≠ b8 := Nat.ne_of_lt (Nat.lt_of_lt_of_le f19.lt (Nat.le_of_eq g8.symm))
      have g_b8 : n0 ≤ b8 := Nat.le_trans Zp7 (Nat.le_of_eq g8.symm)
      have sz_b8 : h0.size ≤ b8 := Nat.le_trans K7.1 (Nat.le_of_eq g8.symm)
      have st8H : CHr Z own_EL s.vm h7 s.vm h8 := CHr.ext E8 R7H.1
      have R8H : CHr Z own_EL s.vm h0 s.vm h8 := CHr.trans R7H st8H
      have sf8_b6 : Safe Z own_EL s.vm h8 b6 := CHr.safe st8H f19.lt sf7_b6
      have sf8_b8 : Safe Z own_EL s.vm h8 b8 := Safe.ext E8 R7H.1 (Safe.new (Nat.le_of_eq g8.symm))
      have f20 : Old Z n0 h8 := f18.ext E8
      have f21 : Arv Z h8 b6 k6 .char (1 : Int32) [(.int (nar .char p1))] (.int (0 : Int32)) := f19.ext E8
      have Zp8 : n0 ≤ h8.size := Nat.le_trans Zp7 E8.1
      have K8 : Keep h0 h8 [] := K7.ext E8
      have f22 : Exa Z h8 b8 "java/lang/String" := A8
      have f23 : Fld Z h8 b8 "java/lang/String" "coder" "B" (.int (0 : Int32)) := D8 (Or.inr (hw _ (List.mem_of_getElem? (i := 32) rfl))) (ty := .byte) (by decide)
      have f24 : Fld Z h8 b8 "java/lang/String" "value" "[B" .null := D8 (Or.inr (hw _ (List.mem_of_getElem? (i := 34) rfl))) (ty := (.array .byte)) (by decide)
      have go6 : Go p e below A0 (T8.setTop (mkF m 33 #[.val (.int p0), .val (.int p1), .val (.int p2), .val (.ref b6)] [(.ref b6), (.ref b8), (.ref b8)])) := by
        intro t k
        refine go5 t ?_
        refine st7 _ ?_
        show Steps p.tables e below (T7.setTop (mkF m 28 #[.val (.int p0), .val (.int p1), .val (.int p2), .val (.ref b6)] [])) _
        refine st8 _ ?_
        show Steps p.tables e below (T8.setTop (mkF m 31 #[.val (.int p0), .val (.int p1), .val (.int p2), .val (.ref b6)] [(.ref b8)])) _
        refine o_dup X8 hx hby d1_31 32 rfl rfl ?_
        refine o_aloadN X8 hx hby d1_32 33 rfl rfl rfl ?_
        exact k
      obtain ⟨_, _, ⟨T9, L9, k9, n9⟩, -, X9, ⟨Lc9, hQ9, l9, y9, z9⟩, st9⟩ := X8.specialBack hx (y := (⟨"java/lang/String", "<init>", "([C)V"⟩ : MethodName)) rfl hown (mvT hZ (hw _ (List.mem_of_getElem? (i := 9) rfl))) (mvT hZ (hw _ (List.mem_of_getElem? (i := 10) rfl))) (mvT hZ (hw _ (List.mem_of_getElem? (i := 11) rfl))) (by decide) (backOf (W := 1) (rm21 l Z aw hw [] b8 b6 k6 cs ((nar .char p1)) h8 n0 Zp8 (f22) (g_b8) (f24) (f23) (f21) ((Ne.symm ne_b6_b8)) (r0) (f20) (hcs) (pa1)) hZ (hw _ (List.mem_of_getElem? (i := 11) rfl)) (hw _ (List.mem_of_getElem? (i := 8) rfl)) (by decide) (by decide)) (g := (mkF m 33 #[.val (.int p0), .val (.int p1), .val (.int p2), .val (.ref b6)] [(.ref b6), (.ref b8), (.ref b8)])) rfl (by rw [hml]; rfl) (Steps.refl _) (a := b8) (argsL := [(.ref b6)]) (rest := [(.ref b8)]) (lenOf pd_7 rfl) rfl (by show 2 * 0 + _ ≤ _; exact Nat.le_of_eq rfl) (hb hby d1_33) (fun _ _ => ⟨rfl, e8, (by decide : 2 + 1 ≤ _), (by decide : 5 + 1 ≤ _)⟩)
      dsimp only [Pt.U, Pt.locs, Pt.cells, Pt.slots] at X9 l9 y9 z9 st9 hQ9
      subst l9 y9 z9
      obtain ⟨r9_d, r9_kd, rfl, N9q, K9q, qf9_0, qf9_1, qf9_2, -⟩ := hQ9
      have f25 : Old Z n0 T9.heap := f20.keep K9q (allS g_b8 all0)
      have f26 : Arv Z T9.heap b6 k6 .char (1 : Int32) [(.int (nar .char p1))] (.int (0 : Int32)) := f21.keep K9q (ninS ne_b6_b8 nin0)
      have f27 : Exa Z T9.heap b8 "java/lang/String" := f22.keep K9q
      have Zp9 : n0 ≤ T9.heap.size := Nat.le_trans Zp8 K9q.1
      have K9 : Keep h0 T9.heap [] := Keep.trans K8 K9q (allS (P := fun x => x ∈ ([] : List Addr) ∨ h0.size ≤ x) (Or.inr sz_b8) all0)
      have f28 : Fld Z T9.heap b8 "java/lang/String" "value" "[B" (.ref r9_d) := qf9_0
      have f29 : Fld Z T9.heap b8 "java/lang/String" "coder" "B" (.int (0 : Int32)) := qf9_1
      have f30 : Arv Z T9.heap r9_d r9_kd .byte (1 : Int32) [(.int (nar .byte ((nar .char p1).toInt8.toInt32)))] (.int (0 : Int32)) := qf9_2
      have N9 := Fr.app N7 N9q
      have st9H : CHr Z own_EL s.vm h8 s.vm T9.heap := CHr.keep K9q (allS (P := fun x => Safe Z own_EL s.vm h8 x) sf8_b8 all0) R8H.1
      have R9H : CHr Z own_EL s.vm h0 s.vm T9.heap := CHr.trans R8H st9H
      have sf9_b6 : Safe Z own_EL s.vm T9.heap b6 := CHr.safe st9H f21.lt sf8_b6
      have sf9_b8 : Safe Z own_EL s.vm T9.heap b8 := CHr.safe st9H f22.lt sf8_b8
      have go7 : Go p e below A0 (T9.setTop (mkF m 36 #[.val (.int p0), .val (.int p1), .val (.int p2), .val (.ref b6)] [(.ref b8)])) := by
        intro t k
        refine go6 t ?_
        refine st9.trans ?_
        show Steps p.tables e below (T9.setTop (mkF m 36 #[.val (.int p0), .val (.int p1), .val (.int p2), .val (.ref b6)] [(.ref b8)])) _
        exact k
      rw [hA0] at go7
      obtain ⟨fs, hr, hrun, hended, hW, hsame⟩ := X9.leave (v := some (.ref b8)) (fun h => by rw [Bd.returns] at h; cases h)
      have hCHend : CHr Z own_EL s.vm s.heap T9.vm T9.heap := by rw [hh]; exact CHr.trans R9H (CHv.at (s := s) (vm0 := s.vm) X9 hZ hEW R9H.1)
      refine ⟨_, _, go7 _ (o_retR X9 hx Bd.returns rfl (hb hby d1_36) rfl rfl hr), hrun, hended, _, _, rfl, ?_, hCHend, ReturnedEndW.of_narrow ⟨_, rfl⟩ hW (hsame.mono (by decide) (by decide))⟩
      show Q1 Z p0 p1 p2 cs h0 n0 _ T9.heap _
      exact ⟨r9_d, r9_kd, b8, rfl, N9, K9, sz_b8, f27, f28, f29, (by rw [hc17_5, own_vs1]; exact f30), trivial⟩
    · obtain ⟨T10, h10, k10, X10, e10, E10, A10, st10⟩ := newP X0 hx hZ (hw _ (List.mem_of_getElem? (i := 5) rfl)) e0 (g := (mkF m 38 #[.val (.int p0), .val (.int p1), .val (.int p2), .unset] [(.int (2 : Int32))])) rfl (hb hby d1_38) rfl (by decide) (cap := 2) (by decide) (by decide) (by decide) (by decide)
      obtain ⟨b10, g10⟩ : ∃ z, z = h0.size := ⟨_, rfl⟩
      rw [← g10] at A10 st10
      have g_b10 : n0 ≤ b10 := Nat.le_trans Z0 (Nat.le_of_eq g10.symm)
      have sz_b10 : h0.size ≤ b10 := Nat.le_trans (Keep.refl h0 []).1 (Nat.le_of_eq g10.symm)
      have st10H : CHr Z own_EL s.vm h0 s.vm h10 := CHr.ext E10 R0H.1
      have R10H : CHr Z own_EL s.vm h0 s.vm h10 := CHr.trans R0H st10H
      have sf10_b10 : Safe Z own_EL s.vm h10 b10 := Safe.ext E10 R0H.1 (Safe.new (Nat.le_of_eq g10.symm))
      have f31 : Old Z n0 h10 := r1.ext E10
      have Zp10 : n0 ≤ h10.size := Nat.le_trans Z0 E10.1
      have K10 : Keep h0 h10 [] := (Keep.refl h0 []).ext E10
      have f32 : Arv Z h10 b10 k10 .char (2 : Int32) [(.int (0 : Int32)), (.int (0 : Int32))] (.int (0 : Int32)) := (Arv.new A10 (by decide)).pad (pad_rep [] (.int (0 : Int32)) 2)
      have go8 : Go p e below A0 (T10.setTop (mkF m 44 #[.val (.int p0), .val (.int p1), .val (.int p2), .val (.ref b10)] [(.int p1), (.int (0 : Int32)), (.ref b10)])) := by
        intro t k
        refine go4 t ?_
        refine o_icmpY X0 hx hby d1_17 37 rfl (feq hc17_5).2 ?_
        refine o_iconst X0 hx hby d1_37 38 rfl (v := (2 : Int32)) rfl ?_
        refine st10 _ ?_
        show Steps p.tables e below (T10.setTop (mkF m 40 #[.val (.int p0), .val (.int p1), .val (.int p2), .unset] [(.ref b10)])) _
        refine o_astoreN X10 hx hby d1_40 41 rfl rfl (l' := #[.val (.int p0), .val (.int p1), .val (.int p2), .val (.ref b10)]) rfl ?_
        refine o_aloadN X10 hx hby d1_41 42 rfl rfl rfl ?_
        refine o_iconst X10 hx hby d1_42 43 rfl (v := (0 : Int32)) rfl ?_
        refine o_iloadN X10 hx hby d1_43 44 rfl rfl ?_
        exact k
      obtain ⟨cl11, Ar11, q11, S11, M11, H11, G11⟩ := id f32
      have hin11 : ¬ ((0 : Int32) < 0 ∨ cl11.slots.size ≤ ((0 : Int32)).toNatClampNeg) := inb_of S11 ⟨by decide, by decide⟩
      obtain ⟨T11, h11, X11, e11, W11, st11⟩ := stC X10 hx hZ e10 Ar11 (j := (0 : Int32)) hin11 (g := (mkF m 44 #[.val (.int p0), .val (.int p1), .val (.int p2), .val (.ref b10)] [(.int p1), (.int (0 : Int32)), (.ref b10)])) rfl rfl (hb hby d1_44)
      have st11H : CHr Z own_EL s.vm h10 s.vm h11 := CHr.wr W11 sf10_b10 R10H.1
      have R11H : CHr Z own_EL s.vm h0 s.vm h11 := CHr.trans R10H st11H
      have sf11_b10 : Safe Z own_EL s.vm h11 b10 := CHr.safe st11H f32.lt sf10_b10
      have f33 : Old Z n0 h11 := f31.wr W11 g_b10
      have Zp11 : n0 ≤ h11.size := Nat.le_trans Zp10 (Keep.of_wr W11).1
      have K11 : Keep h0 h11 [] := K10.wr W11 (Or.inr sz_b10)
      have N11 := Fr.snoc X11 N0 g_b10
      have f34 : Arv Z h11 b10 k10 .char (2 : Int32) [(.int (nar .char p1)), (.int (0 : Int32))] (.int (0 : Int32)) := Arv.set Ar11 q11 S11 M11 H11 G11 (fits_nar_char _) W11 0 rfl (Nat.le_of_ble_eq_true rfl)
      have go9 : Go p e below A0 (T11.setTop (mkF m 48 #[.val (.int p0), .val (.int p1), .val (.int p2), .val (.ref b10)] [(.int p2), (.int (1 : Int32)), (.ref b10)])) := by
        intro t k
        refine go8 t ?_
        refine st11 _ ?_
        show Steps p.tables e below (T11.setTop (mkF m 45 #[.val (.int p0), .val (.int p1), .val (.int p2), .val (.ref b10)] [])) _
        refine o_aloadN X11 hx hby d1_45 46 rfl rfl rfl ?_
        refine o_iconst X11 hx hby d1_46 47 rfl (v := (1 : Int32)) rfl ?_
        refine o_iloadN X11 hx hby d1_47 48 rfl rfl ?_
        exact k
      obtain ⟨cl12, Ar12, q12, S12, M12, H12, G12⟩ := id f34
      have hin12 : ¬ ((1 : Int32) < 0 ∨ cl12.slots.size ≤ ((1 : Int32)).toNatClampNeg) := inb_of S12 ⟨by decide, by decide⟩
      obtain ⟨T12, h12, X12, e12, W12, st12⟩ := stC X11 hx hZ e11 Ar12 (j := (1 : Int32)) hin12 (g := (mkF m 48 #[.val (.int p0), .val (.int p1), .val (.int p2), .val (.ref b10)] [(.int p2), (.int (1 : Int32)), (.ref b10)])) rfl rfl (hb hby d1_48)
      have st12H : CHr Z own_EL s.vm h11 s.vm h12 := CHr.wr W12 sf11_b10 R11H.1
      have R12H : CHr Z own_EL s.vm h0 s.vm h12 := CHr.trans R11H st12H
      have sf12_b10 : Safe Z own_EL s.vm h12 b10 := CHr.safe st12H f34.lt sf11_b10
      have f35 : Old Z n0 h12 := f33.wr W12 g_b10
      have Zp12 : n0 ≤ h12.size := Nat.le_trans Zp11 (Keep.of_wr W12).1
      have K12 : Keep h0 h12 [] := K11.wr W12 (Or.inr sz_b10)
      have N12 := Fr.snoc X12 N11 g_b10
      have f36 : Arv Z h12 b10 k10 .char (2 : Int32) [(.int (nar .char p1)), (.int (nar .char p2))] (.int (0 : Int32)) := Arv.set Ar12 q12 S12 M12 H12 G12 (fits_nar_char _) W12 1 rfl (Nat.le_of_ble_eq_true rfl)
      obtain ⟨T13, h13, X13, e13, E13, A13, D13, -, st13⟩ := newO X12 hx hZ hown (hw _ (List.mem_of_getElem? (i := 6) rfl)) (hw _ (List.mem_of_getElem? (i := 7) rfl)) (hw _ (List.mem_of_getElem? (i := 8) rfl)) e12 (g := (mkF m 49 #[.val (.int p0), .val (.int p1), .val (.int p2), .val (.ref b10)] [])) rfl (hb hby d1_49) (by decide) (by decide)
      obtain ⟨b13, g13⟩ : ∃ z, z = h12.size := ⟨_, rfl⟩
      rw [← g13] at A13 D13 st13
      have ne_b10_b13 : b10 ≠ b13 := Nat.ne_of_lt (Nat.lt_of_lt_of_le f36.lt (Nat.le_of_eq g13.symm))
      have g_b13 : n0 ≤ b13 := Nat.le_trans Zp12 (Nat.le_of_eq g13.symm)
      have sz_b13 : h0.size ≤ b13 := Nat.le_trans K12.1 (Nat.le_of_eq g13.symm)
      have st13H : CHr Z own_EL s.vm h12 s.vm h13 := CHr.ext E13 R12H.1
      have R13H : CHr Z own_EL s.vm h0 s.vm h13 := CHr.trans R12H st13H
      have sf13_b10 : Safe Z own_EL s.vm h13 b10 := CHr.safe st13H f36.lt sf12_b10
      have sf13_b13 : Safe Z own_EL s.vm h13 b13 := Safe.ext E13 R12H.1 (Safe.new (Nat.le_of_eq g13.symm))
      have f37 : Old Z n0 h13 := f35.ext E13
      have f38 : Arv Z h13 b10 k10 .char (2 : Int32) [(.int (nar .char p1)), (.int (nar .char p2))] (.int (0 : Int32)) := f36.ext E13
      have Zp13 : n0 ≤ h13.size := Nat.le_trans Zp12 E13.1
      have K13 : Keep h0 h13 [] := K12.ext E13
      have f39 : Exa Z h13 b13 "java/lang/String" := A13
      have f40 : Fld Z h13 b13 "java/lang/String" "coder" "B" (.int (0 : Int32)) := D13 (Or.inr (hw _ (List.mem_of_getElem? (i := 32) rfl))) (ty := .byte) (by decide)
      have f41 : Fld Z h13 b13 "java/lang/String" "value" "[B" .null := D13 (Or.inr (hw _ (List.mem_of_getElem? (i := 34) rfl))) (ty := (.array .byte)) (by decide)
      have go10 : Go p e below A0 (T13.setTop (mkF m 54 #[.val (.int p0), .val (.int p1), .val (.int p2), .val (.ref b10)] [(.ref b10), (.ref b13), (.ref b13)])) := by
        intro t k
        refine go9 t ?_
        refine st12 _ ?_
        show Steps p.tables e below (T12.setTop (mkF m 49 #[.val (.int p0), .val (.int p1), .val (.int p2), .val (.ref b10)] [])) _
        refine st13 _ ?_
        show Steps p.tables e below (T13.setTop (mkF m 52 #[.val (.int p0), .val (.int p1), .val (.int p2), .val (.ref b10)] [(.ref b13)])) _
        refine o_dup X13 hx hby d1_52 53 rfl rfl ?_
        refine o_aloadN X13 hx hby d1_53 54 rfl rfl rfl ?_
        exact k
      obtain ⟨_, _, ⟨T14, L14, k14, n14⟩, -, X14, ⟨Lc14, hQ14, l14, y14, z14⟩, st14⟩ := X13.specialBack hx (y := (⟨"java/lang/String", "<init>", "([C)V"⟩ : MethodName)) rfl hown (mvT hZ (hw _ (List.mem_of_getElem? (i := 9) rfl))) (mvT hZ (hw _ (List.mem_of_getElem? (i := 10) rfl))) (mvT hZ (hw _ (List.mem_of_getElem? (i := 11) rfl))) (by decide) (backOf (W := 1) (rm22 l Z aw hw [] b13 b10 k10 cs ((nar .char p1)) ((nar .char p2)) h13 n0 Zp13 (f39) (g_b13) (f41) (f40) (f38) ((Ne.symm ne_b10_b13)) (r0) (f37) (hcs) (pa1) (pa2)) hZ (hw _ (List.mem_of_getElem? (i := 11) rfl)) (hw _ (List.mem_of_getElem? (i := 8) rfl)) (by decide) (by decide)) (g := (mkF m 54 #[.val (.int p0), .val (.int p1), .val (.int p2), .val (.ref b10)] [(.ref b10), (.ref b13), (.ref b13)])) rfl (by rw [hml]; rfl) (Steps.refl _) (a := b13) (argsL := [(.ref b10)]) (rest := [(.ref b13)]) (lenOf pd_7 rfl) rfl (by show 2 * 0 + _ ≤ _; exact Nat.le_of_eq rfl) (hb hby d1_54) (fun _ _ => ⟨rfl, e13, (by decide : 2 + 1 ≤ _), (by decide : 6 + 2 ≤ _)⟩)
      dsimp only [Pt.U, Pt.locs, Pt.cells, Pt.slots] at X14 l14 y14 z14 st14 hQ14
      subst l14 y14 z14
      obtain ⟨r14_d, r14_kd, rfl, N14q, K14q, qf14_0, qf14_1, qf14_2, -⟩ := hQ14
      have f42 : Old Z n0 T14.heap := f37.keep K14q (allS g_b13 all0)
      have f43 : Arv Z T14.heap b10 k10 .char (2 : Int32) [(.int (nar .char p1)), (.int (nar .char p2))] (.int (0 : Int32)) := f38.keep K14q (ninS ne_b10_b13 nin0)
      have f44 : Exa Z T14.heap b13 "java/lang/String" := f39.keep K14q
      have Zp14 : n0 ≤ T14.heap.size := Nat.le_trans Zp13 K14q.1
      have K14 : Keep h0 T14.heap [] := Keep.trans K13 K14q (allS (P := fun x => x ∈ ([] : List Addr) ∨ h0.size ≤ x) (Or.inr sz_b13) all0)
      have f45 : Fld Z T14.heap b13 "java/lang/String" "value" "[B" (.ref r14_d) := qf14_0
      have f46 : Fld Z T14.heap b13 "java/lang/String" "coder" "B" (.int (0 : Int32)) := qf14_1
      have f47 : Arv Z T14.heap r14_d r14_kd .byte (2 : Int32) [(.int (nar .byte ((nar .char p1).toInt8.toInt32))), (.int (nar .byte ((nar .char p2).toInt8.toInt32)))] (.int (0 : Int32)) := qf14_2
      have N14 := Fr.app N12 N14q
      have st14H : CHr Z own_EL s.vm h13 s.vm T14.heap := CHr.keep K14q (allS (P := fun x => Safe Z own_EL s.vm h13 x) sf13_b13 all0) R13H.1
      have R14H : CHr Z own_EL s.vm h0 s.vm T14.heap := CHr.trans R13H st14H
      have sf14_b10 : Safe Z own_EL s.vm T14.heap b10 := CHr.safe st14H f38.lt sf13_b10
      have sf14_b13 : Safe Z own_EL s.vm T14.heap b13 := CHr.safe st14H f39.lt sf13_b13
      have go11 : Go p e below A0 (T14.setTop (mkF m 57 #[.val (.int p0), .val (.int p1), .val (.int p2), .val (.ref b10)] [(.ref b13)])) := by
        intro t k
        refine go10 t ?_
        refine st14.trans ?_
        show Steps p.tables e below (T14.setTop (mkF m 57 #[.val (.int p0), .val (.int p1), .val (.int p2), .val (.ref b10)] [(.ref b13)])) _
        exact k
      rw [hA0] at go11
      obtain ⟨fs, hr, hrun, hended, hW, hsame⟩ := X14.leave (v := some (.ref b13)) (fun h => by rw [Bd.returns] at h; cases h)
      have hCHend : CHr Z own_EL s.vm s.heap T14.vm T14.heap := by rw [hh]; exact CHr.trans R14H (CHv.at (s := s) (vm0 := s.vm) X14 hZ hEW R14H.1)
      refine ⟨_, _, go11 _ (o_retR X14 hx Bd.returns rfl (hb hby d1_57) rfl rfl hr), hrun, hended, _, _, rfl, ?_, hCHend, ReturnedEndW.of_narrow ⟨_, rfl⟩ hW (hsame.mono (by decide) (by decide))⟩
      show Q1 Z p0 p1 p2 cs h0 n0 _ T14.heap _
      exact ⟨r14_d, r14_kd, b13, rfl, N14, K14, sz_b13, f44, f45, f46, (by rw [(hl.resolve_left hc1_1).resolve_left hc17_5, own_vs2]; exact f47), trivial⟩
theorem d11_0 : decode jdk_43_method_13_code 0 = .ok (.aload_n 0, 1) := by decide +kernel
theorem d11_1 : decode jdk_43_method_13_code 1 = .ok (.arraylength, 1) := by decide +kernel
theorem d11_2 : decode jdk_43_method_13_code 2 = .ok (.aload_n 1, 1) := by decide +kernel
theorem d11_3 : decode jdk_43_method_13_code 3 = .ok (.arraylength, 1) := by decide +kernel
theorem d11_4 : decode jdk_43_method_13_code 4 = .ok (.if_icmp .ne 30, 3) := by decide +kernel
theorem d11_7 : decode jdk_43_method_13_code 7 = .ok (.iconst 0, 1) := by decide +kernel
theorem d11_8 : decode jdk_43_method_13_code 8 = .ok (.istore_n 2, 1) := by decide +kernel
theorem d11_9 : decode jdk_43_method_13_code 9 = .ok (.iload_n 2, 1) := by decide +kernel
theorem d11_10 : decode jdk_43_method_13_code 10 = .ok (.aload_n 0, 1) := by decide +kernel
theorem d11_11 : decode jdk_43_method_13_code 11 = .ok (.arraylength, 1) := by decide +kernel
theorem d11_12 : decode jdk_43_method_13_code 12 = .ok (.if_icmp .ge 20, 3) := by decide +kernel
theorem d11_15 : decode jdk_43_method_13_code 15 = .ok (.aload_n 0, 1) := by decide +kernel
theorem d11_16 : decode jdk_43_method_13_code 16 = .ok (.iload_n 2, 1) := by decide +kernel
theorem d11_17 : decode jdk_43_method_13_code 17 = .ok (.baload, 1) := by decide +kernel
theorem d11_18 : decode jdk_43_method_13_code 18 = .ok (.aload_n 1, 1) := by decide +kernel
theorem d11_19 : decode jdk_43_method_13_code 19 = .ok (.iload_n 2, 1) := by decide +kernel
theorem d11_20 : decode jdk_43_method_13_code 20 = .ok (.baload, 1) := by decide +kernel
theorem d11_21 : decode jdk_43_method_13_code 21 = .ok (.if_icmp .eq 5, 3) := by decide +kernel
theorem d11_24 : decode jdk_43_method_13_code 24 = .ok (.iconst 0, 1) := by decide +kernel
theorem d11_25 : decode jdk_43_method_13_code 25 = .ok (.ireturn, 1) := by decide +kernel
theorem d11_26 : decode jdk_43_method_13_code 26 = .ok (.iinc 2 1, 3) := by decide +kernel
theorem d11_29 : decode jdk_43_method_13_code 29 = .ok (.goto (-20), 3) := by decide +kernel
theorem d11_32 : decode jdk_43_method_13_code 32 = .ok (.iconst 1, 1) := by decide +kernel
theorem d11_33 : decode jdk_43_method_13_code 33 = .ok (.ireturn, 1) := by decide +kernel
theorem d11_34 : decode jdk_43_method_13_code 34 = .ok (.iconst 0, 1) := by decide +kernel
theorem d11_35 : decode jdk_43_method_13_code 35 = .ok (.ireturn, 1) := by decide +kernel
theorem pn_11 : plainName "java/lang/StringLatin1" = true := by first | (simp [plainName, overriddenIn]; done) | decide +kernel
theorem ef_11 (m : MethodId) (x0 : Addr) (x1 : Addr) : entryFrame m #[(.ref x0), (.ref x1)] 3 = mkF m 0 #[.val (.ref x0), .val (.ref x1), .unset] [] := by first | (simp [entryFrame, mkF, argsToLocals, Value.category]; done) | rfl
def Fle (n1 : Int32) (x1 : Int32) (y1 : Int32) (n2 : Int32) (x2 : Int32) (y2 : Int32) : Int32 := let v5 : Int32 := (if n1 = n2 then (if (0 : Int32) < n1 then (if (own_b x1) = (own_b x2) then (if (1 : Int32) < n1 then (if (own_b y1) = (own_b y2) then (1 : Int32) else (0 : Int32)) else (1 : Int32)) else (0 : Int32)) else (1 : Int32)) else (0 : Int32)); v5
def Q11 (Z : State) (a0 : Addr) (a1 : Addr) (ka : ClassId) (kb : ClassId) (n1 : Int32) (x1 : Int32) (y1 : Int32) (n2 : Int32) (x2 : Int32) (y2 : Int32) (h0 : Heap) (n0 : Nat) (v : Option Value) (h : Heap) (L : List Loc) : Prop := v = some (.int (Fle n1 x1 y1 n2 x2 y2)) ∧ Fr n0 L ∧ h = h0
set_option maxRecDepth 65536 in
set_option maxHeartbeats 40000000 in
theorem rm11 (l : Launch) (Z : State) (aw : Array Value) (hw : ∀ d ∈ tables_1, d.before aw Z = true) (ws : List Jvm.Cond) (a0 : Addr) (a1 : Addr) (ka : ClassId) (kb : ClassId) (n1 : Int32) (x1 : Int32) (y1 : Int32) (n2 : Int32) (x2 : Int32) (y2 : Int32) (h0 : Heap) (n0 : Nat) (Z0 : n0 ≤ h0.size) (r0 : Arv Z h0 a0 ka .byte n1 (own_vs n1 x1 y1) (.int (0 : Int32))) (r1 : Arv Z h0 a1 kb .byte n2 (own_vs n2 x2 y2) (.int (0 : Int32))) (hn : (n1 = 0 ∨ n1 = 1 ∨ n1 = 2)) :
    MetFree l (⟨"java/lang/StringLatin1", "equals", "([B[B)Z"⟩ : MethodName) (head1 (Jvm.Cond.code (⟨"java/lang/StringLatin1", "equals", "([B[B)Z"⟩ : MethodName) jdk_43_method_13_code 3 (some .boolean) :: ws) ({ frames := 0, cells := 0, slots := 0, locals := 0 } : Room)) (fun a U => a = #[(.ref a0), (.ref a1)] ∧ Z.Warmed39 U.vm ∧ U.heap = h0) (fun _ _ _ _ _ => True) (fun _ U o U' => ∃ v L, o = .returned v ∧ Q11 Z a0 a1 ka kb n1 x1 y1 n2 x2 y2 h0 n0 v U'.heap L ∧ FrameEnd U o U' L ({ frames := 0, cells := 0, slots := 0, locals := 0 } : Room).cells ({ frames := 0, cells := 0, slots := 0, locals := 0 } : Room).slots) := by
  refine MetFree.of_bodySF (plainFor_of_name pn_11) hisR ?_
  intro p e s m args below meth c s₁ Bd hml0 hP hK
  obtain ⟨rfl, hZ, hh⟩ := hP
  have hx := Bd.exec
  have hby := Bd.bytes
  have hml : c.maxLocals = 3 := hml0
  have hown : s.vm.findClass "java/lang/StringLatin1" = some m.cls := findClass_of_methodNamed Bd.named
  have hnm := (name_of_methodNamed Bd.named Bd.method).1
  have X0 : Stand p l e ({ frames := 0, cells := 0, slots := 0, locals := 0 } : Room) s m #[(.ref a0), (.ref a1)] below meth c s₁ [] 0 0 := Stand.of_body Bd
  have e0 : s₁.heap = h0 := by rw [← hh, Bd.state]; rfl
  have N0 := Fr.nil n0
  obtain ⟨A0, hA0⟩ : ∃ A0, A0 = s₁.setTop (entryFrame m #[(.ref a0), (.ref a1)] 3) := ⟨_, rfl⟩
  have go0 : Go p e below A0 (s₁.setTop (mkF m 0 #[.val (.ref a0), .val (.ref a1), .unset] [])) := fun t k => by rw [hA0]; exact castTop (ef_11 m a0 a1) k
  obtain ⟨cl1, Ar1, q1, S1, M1, H1, G1⟩ := id r0
  obtain ⟨cl2, Ar2, q2, S2, M2, H2, G2⟩ := id r1
  have go1 : Go p e below A0 (s₁.setTop (mkF m 4 #[.val (.ref a0), .val (.ref a1), .unset] [(.int n2), (.int n1)])) := by
    intro t k
    refine go0 t ?_
    refine o_aloadN X0 hx hby d11_0 1 rfl rfl rfl ?_
    refine X0.arraylength hx (by rw [e0]; exact Ar1.1) (State.isArrayOf_alike hZ.alike Ar1.2.1) (g := (mkF m 1 #[.val (.ref a0), .val (.ref a1), .unset] [(.ref a0)])) rfl rfl (hb hby d11_1) _ ?_
    rw [len_of S1 M1]
    show Steps p.tables e below (s₁.setTop (mkF m 2 #[.val (.ref a0), .val (.ref a1), .unset] [(.int n1)])) _
    refine o_aloadN X0 hx hby d11_2 3 rfl rfl rfl ?_
    refine X0.arraylength hx (by rw [e0]; exact Ar2.1) (State.isArrayOf_alike hZ.alike Ar2.2.1) (g := (mkF m 3 #[.val (.ref a0), .val (.ref a1), .unset] [(.ref a1), (.int n1)])) rfl rfl (hb hby d11_3) _ ?_
    rw [len_of S2 M2]
    show Steps p.tables e below (s₁.setTop (mkF m 4 #[.val (.ref a0), .val (.ref a1), .unset] [(.int n2), (.int n1)])) _
    exact k
  obtain ⟨v5, pcr19, Lr19, Sr19, hv5, hd19, go16⟩ : ∃ (v5 : Int32) (pcr19 : Nat) (Lr19 : Array Slot) (Sr19 : List Value), v5 = (if n1 = n2 then (if (0 : Int32) < n1 then (if (own_b x1) = (own_b x2) then (if (1 : Int32) < n1 then (if (own_b y1) = (own_b y2) then (1 : Int32) else (0 : Int32)) else (1 : Int32)) else (0 : Int32)) else (1 : Int32)) else (0 : Int32)) ∧ decode c.code pcr19 = .ok (.ireturn, 1) ∧ Go p e below A0 (s₁.setTop (mkF m pcr19 Lr19 ((.int v5) :: Sr19))) := by
    by_cases hc4_3 : n1 = n2
    · obtain ⟨cl4, Ar4, q4, S4, M4, H4, G4⟩ := id r0
      have go2 : Go p e below A0 (s₁.setTop (mkF m 12 #[.val (.ref a0), .val (.ref a1), .val (.int (0 : Int32))] [(.int n1), (.int (0 : Int32))])) := by
        intro t k
        refine go1 t ?_
        refine o_icmpN X0 hx hby d11_4 7 rfl (teq hc4_3).2 ?_
        refine o_iconst X0 hx hby d11_7 8 rfl (v := (0 : Int32)) rfl ?_
        refine o_istoreN X0 hx hby d11_8 9 rfl (l' := #[.val (.ref a0), .val (.ref a1), .val (.int (0 : Int32))]) rfl ?_
        refine o_iloadN X0 hx hby d11_9 10 rfl rfl ?_
        refine o_aloadN X0 hx hby d11_10 11 rfl rfl rfl ?_
        refine X0.arraylength hx (by rw [e0]; exact Ar4.1) (State.isArrayOf_alike hZ.alike Ar4.2.1) (g := (mkF m 11 #[.val (.ref a0), .val (.ref a1), .val (.int (0 : Int32))] [(.ref a0), (.int (0 : Int32))])) rfl rfl (hb hby d11_11) _ ?_
        rw [len_of S4 M4]
        show Steps p.tables e below (s₁.setTop (mkF m 12 #[.val (.ref a0), .val (.ref a1), .val (.int (0 : Int32))] [(.int n1), (.int (0 : Int32))])) _
        exact k
      obtain ⟨v4, pcr18, Lr18, Sr18, hv4, hd18, go14⟩ : ∃ (v4 : Int32) (pcr18 : Nat) (Lr18 : Array Slot) (Sr18 : List Value), v4 = (if (0 : Int32) < n1 then (if (own_b x1) = (own_b x2) then (if (1 : Int32) < n1 then (if (own_b y1) = (own_b y2) then (1 : Int32) else (0 : Int32)) else (1 : Int32)) else (0 : Int32)) else (1 : Int32)) ∧ decode c.code pcr18 = .ok (.ireturn, 1) ∧ Go p e below A0 (s₁.setTop (mkF m pcr18 Lr18 ((.int v4) :: Sr18))) := by
        by_cases hc12_5 : (0 : Int32) < n1
        · obtain ⟨cl6, Ar6, q6, S6, M6, H6, G6⟩ := id r0
          have hin6 : ¬ ((0 : Int32) < 0 ∨ cl6.slots.size ≤ ((0 : Int32)).toNatClampNeg) := inb_of S6 ⟨by decide, hc12_5⟩
          have hat6 : cl6.slots[((0 : Int32)).toNatClampNeg]? = some (.int (own_b x1)) := H6.at hin6 (own_g0 hc12_5)
          obtain ⟨cl7, Ar7, q7, S7, M7, H7, G7⟩ := id r1
          have hin7 : ¬ ((0 : Int32) < 0 ∨ cl7.slots.size ≤ ((0 : Int32)).toNatClampNeg) := inb_of S7 ⟨by decide, (by rw [← hc4_3]; exact hc12_5)⟩
          have hat7 : cl7.slots[((0 : Int32)).toNatClampNeg]? = some (.int (own_b x2)) := H7.at hin7 (own_g0 (by rw [← hc4_3]; exact hc12_5))
          have go3 : Go p e below A0 (s₁.setTop (mkF m 21 #[.val (.ref a0), .val (.ref a1), .val (.int (0 : Int32))] [(.int (own_b x2)), (.int (own_b x1))])) := by
            intro t k
            refine go2 t ?_
            refine o_icmpN X0 hx hby d11_12 15 rfl (tlt hc12_5).2.1 ?_
            refine o_aloadN X0 hx hby d11_15 16 rfl rfl rfl ?_
            refine o_iloadN X0 hx hby d11_16 17 rfl rfl ?_
            refine X0.baloadBytes hx (j := (0 : Int32)) (v := (.int (own_b x1))) (by rw [e0]; exact Ar6.1) (State.isArrayOf_alike hZ.alike Ar6.2.1) Ar6.2.2 hin6 hat6 (g := (mkF m 17 #[.val (.ref a0), .val (.ref a1), .val (.int (0 : Int32))] [(.int (0 : Int32)), (.ref a0)])) rfl rfl (hb hby d11_17) _ ?_
            show Steps p.tables e below (s₁.setTop (mkF m 18 #[.val (.ref a0), .val (.ref a1), .val (.int (0 : Int32))] [(.int (own_b x1))])) _
            refine o_aloadN X0 hx hby d11_18 19 rfl rfl rfl ?_
            refine o_iloadN X0 hx hby d11_19 20 rfl rfl ?_
            refine X0.baloadBytes hx (j := (0 : Int32)) (v := (.int (own_b x2))) (by rw [e0]; exact Ar7.1) (State.isArrayOf_alike hZ.alike Ar7.2.1) Ar7.2.2 hin7 hat7 (g := (mkF m 20 #[.val (.ref a0), .val (.ref a1), .val (.int (0 : Int32))] [(.int (0 : Int32)), (.ref a1), (.int (own_b x1))])) rfl rfl (hb hby d11_20) _ ?_
            show Steps p.tables e below (s₁.setTop (mkF m 21 #[.val (.ref a0), .val (.ref a1), .val (.int (0 : Int32))] [(.int (own_b x2)), (.int (own_b x1))])) _
            exact k
          obtain ⟨v3, pcr17, Lr17, Sr17, hv3, hd17, go12⟩ : ∃ (v3 : Int32) (pcr17 : Nat) (Lr17 : Array Slot) (Sr17 : List Value), v3 = (if (own_b x1) = (own_b x2) then (if (1 : Int32) < n1 then (if (own_b y1) = (own_b y2) then (1 : Int32) else (0 : Int32)) else (1 : Int32)) else (0 : Int32)) ∧ decode c.code pcr17 = .ok (.ireturn, 1) ∧ Go p e below A0 (s₁.setTop (mkF m pcr17 Lr17 ((.int v3) :: Sr17))) := by
            by_cases hc21_8 : (own_b x1) = (own_b x2)
            · obtain ⟨cl9, Ar9, q9, S9, M9, H9, G9⟩ := id r0
              have go4 : Go p e below A0 (s₁.setTop (mkF m 12 #[.val (.ref a0), .val (.ref a1), .val (.int (1 : Int32))] [(.int n1), (.int (1 : Int32))])) := by
                intro t k
                refine go3 t ?_
                refine o_icmpY X0 hx hby d11_21 26 rfl (teq hc21_8).1 ?_
                refine o_iinc X0 hx hby d11_26 29 rfl rfl (i := (1 : Int32)) rfl (l' := #[.val (.ref a0), .val (.ref a1), .val (.int (1 : Int32))]) rfl ?_
                refine o_goto X0 hx hby d11_29 9 rfl ?_
                refine o_iloadN X0 hx hby d11_9 10 rfl rfl ?_
                refine o_aloadN X0 hx hby d11_10 11 rfl rfl rfl ?_
                refine X0.arraylength hx (by rw [e0]; exact Ar9.1) (State.isArrayOf_alike hZ.alike Ar9.2.1) (g := (mkF m 11 #[.val (.ref a0), .val (.ref a1), .val (.int (1 : Int32))] [(.ref a0), (.int (1 : Int32))])) rfl rfl (hb hby d11_11) _ ?_
                rw [len_of S9 M9]
                show Steps p.tables e below (s₁.setTop (mkF m 12 #[.val (.ref a0), .val (.ref a1), .val (.int (1 : Int32))] [(.int n1), (.int (1 : Int32))])) _
                exact k
              obtain ⟨v2, pcr16, Lr16, Sr16, hv2, hd16, go10⟩ : ∃ (v2 : Int32) (pcr16 : Nat) (Lr16 : Array Slot) (Sr16 : List Value), v2 = (if (1 : Int32) < n1 then (if (own_b y1) = (own_b y2) then (1 : Int32) else (0 : Int32)) else (1 : Int32)) ∧ decode c.code pcr16 = .ok (.ireturn, 1) ∧ Go p e below A0 (s₁.setTop (mkF m pcr16 Lr16 ((.int v2) :: Sr16))) := by
                by_cases hc12_10 : (1 : Int32) < n1
                · obtain ⟨cl11, Ar11, q11, S11, M11, H11, G11⟩ := id r0
                  have hin11 : ¬ ((1 : Int32) < 0 ∨ cl11.slots.size ≤ ((1 : Int32)).toNatClampNeg) := inb_of S11 ⟨by decide, hc12_10⟩
                  have hat11 : cl11.slots[((1 : Int32)).toNatClampNeg]? = some (.int (own_b y1)) := H11.at hin11 (own_g1 hc12_10)
                  obtain ⟨cl12, Ar12, q12, S12, M12, H12, G12⟩ := id r1
                  have hin12 : ¬ ((1 : Int32) < 0 ∨ cl12.slots.size ≤ ((1 : Int32)).toNatClampNeg) := inb_of S12 ⟨by decide, (by rw [← hc4_3]; exact hc12_10)⟩
                  have hat12 : cl12.slots[((1 : Int32)).toNatClampNeg]? = some (.int (own_b y2)) := H12.at hin12 (own_g1 (by rw [← hc4_3]; exact hc12_10))
                  have go5 : Go p e below A0 (s₁.setTop (mkF m 21 #[.val (.ref a0), .val (.ref a1), .val (.int (1 : Int32))] [(.int (own_b y2)), (.int (own_b y1))])) := by
                    intro t k
                    refine go4 t ?_
                    refine o_icmpN X0 hx hby d11_12 15 rfl (tlt hc12_10).2.1 ?_
                    refine o_aloadN X0 hx hby d11_15 16 rfl rfl rfl ?_
                    refine o_iloadN X0 hx hby d11_16 17 rfl rfl ?_
                    refine X0.baloadBytes hx (j := (1 : Int32)) (v := (.int (own_b y1))) (by rw [e0]; exact Ar11.1) (State.isArrayOf_alike hZ.alike Ar11.2.1) Ar11.2.2 hin11 hat11 (g := (mkF m 17 #[.val (.ref a0), .val (.ref a1), .val (.int (1 : Int32))] [(.int (1 : Int32)), (.ref a0)])) rfl rfl (hb hby d11_17) _ ?_
                    show Steps p.tables e below (s₁.setTop (mkF m 18 #[.val (.ref a0), .val (.ref a1), .val (.int (1 : Int32))] [(.int (own_b y1))])) _
                    refine o_aloadN X0 hx hby d11_18 19 rfl rfl rfl ?_
                    refine o_iloadN X0 hx hby d11_19 20 rfl rfl ?_
                    refine X0.baloadBytes hx (j := (1 : Int32)) (v := (.int (own_b y2))) (by rw [e0]; exact Ar12.1) (State.isArrayOf_alike hZ.alike Ar12.2.1) Ar12.2.2 hin12 hat12 (g := (mkF m 20 #[.val (.ref a0), .val (.ref a1), .val (.int (1 : Int32))] [(.int (1 : Int32)), (.ref a1), (.int (own_b y1))])) rfl rfl (hb hby d11_20) _ ?_
                    show Steps p.tables e below (s₁.setTop (mkF m 21 #[.val (.ref a0), .val (.ref a1), .val (.int (1 : Int32))] [(.int (own_b y2)), (.int (own_b y1))])) _
                    exact k
                  obtain ⟨v1, pcr15, Lr15, Sr15, hv1, hd15, go8⟩ : ∃ (v1 : Int32) (pcr15 : Nat) (Lr15 : Array Slot) (Sr15 : List Value), v1 = (if (own_b y1) = (own_b y2) then (1 : Int32) else (0 : Int32)) ∧ decode c.code pcr15 = .ok (.ireturn, 1) ∧ Go p e below A0 (s₁.setTop (mkF m pcr15 Lr15 ((.int v1) :: Sr15))) := by
                    by_cases hc21_13 : (own_b y1) = (own_b y2)
                    · obtain ⟨cl14, Ar14, q14, S14, M14, H14, G14⟩ := id r0
                      have go6 : Go p e below A0 (s₁.setTop (mkF m 33 #[.val (.ref a0), .val (.ref a1), .val (.int (2 : Int32))] [(.int (1 : Int32))])) := by
                        intro t k
                        refine go5 t ?_
                        refine o_icmpY X0 hx hby d11_21 26 rfl (teq hc21_13).1 ?_
                        refine o_iinc X0 hx hby d11_26 29 rfl rfl (i := (1 : Int32)) rfl (l' := #[.val (.ref a0), .val (.ref a1), .val (.int (2 : Int32))]) rfl ?_
                        refine o_goto X0 hx hby d11_29 9 rfl ?_
                        refine o_iloadN X0 hx hby d11_9 10 rfl rfl ?_
                        refine o_aloadN X0 hx hby d11_10 11 rfl rfl rfl ?_
                        refine X0.arraylength hx (by rw [e0]; exact Ar14.1) (State.isArrayOf_alike hZ.alike Ar14.2.1) (g := (mkF m 11 #[.val (.ref a0), .val (.ref a1), .val (.int (2 : Int32))] [(.ref a0), (.int (2 : Int32))])) rfl rfl (hb hby d11_11) _ ?_
                        rw [len_of S14 M14]
                        show Steps p.tables e below (s₁.setTop (mkF m 12 #[.val (.ref a0), .val (.ref a1), .val (.int (2 : Int32))] [(.int n1), (.int (2 : Int32))])) _
                        refine o_icmpY X0 hx hby d11_12 32 rfl (flt (by rcases hn with q | q | q <;> (rw [q]; decide))).2.1 ?_
                        refine o_iconst X0 hx hby d11_32 33 rfl (v := (1 : Int32)) rfl ?_
                        exact k
                      exact ⟨(1 : Int32), _, _, _, (if_pos hc21_13).symm, (hb hby d11_33), go6⟩
                    · have go7 : Go p e below A0 (s₁.setTop (mkF m 25 #[.val (.ref a0), .val (.ref a1), .val (.int (1 : Int32))] [(.int (0 : Int32))])) := by
                        intro t k
                        refine go5 t ?_
                        refine o_icmpN X0 hx hby d11_21 24 rfl (feq hc21_13).1 ?_
                        refine o_iconst X0 hx hby d11_24 25 rfl (v := (0 : Int32)) rfl ?_
                        exact k
                      exact ⟨(0 : Int32), _, _, _, (if_neg hc21_13).symm, (hb hby d11_25), go7⟩
                  rw [hv1] at go8
                  exact ⟨(if (own_b y1) = (own_b y2) then (1 : Int32) else (0 : Int32)), _, _, _, (if_pos hc12_10).symm, hd15, go8⟩
                · have go9 : Go p e below A0 (s₁.setTop (mkF m 33 #[.val (.ref a0), .val (.ref a1), .val (.int (1 : Int32))] [(.int (1 : Int32))])) := by
                    intro t k
                    refine go4 t ?_
                    refine o_icmpY X0 hx hby d11_12 32 rfl (flt hc12_10).2.1 ?_
                    refine o_iconst X0 hx hby d11_32 33 rfl (v := (1 : Int32)) rfl ?_
                    exact k
                  exact ⟨(1 : Int32), _, _, _, (if_neg hc12_10).symm, (hb hby d11_33), go9⟩
              rw [hv2] at go10
              exact ⟨(if (1 : Int32) < n1 then (if (own_b y1) = (own_b y2) then (1 : Int32) else (0 : Int32)) else (1 : Int32)), _, _, _, (if_pos hc21_8).symm, hd16, go10⟩
            · have go11 : Go p e below A0 (s₁.setTop (mkF m 25 #[.val (.ref a0), .val (.ref a1), .val (.int (0 : Int32))] [(.int (0 : Int32))])) := by
                intro t k
                refine go3 t ?_
                refine o_icmpN X0 hx hby d11_21 24 rfl (feq hc21_8).1 ?_
                refine o_iconst X0 hx hby d11_24 25 rfl (v := (0 : Int32)) rfl ?_
                exact k
              exact ⟨(0 : Int32), _, _, _, (if_neg hc21_8).symm, (hb hby d11_25), go11⟩
          rw [hv3] at go12
          exact ⟨(if (own_b x1) = (own_b x2) then (if (1 : Int32) < n1 then (if (own_b y1) = (own_b y2) then (1 : Int32) else (0 : Int32)) else (1 : Int32)) else (0 : Int32)), _, _, _, (if_pos hc12_5).symm, hd17, go12⟩
        · have go13 : Go p e below A0 (s₁.setTop (mkF m 33 #[.val (.ref a0), .val (.ref a1), .val (.int (0 : Int32))] [(.int (1 : Int32))])) := by
            intro t k
            refine go2 t ?_
            refine o_icmpY X0 hx hby d11_12 32 rfl (flt hc12_5).2.1 ?_
            refine o_iconst X0 hx hby d11_32 33 rfl (v := (1 : Int32)) rfl ?_
            exact k
          exact ⟨(1 : Int32), _, _, _, (if_neg hc12_5).symm, (hb hby d11_33), go13⟩
      rw [hv4] at go14
      exact ⟨(if (0 : Int32) < n1 then (if (own_b x1) = (own_b x2) then (if (1 : Int32) < n1 then (if (own_b y1) = (own_b y2) then (1 : Int32) else (0 : Int32)) else (1 : Int32)) else (0 : Int32)) else (1 : Int32)), _, _, _, (if_pos hc4_3).symm, hd18, go14⟩
    · have go15 : Go p e below A0 (s₁.setTop (mkF m 35 #[.val (.ref a0), .val (.ref a1), .unset] [(.int (0 : Int32))])) := by
        intro t k
        refine go1 t ?_
        refine o_icmpY X0 hx hby d11_4 34 rfl (feq hc4_3).2 ?_
        refine o_iconst X0 hx hby d11_34 35 rfl (v := (0 : Int32)) rfl ?_
        exact k
      exact ⟨(0 : Int32), _, _, _, (if_neg hc4_3).symm, (hb hby d11_35), go15⟩
  have hF : v5 = (Fle n1 x1 y1 n2 x2 y2) := by simp only [Fle, hv5]
  rw [hA0] at go16
  obtain ⟨fs, hr, hrun, hended, hW, hsame⟩ := X0.leave (v := some (.int v5)) (fun h => by rw [Bd.returns] at h; cases h)
  refine ⟨_, _, go16 _ (o_retZ X0 hx Bd.returns hd19 (by rw [hv5]; (repeat' split) <;> first | exact Or.inl rfl | exact Or.inr rfl) hr), hrun, hended, _, _, rfl, ?_, ⟨_, rfl⟩, hW, hsame.mono (by decide) (by decide)⟩
  show Q11 Z a0 a1 ka kb n1 x1 y1 n2 x2 y2 h0 n0 _ s₁.heap _
  rw [e0]
  exact ⟨by rw [← hF], N0, rfl⟩
theorem d10_0 : decode jdk_42_method_66_code 0 = .ok (.aload_n 0, 1) := by decide +kernel
theorem d10_1 : decode jdk_42_method_66_code 1 = .ok (.aload_n 1, 1) := by decide +kernel
theorem d10_2 : decode jdk_42_method_66_code 2 = .ok (.if_acmp .ne 5, 3) := by decide +kernel
theorem d10_5 : decode jdk_42_method_66_code 5 = .ok (.iconst 1, 1) := by decide +kernel
theorem d10_6 : decode jdk_42_method_66_code 6 = .ok (.ireturn, 1) := by decide +kernel
theorem d10_7 : decode jdk_42_method_66_code 7 = .ok (.aload_n 1, 1) := by decide +kernel
theorem d10_8 : decode jdk_42_method_66_code 8 = .ok (.instanceof 10, 3) := by decide +kernel
theorem d10_11 : decode jdk_42_method_66_code 11 = .ok (.ifCond .eq 43, 3) := by decide +kernel
theorem d10_14 : decode jdk_42_method_66_code 14 = .ok (.aload_n 1, 1) := by decide +kernel
theorem d10_15 : decode jdk_42_method_66_code 15 = .ok (.checkcast 10, 3) := by decide +kernel
theorem d10_18 : decode jdk_42_method_66_code 18 = .ok (.astore_n 2, 1) := by decide +kernel
theorem d10_19 : decode jdk_42_method_66_code 19 = .ok (.getstatic 38, 3) := by decide +kernel
theorem d10_22 : decode jdk_42_method_66_code 22 = .ok (.ifCond .eq 14, 3) := by decide +kernel
theorem d10_25 : decode jdk_42_method_66_code 25 = .ok (.aload_n 0, 1) := by decide +kernel
theorem d10_26 : decode jdk_42_method_66_code 26 = .ok (.getfield 15, 3) := by decide +kernel
theorem d10_29 : decode jdk_42_method_66_code 29 = .ok (.aload_n 2, 1) := by decide +kernel
theorem d10_30 : decode jdk_42_method_66_code 30 = .ok (.getfield 15, 3) := by decide +kernel
theorem d10_33 : decode jdk_42_method_66_code 33 = .ok (.if_icmp .ne 21, 3) := by decide +kernel
theorem d10_36 : decode jdk_42_method_66_code 36 = .ok (.aload_n 0, 1) := by decide +kernel
theorem d10_37 : decode jdk_42_method_66_code 37 = .ok (.getfield 9, 3) := by decide +kernel
theorem d10_40 : decode jdk_42_method_66_code 40 = .ok (.aload_n 2, 1) := by decide +kernel
theorem d10_41 : decode jdk_42_method_66_code 41 = .ok (.getfield 9, 3) := by decide +kernel
theorem d10_44 : decode jdk_42_method_66_code 44 = .ok (.invokestatic 541, 3) := by decide +kernel
theorem d10_47 : decode jdk_42_method_66_code 47 = .ok (.ifCond .eq 7, 3) := by decide +kernel
theorem d10_50 : decode jdk_42_method_66_code 50 = .ok (.iconst 1, 1) := by decide +kernel
theorem d10_51 : decode jdk_42_method_66_code 51 = .ok (.goto 4, 3) := by decide +kernel
theorem d10_54 : decode jdk_42_method_66_code 54 = .ok (.iconst 0, 1) := by decide +kernel
theorem d10_55 : decode jdk_42_method_66_code 55 = .ok (.ireturn, 1) := by decide +kernel
theorem ef_10s (m : MethodId) (x0 : Addr) : entryFrame m #[(.ref x0), (.ref x0)] 3 = mkF m 0 #[.val (.ref x0), .val (.ref x0), .unset] [] := by first | (simp [entryFrame, mkF, argsToLocals, Value.category]; done) | rfl
def Q10s (Z : State) (a0 : Addr) (h0 : Heap) (n0 : Nat) (v : Option Value) (h : Heap) (L : List Loc) : Prop := v = some (.int (1 : Int32)) ∧ Fr n0 L ∧ h = h0
set_option maxRecDepth 65536 in
set_option maxHeartbeats 40000000 in
theorem rm10s (l : Launch) (Z : State) (aw : Array Value) (hw : ∀ d ∈ tables_1, d.before aw Z = true) (ws : List Jvm.Cond) (a0 : Addr) (h0 : Heap) (n0 : Nat) (Z0 : n0 ≤ h0.size) (r0 : Exa Z h0 a0 "java/lang/String") :
    MetFree l (⟨"java/lang/String", "equals", "(Ljava/lang/Object;)Z"⟩ : MethodName) (head1 (Jvm.Cond.code (⟨"java/lang/String", "equals", "(Ljava/lang/Object;)Z"⟩ : MethodName) jdk_42_method_66_code 3 (some .boolean) :: ws) ({ frames := 0, cells := 0, slots := 0, locals := 0 } : Room)) (fun a U => a = #[(.ref a0), (.ref a0)] ∧ Z.Warmed39 U.vm ∧ U.heap = h0) (fun _ _ _ _ _ => True) (fun _ U o U' => ∃ v L, o = .returned v ∧ Q10s Z a0 h0 n0 v U'.heap L ∧ FrameEnd U o U' L ({ frames := 0, cells := 0, slots := 0, locals := 0 } : Room).cells ({ frames := 0, cells := 0, slots := 0, locals := 0 } : Room).slots) := by
  refine MetFree.of_bodySF (plainFor_of_name pn_3) hisR ?_
  intro p e s m args below meth c s₁ Bd hml0 hP hK
  obtain ⟨rfl, hZ, hh⟩ := hP
  have hx := Bd.exec
  have hby := Bd.bytes
  have hml : c.maxLocals = 3 := hml0
  have hown : s.vm.findClass "java/lang/String" = some m.cls := findClass_of_methodNamed Bd.named
  have hnm := (name_of_methodNamed Bd.named Bd.method).1
  have X0 : Stand p l e ({ frames := 0, cells := 0, slots := 0, locals := 0 } : Room) s m #[(.ref a0), (.ref a0)] below meth c s₁ [] 0 0 := Stand.of_body Bd
  have e0 : s₁.heap = h0 := by rw [← hh, Bd.state]; rfl
  have N0 := Fr.nil n0
  obtain ⟨A0, hA0⟩ : ∃ A0, A0 = s₁.setTop (entryFrame m #[(.ref a0), (.ref a0)] 3) := ⟨_, rfl⟩
  have go0 : Go p e below A0 (s₁.setTop (mkF m 0 #[.val (.ref a0), .val (.ref a0), .unset] [])) := fun t k => by rw [hA0]; exact castTop (ef_10s m a0) k
  have go1 : Go p e below A0 (s₁.setTop (mkF m 6 #[.val (.ref a0), .val (.ref a0), .unset] [(.int (1 : Int32))])) := by
    intro t k
    refine go0 t ?_
    refine o_aloadN X0 hx hby d10_0 1 rfl rfl rfl ?_
    refine o_aloadN X0 hx hby d10_1 2 rfl rfl rfl ?_
    refine o_acmp X0 hx hby d10_2 5 (same := true) rfl rfl (by simp) (by decide) (by decide) ?_
    refine o_iconst X0 hx hby d10_5 6 rfl (v := (1 : Int32)) rfl ?_
    exact k
  have hF : (1 : Int32) = (1 : Int32) := by first | rfl | simp only [*]
  rw [hA0] at go1
  obtain ⟨fs, hr, hrun, hended, hW, hsame⟩ := X0.leave (v := some (.int (1 : Int32))) (fun h => by rw [Bd.returns] at h; cases h)
  refine ⟨_, _, go1 _ (o_retZ X0 hx Bd.returns (hb hby d10_6) (Or.inr rfl) hr), hrun, hended, _, _, rfl, ?_, ⟨_, rfl⟩, hW, hsame.mono (by decide) (by decide)⟩
  show Q10s Z a0 h0 n0 _ s₁.heap _
  rw [e0]
  exact ⟨by rw [← hF], N0, rfl⟩
theorem pd_9 : parseMethodDescriptor "([B[B)Z" = some ⟨[(.array .byte), (.array .byte)], some .boolean⟩ := by decide +kernel
theorem ef_10d (m : MethodId) (x0 : Addr) (x1 : Addr) : entryFrame m #[(.ref x0), (.ref x1)] 3 = mkF m 0 #[.val (.ref x0), .val (.ref x1), .unset] [] := by first | (simp [entryFrame, mkF, argsToLocals, Value.category]; done) | rfl
def Fse (cs : Int32) (n1 : Int32) (x1 : Int32) (y1 : Int32) (n2 : Int32) (x2 : Int32) (y2 : Int32) : Int32 := let v1 : Int32 := (Fle n1 x1 y1 n2 x2 y2); let v2 : Int32 := (if v1 = (0 : Int32) then (0 : Int32) else (1 : Int32)); v2
def Q10d (Z : State) (a0 : Addr) (a1 : Addr) (d1 : Addr) (d2 : Addr) (ka : ClassId) (kb : ClassId) (cs : Int32) (n1 : Int32) (x1 : Int32) (y1 : Int32) (n2 : Int32) (x2 : Int32) (y2 : Int32) (h0 : Heap) (n0 : Nat) (v : Option Value) (h : Heap) (L : List Loc) : Prop := v = some (.int (Fse cs n1 x1 y1 n2 x2 y2)) ∧ Fr n0 L ∧ h = h0
set_option maxRecDepth 65536 in
set_option maxHeartbeats 40000000 in
theorem rm10d (l : Launch) (Z : State) (aw : Array Value) (hw : ∀ d ∈ tables_1, d.before aw Z = true) (ws : List Jvm.Cond) (a0 : Addr) (a1 : Addr) (d1 : Addr) (d2 : Addr) (ka : ClassId) (kb : ClassId) (cs : Int32) (n1 : Int32) (x1 : Int32) (y1 : Int32) (n2 : Int32) (x2 : Int32) (y2 : Int32) (h0 : Heap) (n0 : Nat) (Z0 : n0 ≤ h0.size) (r0 : Exa Z h0 a0 "java/lang/String") (r1 : Fld Z h0 a0 "java/lang/String" "value" "[B" (.ref d1)) (r2 : Fld Z h0 a0 "java/lang/String" "coder" "B" (.int (0 : Int32))) (r3 : Arv Z h0 d1 ka .byte n1 (own_vs n1 x1 y1) (.int (0 : Int32))) (r4 : Exa Z h0 a1 "java/lang/String") (r5 : Fld Z h0 a1 "java/lang/String" "value" "[B" (.ref d2)) (r6 : Fld Z h0 a1 "java/lang/String" "coder" "B" (.int (0 : Int32))) (r7 : Arv Z h0 d2 kb .byte n2 (own_vs n2 x2 y2) (.int (0 : Int32))) (r8 : a0 ≠ a1) (hn : (n1 = 0 ∨ n1 = 1 ∨ n1 = 2)) (r10 : Sta Z Z.heap "java/lang/String" "COMPACT_STRINGS" "Z" (.int cs)) (r11 : Old Z n0 h0) (hcs : (¬ (cs = 0))) :
    MetFree l (⟨"java/lang/String", "equals", "(Ljava/lang/Object;)Z"⟩ : MethodName) (head1 (Jvm.Cond.code (⟨"java/lang/String", "equals", "(Ljava/lang/Object;)Z"⟩ : MethodName) jdk_42_method_66_code 3 (some .boolean) :: ws) ({ frames := 1, cells := 0, slots := 0, locals := 14 } : Room)) (fun a U => a = #[(.ref a0), (.ref a1)] ∧ Z.Warmed39 U.vm ∧ U.heap = h0) (fun _ _ _ _ _ => True) (fun _ U o U' => ∃ v L, o = .returned v ∧ Q10d Z a0 a1 d1 d2 ka kb cs n1 x1 y1 n2 x2 y2 h0 n0 v U'.heap L ∧ FrameEnd U o U' L ({ frames := 1, cells := 0, slots := 0, locals := 14 } : Room).cells ({ frames := 1, cells := 0, slots := 0, locals := 14 } : Room).slots) := by
  refine MetFree.of_bodySF (plainFor_of_name pn_3) hisR ?_
  intro p e s m args below meth c s₁ Bd hml0 hP hK
  obtain ⟨rfl, hZ, hh⟩ := hP
  have hx := Bd.exec
  have hby := Bd.bytes
  have hml : c.maxLocals = 3 := hml0
  have hown : s.vm.findClass "java/lang/String" = some m.cls := findClass_of_methodNamed Bd.named
  have hnm := (name_of_methodNamed Bd.named Bd.method).1
  have X0 : Stand p l e ({ frames := 1, cells := 0, slots := 0, locals := 14 } : Room) s m #[(.ref a0), (.ref a1)] below meth c s₁ [] 0 0 := Stand.of_body Bd
  have e0 : s₁.heap = h0 := by rw [← hh, Bd.state]; rfl
  have N0 := Fr.nil n0
  obtain ⟨A0, hA0⟩ : ∃ A0, A0 = s₁.setTop (entryFrame m #[(.ref a0), (.ref a1)] 3) := ⟨_, rfl⟩
  have go0 : Go p e below A0 (s₁.setTop (mkF m 0 #[.val (.ref a0), .val (.ref a1), .unset] [])) := fun t k => by rw [hA0]; exact castTop (ef_10d m a0 a1) k
  obtain ⟨T1, X1, e1, st1⟩ := instY X0 hx hZ hown (hw _ (List.mem_of_getElem? (i := 63) rfl)) e0 (Ins.self r4) (g := (mkF m 8 #[.val (.ref a0), .val (.ref a1), .unset] [(.ref a1)])) rfl rfl (hb hby d10_8)
  obtain ⟨T2, X2, e2, st2⟩ := castY X1 hx hZ hown (hw _ (List.mem_of_getElem? (i := 63) rfl)) e1 (Ins.self r4) (g := (mkF m 15 #[.val (.ref a0), .val (.ref a1), .unset] [(.ref a1)])) rfl rfl (hb hby d10_15)
  obtain ⟨T3, X3, e3, st3⟩ := getS2 X2 hx hZ hown (host := "") (Or.inl (hw _ (List.mem_of_getElem? (i := 19) rfl))) Via.refl e2 (r10.ext r11.2) (g := (mkF m 19 #[.val (.ref a0), .val (.ref a1), .val (.ref a1)] [])) rfl (hb hby d10_19)
  obtain ⟨T4, X4, e4, st4⟩ := getF X3 hx hZ hown (host := "") (Or.inl (hw _ (List.mem_of_getElem? (i := 31) rfl))) Via.refl e3 r2 (g := (mkF m 26 #[.val (.ref a0), .val (.ref a1), .val (.ref a1)] [(.ref a0)])) rfl rfl (hb hby d10_26)
  obtain ⟨T5, X5, e5, st5⟩ := getF X4 hx hZ hown (host := "") (Or.inl (hw _ (List.mem_of_getElem? (i := 31) rfl))) Via.refl e4 r6 (g := (mkF m 30 #[.val (.ref a0), .val (.ref a1), .val (.ref a1)] [(.ref a1), (.int (0 : Int32))])) rfl rfl (hb hby d10_30)
  obtain ⟨T6, X6, e6, st6⟩ := getF X5 hx hZ hown (host := "") (Or.inl (hw _ (List.mem_of_getElem? (i := 33) rfl))) Via.refl e5 r1 (g := (mkF m 37 #[.val (.ref a0), .val (.ref a1), .val (.ref a1)] [(.ref a0)])) rfl rfl (hb hby d10_37)
  obtain ⟨T7, X7, e7, st7⟩ := getF X6 hx hZ hown (host := "") (Or.inl (hw _ (List.mem_of_getElem? (i := 33) rfl))) Via.refl e6 r5 (g := (mkF m 41 #[.val (.ref a0), .val (.ref a1), .val (.ref a1)] [(.ref a1), (.ref d1)])) rfl rfl (hb hby d10_41)
  have go1 : Go p e below A0 (T7.setTop (mkF m 44 #[.val (.ref a0), .val (.ref a1), .val (.ref a1)] [(.ref d2), (.ref d1)])) := by
    intro t k
    refine go0 t ?_
    refine o_aloadN X0 hx hby d10_0 1 rfl rfl rfl ?_
    refine o_aloadN X0 hx hby d10_1 2 rfl rfl rfl ?_
    refine o_acmp X0 hx hby d10_2 7 (same := false) rfl rfl (decide_eq_false (fun h => r8 (Value.ref.inj h))) (by decide) (by decide) ?_
    refine o_aloadN X0 hx hby d10_7 8 rfl rfl rfl ?_
    refine st1 _ ?_
    show Steps p.tables e below (T1.setTop (mkF m 11 #[.val (.ref a0), .val (.ref a1), .unset] [(.int (1 : Int32))])) _
    refine o_ifN X1 hx hby d10_11 14 rfl (feq (show ¬ ((1 : Int32) = (0 : Int32)) by decide)).1 ?_
    refine o_aloadN X1 hx hby d10_14 15 rfl rfl rfl ?_
    refine st2 _ ?_
    show Steps p.tables e below (T2.setTop (mkF m 18 #[.val (.ref a0), .val (.ref a1), .unset] [(.ref a1)])) _
    refine o_astoreN X2 hx hby d10_18 19 rfl rfl (l' := #[.val (.ref a0), .val (.ref a1), .val (.ref a1)]) rfl ?_
    refine st3 _ ?_
    show Steps p.tables e below (T3.setTop (mkF m 22 #[.val (.ref a0), .val (.ref a1), .val (.ref a1)] [(.int cs)])) _
    refine o_ifN X3 hx hby d10_22 25 rfl (feq (hcs)).1 ?_
    refine o_aloadN X3 hx hby d10_25 26 rfl rfl rfl ?_
    refine st4 _ ?_
    show Steps p.tables e below (T4.setTop (mkF m 29 #[.val (.ref a0), .val (.ref a1), .val (.ref a1)] [(.int (0 : Int32))])) _
    refine o_aloadN X4 hx hby d10_29 30 rfl rfl rfl ?_
    refine st5 _ ?_
    show Steps p.tables e below (T5.setTop (mkF m 33 #[.val (.ref a0), .val (.ref a1), .val (.ref a1)] [(.int (0 : Int32)), (.int (0 : Int32))])) _
    refine o_icmpN X5 hx hby d10_33 36 rfl (teq (show (0 : Int32) = (0 : Int32) by decide)).2 ?_
    refine o_aloadN X5 hx hby d10_36 37 rfl rfl rfl ?_
    refine st6 _ ?_
    show Steps p.tables e below (T6.setTop (mkF m 40 #[.val (.ref a0), .val (.ref a1), .val (.ref a1)] [(.ref d1)])) _
    refine o_aloadN X6 hx hby d10_40 41 rfl rfl rfl ?_
    refine st7 _ ?_
    show Steps p.tables e below (T7.setTop (mkF m 44 #[.val (.ref a0), .val (.ref a1), .val (.ref a1)] [(.ref d2), (.ref d1)])) _
    exact k
  obtain ⟨_, _, ⟨T8, L8, k8, n8⟩, -, X8, ⟨Lc8, hQ8, l8, y8, z8⟩, st8⟩ := Jvm.LawKit.callS X7 hx (y := (⟨"java/lang/StringLatin1", "equals", "([B[B)Z"⟩ : MethodName)) hown (mvT hZ (hw _ (List.mem_of_getElem? (i := 64) rfl))) (mvT hZ (hw _ (List.mem_of_getElem? (i := 65) rfl))) (mvT hZ (hw _ (List.mem_of_getElem? (i := 66) rfl))) (mvT hZ (hw _ (List.mem_of_getElem? (i := 67) rfl))) (by decide) (backOf (W := 0) (rm11 l Z aw hw [] d1 d2 ka kb n1 x1 y1 n2 x2 y2 h0 n0 Z0 (r3) (r7) (hn)) hZ (hw _ (List.mem_of_getElem? (i := 67) rfl)) (hw _ (List.mem_of_getElem? (i := 66) rfl)) (by decide) (by decide)) (g := (mkF m 44 #[.val (.ref a0), .val (.ref a1), .val (.ref a1)] [(.ref d2), (.ref d1)])) rfl (by rw [hml]; rfl) (argsL := [(.ref d1), (.ref d2)]) (rest := []) (lenOf pd_9 rfl) rfl (by show 2 * 0 + _ ≤ _; exact Nat.le_of_eq rfl) (hb hby d10_44) (fun _ _ => ⟨rfl, e7, (by decide : 0 + 0 ≤ _), (by decide : 0 + 0 ≤ _)⟩)
  dsimp only [Pt.U, Pt.locs, Pt.cells, Pt.slots] at X8 l8 y8 z8 st8 hQ8
  subst l8 y8 z8
  obtain ⟨rfl, N8q, e8⟩ := hQ8
  have N8 := Fr.app N0 N8q
  have go2 : Go p e below A0 (T8.setTop (mkF m 47 #[.val (.ref a0), .val (.ref a1), .val (.ref a1)] [(.int (Fle n1 x1 y1 n2 x2 y2))])) := by
    intro t k
    refine go1 t ?_
    refine st8 _ ?_
    show Steps p.tables e below (T8.setTop (mkF m 47 #[.val (.ref a0), .val (.ref a1), .val (.ref a1)] [(.int (Fle n1 x1 y1 n2 x2 y2))])) _
    exact k
  obtain ⟨v1, hv1, go3⟩ : ∃ v1 : Int32, v1 = (Fle n1 x1 y1 n2 x2 y2) ∧ Go p e below A0 (T8.setTop (mkF m 47 #[.val (.ref a0), .val (.ref a1), .val (.ref a1)] [(.int v1)])) := ⟨_, rfl, go2⟩
  obtain ⟨v2, hv2, go6⟩ : ∃ (v2 : Int32), v2 = (if v1 = (0 : Int32) then (0 : Int32) else (1 : Int32)) ∧ Go p e below A0 (T8.setTop (mkF m 55 #[.val (.ref a0), .val (.ref a1), .val (.ref a1)] [(.int v2)])) := by
    by_cases hc47_9 : v1 = (0 : Int32)
    · have go4 : Go p e below A0 (T8.setTop (mkF m 55 #[.val (.ref a0), .val (.ref a1), .val (.ref a1)] [(.int (0 : Int32))])) := by
        intro t k
        refine go3 t ?_
        refine o_ifY X8 hx hby d10_47 54 rfl (teq hc47_9).1 ?_
        refine o_iconst X8 hx hby d10_54 55 rfl (v := (0 : Int32)) rfl ?_
        exact k
      exact ⟨(0 : Int32), (if_pos hc47_9).symm, go4⟩
    · have go5 : Go p e below A0 (T8.setTop (mkF m 55 #[.val (.ref a0), .val (.ref a1), .val (.ref a1)] [(.int (1 : Int32))])) := by
        intro t k
        refine go3 t ?_
        refine o_ifN X8 hx hby d10_47 50 rfl (feq hc47_9).1 ?_
        refine o_iconst X8 hx hby d10_50 51 rfl (v := (1 : Int32)) rfl ?_
        refine o_goto X8 hx hby d10_51 55 rfl ?_
        exact k
      exact ⟨(1 : Int32), (if_neg hc47_9).symm, go5⟩
  have hF : v2 = (Fse cs n1 x1 y1 n2 x2 y2) := by simp only [Fse, hv1, hv2]
  rw [hA0] at go6
  obtain ⟨fs, hr, hrun, hended, hW, hsame⟩ := X8.leave (v := some (.int v2)) (fun h => by rw [Bd.returns] at h; cases h)
  refine ⟨_, _, go6 _ (o_retZ X8 hx Bd.returns (hb hby d10_55) (by rw [hv2]; (repeat' split) <;> first | exact Or.inl rfl | exact Or.inr rfl) hr), hrun, hended, _, _, rfl, ?_, ⟨_, rfl⟩, hW, hsame.mono (by decide) (by decide)⟩
  show Q10d Z a0 a1 d1 d2 ka kb cs n1 x1 y1 n2 x2 y2 h0 n0 _ T8.heap _
  rw [e8]
  exact ⟨by rw [← hF], N8, rfl⟩
theorem d8_0 : decode prog_14_method_1_code 0 = .ok (.aload_n 0, 1) := by decide +kernel
theorem d8_1 : decode prog_14_method_1_code 1 = .ok (.invokespecial 1, 3) := by decide +kernel
theorem d8_4 : decode prog_14_method_1_code 4 = .ok (.aload_n 0, 1) := by decide +kernel
theorem d8_5 : decode prog_14_method_1_code 5 = .ok (.iload_n 1, 1) := by decide +kernel
theorem d8_6 : decode prog_14_method_1_code 6 = .ok (.putfield 7, 3) := by decide +kernel
theorem d8_9 : decode prog_14_method_1_code 9 = .ok (.aload_n 0, 1) := by decide +kernel
theorem d8_10 : decode prog_14_method_1_code 10 = .ok (.aload_n 2, 1) := by decide +kernel
theorem d8_11 : decode prog_14_method_1_code 11 = .ok (.putfield 13, 3) := by decide +kernel
theorem d8_14 : decode prog_14_method_1_code 14 = .ok (.return_, 1) := by decide +kernel
theorem pn_8 : plainName "com/example/racelint/racelint/check/Schedule$Choice" = true := by first | (simp [plainName, overriddenIn]; done) | decide +kernel
theorem ef_8 (m : MethodId) (x0 : Addr) (x1 : Int32) (x2 : Addr) : entryFrame m #[(.ref x0), (.int x1), (.ref x2)] 3 = mkF m 0 #[.val (.ref x0), .val (.int x1), .val (.ref x2)] [] := by first | (simp [entryFrame, mkF, argsToLocals, Value.category]; done) | rfl
def Q8 (Z : State) (a0 : Addr) (p1 : Int32) (a2 : Addr) (h0 : Heap) (n0 : Nat) (v : Option Value) (h : Heap) (L : List Loc) : Prop := v = none ∧ Fr n0 L ∧ Keep h0 h [a0] ∧ Fld Z h a0 "com/example/racelint/racelint/check/Schedule$Choice" "thread" "I" (.int p1) ∧ Fld Z h a0 "com/example/racelint/racelint/check/Schedule$Choice" "name" "Ljava/lang/String;" (.ref a2) ∧ True
set_option maxRecDepth 65536 in
set_option maxHeartbeats 40000000 in
theorem rm8 (l : Launch) (Z : State) (aw : Array Value) (hw : ∀ d ∈ tables_1, d.before aw Z = true) (ws : List Jvm.Cond) (a0 : Addr) (p1 : Int32) (a2 : Addr) (h0 : Heap) (n0 : Nat) (Z0 : n0 ≤ h0.size) (r0 : Exa Z h0 a0 "com/example/racelint/racelint/check/Schedule$Choice") (r1 : n0 ≤ a0) (r2 : Fld Z h0 a0 "com/example/racelint/racelint/check/Schedule$Choice" "thread" "I" (.int (0 : Int32))) (r3 : Fld Z h0 a0 "com/example/racelint/racelint/check/Schedule$Choice" "name" "Ljava/lang/String;" .null) :
    MetFree l (⟨"com/example/racelint/racelint/check/Schedule$Choice", "<init>", "(ILjava/lang/String;)V"⟩ : MethodName) (head1 (Jvm.Cond.code (⟨"com/example/racelint/racelint/check/Schedule$Choice", "<init>", "(ILjava/lang/String;)V"⟩ : MethodName) prog_14_method_1_code 3 none :: ws) ({ frames := 1, cells := 0, slots := 0, locals := 12 } : Room)) (fun a U => a = #[(.ref a0), (.int p1), (.ref a2)] ∧ Z.Warmed39 U.vm ∧ U.heap = h0) (fun _ _ _ _ _ => True) (fun _ U o U' => ∃ v L, o = .returned v ∧ Q8 Z a0 p1 a2 h0 n0 v U'.heap L ∧ FrameEnd U o U' L ({ frames := 1, cells := 0, slots := 0, locals := 12 } : Room).cells ({ frames := 1, cells := 0, slots := 0, locals := 12 } : Room).slots) := by
  refine MetFree.of_bodySF (plainFor_of_name pn_8) hisR ?_
  intro p e s m args below meth c s₁ Bd hml0 hP hK
  obtain ⟨rfl, hZ, hh⟩ := hP
  have hx := Bd.exec
  have hby := Bd.bytes
  have hml : c.maxLocals = 3 := hml0
  have hown : s.vm.findClass "com/example/racelint/racelint/check/Schedule$Choice" = some m.cls := findClass_of_methodNamed Bd.named
  have hnm := (name_of_methodNamed Bd.named Bd.method).1
  have X0 : Stand p l e ({ frames := 1, cells := 0, slots := 0, locals := 12 } : Room) s m #[(.ref a0), (.int p1), (.ref a2)] below meth c s₁ [] 0 0 := Stand.of_body Bd
  have e0 : s₁.heap = h0 := by rw [← hh, Bd.state]; rfl
  have N0 := Fr.nil n0
  obtain ⟨A0, hA0⟩ : ∃ A0, A0 = s₁.setTop (entryFrame m #[(.ref a0), (.int p1), (.ref a2)] 3) := ⟨_, rfl⟩
  have go0 : Go p e below A0 (s₁.setTop (mkF m 0 #[.val (.ref a0), .val (.int p1), .val (.ref a2)] [])) := fun t k => by rw [hA0]; exact castTop (ef_8 m a0 p1 a2) k
  obtain ⟨T1, X1, e1, st1⟩ := initO X0 hx hZ hown (hw _ (List.mem_of_getElem? (i := 41) rfl)) (hw _ (List.mem_of_getElem? (i := 17) rfl)) (hw _ (List.mem_of_getElem? (i := 18) rfl)) e0 (g := (mkF m 1 #[.val (.ref a0), .val (.int p1), .val (.ref a2)] [(.ref a0)])) rfl (by rw [hml]; rfl) rfl (hb hby d8_1) (by decide) (W := 0) (by show 2 * 0 + _ ≤ _; exact Nat.le_of_eq rfl) (by decide)
  have go1 : Go p e below A0 (T1.setTop (mkF m 6 #[.val (.ref a0), .val (.int p1), .val (.ref a2)] [(.int p1), (.ref a0)])) := by
    intro t k
    refine go0 t ?_
    refine o_aloadN X0 hx hby d8_0 1 rfl rfl rfl ?_
    refine st1 _ ?_
    refine o_aloadN X1 hx hby d8_4 5 rfl rfl rfl ?_
    refine o_iloadN X1 hx hby d8_5 6 rfl rfl ?_
    exact k
  obtain ⟨T2, h2, X2, e2, W2, st2⟩ := putF X1 hx hZ hown (host := "") (Or.inl (hw _ (List.mem_of_getElem? (i := 42) rfl))) Via.refl e1 r2 r0 (Or.inr ⟨(hw _ (List.mem_of_getElem? (i := 43) rfl)), rfl, hnm⟩) (hw _ (List.mem_of_getElem? (i := 36) rfl)) (ty := .int) (by decide) rfl rfl (g := (mkF m 6 #[.val (.ref a0), .val (.int p1), .val (.ref a2)] [(.int p1), (.ref a0)])) rfl rfl (hb hby d8_6)
  have f1 : Exa Z h2 a0 "com/example/racelint/racelint/check/Schedule$Choice" := r0.wr W2
  have f2 : Fld Z h2 a0 "com/example/racelint/racelint/check/Schedule$Choice" "name" "Ljava/lang/String;" .null := r3.other W2 (Or.inr (slot_ne (Or.inr (hw _ (List.mem_of_getElem? (i := 45) rfl))) (Or.inr (hw _ (List.mem_of_getElem? (i := 43) rfl))) (by decide) (t := (.object "java/lang/String")) (t' := .int) (by decide) (by decide)))
  have Zp2 : n0 ≤ h2.size := Nat.le_trans Z0 (Keep.of_wr W2).1
  have K2 : Keep h0 h2 [a0] := (Keep.refl h0 [a0]).wr W2 (Or.inl (List.mem_of_getElem? (i := 0) rfl))
  have N2 := Fr.snoc X2 N0 r1
  have f3 : Fld Z h2 a0 "com/example/racelint/racelint/check/Schedule$Choice" "thread" "I" (.int p1) := r2.same W2
  have go2 : Go p e below A0 (T2.setTop (mkF m 11 #[.val (.ref a0), .val (.int p1), .val (.ref a2)] [(.ref a2), (.ref a0)])) := by
    intro t k
    refine go1 t ?_
    refine st2 _ ?_
    show Steps p.tables e below (T2.setTop (mkF m 9 #[.val (.ref a0), .val (.int p1), .val (.ref a2)] [])) _
    refine o_aloadN X2 hx hby d8_9 10 rfl rfl rfl ?_
    refine o_aloadN X2 hx hby d8_10 11 rfl rfl rfl ?_
    exact k
  obtain ⟨T3, h3, X3, e3, W3, st3⟩ := putF X2 hx hZ hown (host := "") (Or.inl (hw _ (List.mem_of_getElem? (i := 44) rfl))) Via.refl e2 f2 f1 (Or.inr ⟨(hw _ (List.mem_of_getElem? (i := 45) rfl)), rfl, hnm⟩) (hw _ (List.mem_of_getElem? (i := 36) rfl)) (ty := (.object "java/lang/String")) (by decide) rfl rfl (g := (mkF m 11 #[.val (.ref a0), .val (.int p1), .val (.ref a2)] [(.ref a2), (.ref a0)])) rfl rfl (hb hby d8_11)
  have f4 : Exa Z h3 a0 "com/example/racelint/racelint/check/Schedule$Choice" := f1.wr W3
  have f5 : Fld Z h3 a0 "com/example/racelint/racelint/check/Schedule$Choice" "thread" "I" (.int p1) := f3.other W3 (Or.inr (slot_ne (Or.inr (hw _ (List.mem_of_getElem? (i := 43) rfl))) (Or.inr (hw _ (List.mem_of_getElem? (i := 45) rfl))) (by decide) (t := .int) (t' := (.object "java/lang/String")) (by decide) (by decide)))
  have Zp3 : n0 ≤ h3.size := Nat.le_trans Zp2 (Keep.of_wr W3).1
  have K3 : Keep h0 h3 [a0] := K2.wr W3 (Or.inl (List.mem_of_getElem? (i := 0) rfl))
  have N3 := Fr.snoc X3 N2 r1
  have f6 : Fld Z h3 a0 "com/example/racelint/racelint/check/Schedule$Choice" "name" "Ljava/lang/String;" (.ref a2) := f2.same W3
  have go3 : Go p e below A0 (T3.setTop (mkF m 14 #[.val (.ref a0), .val (.int p1), .val (.ref a2)] [])) := by
    intro t k
    refine go2 t ?_
    refine st3 _ ?_
    show Steps p.tables e below (T3.setTop (mkF m 14 #[.val (.ref a0), .val (.int p1), .val (.ref a2)] [])) _
    exact k
  rw [hA0] at go3
  obtain ⟨fs, hr, hrun, hended, hW, hsame⟩ := X3.leave (v := none) (fun _ => rfl)
  refine ⟨_, _, go3 _ (X3.returnOut hx Bd.returns (hb hby d8_14) hr), hrun, hended, _, _, rfl, ?_, ⟨_, rfl⟩, hW, hsame.mono (by decide) (by decide)⟩
  show Q8 Z a0 p1 a2 h0 n0 _ T3.heap _
  rw [e3]
  exact ⟨rfl, N3, K3, f5, f6, trivial⟩
theorem d9_0 : decode prog_14_method_5_code 0 = .ok (.aload_n 1, 1) := by decide +kernel
theorem d9_1 : decode prog_14_method_5_code 1 = .ok (.instanceof 8, 3) := by decide +kernel
theorem d9_4 : decode prog_14_method_5_code 4 = .ok (.ifCond .eq 37, 3) := by decide +kernel
theorem d9_7 : decode prog_14_method_5_code 7 = .ok (.aload_n 1, 1) := by decide +kernel
theorem d9_8 : decode prog_14_method_5_code 8 = .ok (.checkcast 8, 3) := by decide +kernel
theorem d9_11 : decode prog_14_method_5_code 11 = .ok (.astore_n 2, 1) := by decide +kernel
theorem d9_12 : decode prog_14_method_5_code 12 = .ok (.aload_n 0, 1) := by decide +kernel
theorem d9_13 : decode prog_14_method_5_code 13 = .ok (.getfield 7, 3) := by decide +kernel
theorem d9_16 : decode prog_14_method_5_code 16 = .ok (.aload_n 2, 1) := by decide +kernel
theorem d9_17 : decode prog_14_method_5_code 17 = .ok (.getfield 7, 3) := by decide +kernel
theorem d9_20 : decode prog_14_method_5_code 20 = .ok (.if_icmp .ne 21, 3) := by decide +kernel
theorem d9_23 : decode prog_14_method_5_code 23 = .ok (.aload_n 0, 1) := by decide +kernel
theorem d9_24 : decode prog_14_method_5_code 24 = .ok (.getfield 13, 3) := by decide +kernel
theorem d9_27 : decode prog_14_method_5_code 27 = .ok (.aload_n 2, 1) := by decide +kernel
theorem d9_28 : decode prog_14_method_5_code 28 = .ok (.getfield 13, 3) := by decide +kernel
theorem d9_31 : decode prog_14_method_5_code 31 = .ok (.invokevirtual 21, 3) := by decide +kernel
theorem d9_34 : decode prog_14_method_5_code 34 = .ok (.ifCond .eq 7, 3) := by decide +kernel
theorem d9_37 : decode prog_14_method_5_code 37 = .ok (.iconst 1, 1) := by decide +kernel
theorem d9_38 : decode prog_14_method_5_code 38 = .ok (.goto 4, 3) := by decide +kernel
theorem d9_41 : decode prog_14_method_5_code 41 = .ok (.iconst 0, 1) := by decide +kernel
theorem d9_42 : decode prog_14_method_5_code 42 = .ok (.ireturn, 1) := by decide +kernel
theorem ef_9n (m : MethodId) (x0 : Addr) : entryFrame m #[(.ref x0), .null] 3 = mkF m 0 #[.val (.ref x0), .val .null, .unset] [] := by first | (simp [entryFrame, mkF, argsToLocals, Value.category]; done) | rfl
def Q9n (Z : State) (a0 : Addr) (h0 : Heap) (n0 : Nat) (v : Option Value) (h : Heap) (L : List Loc) : Prop := v = some (.int (0 : Int32)) ∧ Fr n0 L ∧ h = h0
set_option maxRecDepth 65536 in
set_option maxHeartbeats 40000000 in
theorem rm9n (l : Launch) (Z : State) (aw : Array Value) (hw : ∀ d ∈ tables_1, d.before aw Z = true) (ws : List Jvm.Cond) (a0 : Addr) (h0 : Heap) (n0 : Nat) (Z0 : n0 ≤ h0.size) (r0 : Exa Z h0 a0 "com/example/racelint/racelint/check/Schedule$Choice") :
    MetFree l (⟨"com/example/racelint/racelint/check/Schedule$Choice", "equals", "(Ljava/lang/Object;)Z"⟩ : MethodName) (head1 (Jvm.Cond.code (⟨"com/example/racelint/racelint/check/Schedule$Choice", "equals", "(Ljava/lang/Object;)Z"⟩ : MethodName) prog_14_method_5_code 3 (some .boolean) :: ws) ({ frames := 0, cells := 0, slots := 0, locals := 0 } : Room)) (fun a U => a = #[(.ref a0), .null] ∧ Z.Warmed39 U.vm ∧ U.heap = h0) (fun _ _ _ _ _ => True) (fun _ U o U' => ∃ v L, o = .returned v ∧ Q9n Z a0 h0 n0 v U'.heap L ∧ FrameEnd U o U' L ({ frames := 0, cells := 0, slots := 0, locals := 0 } : Room).cells ({ frames := 0, cells := 0, slots := 0, locals := 0 } : Room).slots) := by
  refine MetFree.of_bodySF (plainFor_of_name pn_8) hisR ?_
  intro p e s m args below meth c s₁ Bd hml0 hP hK
  obtain ⟨rfl, hZ, hh⟩ := hP
  have hx := Bd.exec
  have hby := Bd.bytes
  have hml : c.maxLocals = 3 := hml0
  have hown : s.vm.findClass "com/example/racelint/racelint/check/Schedule$Choice" = some m.cls := findClass_of_methodNamed Bd.named
  have hnm := (name_of_methodNamed Bd.named Bd.method).1
  have X0 : Stand p l e ({ frames := 0, cells := 0, slots := 0, locals := 0 } : Room) s m #[(.ref a0), .null] below meth c s₁ [] 0 0 := Stand.of_body Bd
  have e0 : s₁.heap = h0 := by rw [← hh, Bd.state]; rfl
  have N0 := Fr.nil n0
  obtain ⟨A0, hA0⟩ : ∃ A0, A0 = s₁.setTop (entryFrame m #[(.ref a0), .null] 3) := ⟨_, rfl⟩
  have go0 : Go p e below A0 (s₁.setTop (mkF m 0 #[.val (.ref a0), .val .null, .unset] [])) := fun t k => by rw [hA0]; exact castTop (ef_9n m a0) k
  have go1 : Go p e below A0 (s₁.setTop (mkF m 42 #[.val (.ref a0), .val .null, .unset] [(.int (0 : Int32))])) := by
    intro t k
    refine go0 t ?_
    refine o_aloadN X0 hx hby d9_0 1 rfl rfl rfl ?_
    refine X0.instanceofNull hx (g := (mkF m 1 #[.val (.ref a0), .val .null, .unset] [.null])) rfl rfl (hb hby d9_1) _ ?_
    show Steps p.tables e below (s₁.setTop (mkF m 4 #[.val (.ref a0), .val .null, .unset] [(.int (0 : Int32))])) _
    refine o_ifY X0 hx hby d9_4 41 rfl (teq (show (0 : Int32) = (0 : Int32) by decide)).1 ?_
    refine o_iconst X0 hx hby d9_41 42 rfl (v := (0 : Int32)) rfl ?_
    exact k
  have hF : (0 : Int32) = (0 : Int32) := by first | rfl | simp only [*]
  rw [hA0] at go1
  obtain ⟨fs, hr, hrun, hended, hW, hsame⟩ := X0.leave (v := some (.int (0 : Int32))) (fun h => by rw [Bd.returns] at h; cases h)
  refine ⟨_, _, go1 _ (o_retZ X0 hx Bd.returns (hb hby d9_42) (Or.inl rfl) hr), hrun, hended, _, _, rfl, ?_, ⟨_, rfl⟩, hW, hsame.mono (by decide) (by decide)⟩
  show Q9n Z a0 h0 n0 _ s₁.heap _
  rw [e0]
  exact ⟨by rw [← hF], N0, rfl⟩
theorem ef_9t (m : MethodId) (x0 : Addr) (x1 : Addr) : entryFrame m #[(.ref x0), (.ref x1)] 3 = mkF m 0 #[.val (.ref x0), .val (.ref x1), .unset] [] := by first | (simp [entryFrame, mkF, argsToLocals, Value.category]; done) | rfl
def Q9t (Z : State) (a0 : Addr) (a1 : Addr) (h0 : Heap) (n0 : Nat) (v : Option Value) (h : Heap) (L : List Loc) : Prop := v = some (.int (0 : Int32)) ∧ Fr n0 L ∧ h = h0
set_option maxRecDepth 65536 in
set_option maxHeartbeats 40000000 in
theorem rm9t (l : Launch) (Z : State) (aw : Array Value) (hw : ∀ d ∈ tables_1, d.before aw Z = true) (ws : List Jvm.Cond) (a0 : Addr) (a1 : Addr) (h0 : Heap) (n0 : Nat) (Z0 : n0 ≤ h0.size) (r0 : Exa Z h0 a0 "com/example/racelint/racelint/check/Schedule$Choice") (r1 : Exa Z h0 a1 "java/lang/String") :
    MetFree l (⟨"com/example/racelint/racelint/check/Schedule$Choice", "equals", "(Ljava/lang/Object;)Z"⟩ : MethodName) (head1 (Jvm.Cond.code (⟨"com/example/racelint/racelint/check/Schedule$Choice", "equals", "(Ljava/lang/Object;)Z"⟩ : MethodName) prog_14_method_5_code 3 (some .boolean) :: ws) ({ frames := 0, cells := 0, slots := 0, locals := 0 } : Room)) (fun a U => a = #[(.ref a0), (.ref a1)] ∧ Z.Warmed39 U.vm ∧ U.heap = h0) (fun _ _ _ _ _ => True) (fun _ U o U' => ∃ v L, o = .returned v ∧ Q9t Z a0 a1 h0 n0 v U'.heap L ∧ FrameEnd U o U' L ({ frames := 0, cells := 0, slots := 0, locals := 0 } : Room).cells ({ frames := 0, cells := 0, slots := 0, locals := 0 } : Room).slots) := by
  refine MetFree.of_bodySF (plainFor_of_name pn_8) hisR ?_
  intro p e s m args below meth c s₁ Bd hml0 hP hK
  obtain ⟨rfl, hZ, hh⟩ := hP
  have hx := Bd.exec
  have hby := Bd.bytes
  have hml : c.maxLocals = 3 := hml0
  have hown : s.vm.findClass "com/example/racelint/racelint/check/Schedule$Choice" = some m.cls := findClass_of_methodNamed Bd.named
  have hnm := (name_of_methodNamed Bd.named Bd.method).1
  have X0 : Stand p l e ({ frames := 0, cells := 0, slots := 0, locals := 0 } : Room) s m #[(.ref a0), (.ref a1)] below meth c s₁ [] 0 0 := Stand.of_body Bd
  have e0 : s₁.heap = h0 := by rw [← hh, Bd.state]; rfl
  have N0 := Fr.nil n0
  obtain ⟨A0, hA0⟩ : ∃ A0, A0 = s₁.setTop (entryFrame m #[(.ref a0), (.ref a1)] 3) := ⟨_, rfl⟩
  have go0 : Go p e below A0 (s₁.setTop (mkF m 0 #[.val (.ref a0), .val (.ref a1), .unset] [])) := fun t k => by rw [hA0]; exact castTop (ef_9t m a0 a1) k
  obtain ⟨T1, X1, e1, st1⟩ := instNo X0 hx hZ hown (hw _ (List.mem_of_getElem? (i := 51) rfl)) e0 r1 (own_no (n := 2) (hw _ (List.mem_of_getElem? (i := 56) rfl)) (hw _ (List.mem_of_getElem? (i := 36) rfl)) (NS.step (hw _ (List.mem_of_getElem? (i := 56) rfl)) (own_root (n := 2) (hw _ (List.mem_of_getElem? (i := 57) rfl)) (hw _ (List.mem_of_getElem? (i := 36) rfl)) (by decide)) (by decide)) (by decide)) (g := (mkF m 1 #[.val (.ref a0), .val (.ref a1), .unset] [(.ref a1)])) rfl rfl (hb hby d9_1)
  have go1 : Go p e below A0 (T1.setTop (mkF m 42 #[.val (.ref a0), .val (.ref a1), .unset] [(.int (0 : Int32))])) := by
    intro t k
    refine go0 t ?_
    refine o_aloadN X0 hx hby d9_0 1 rfl rfl rfl ?_
    refine st1 _ ?_
    show Steps p.tables e below (T1.setTop (mkF m 4 #[.val (.ref a0), .val (.ref a1), .unset] [(.int (0 : Int32))])) _
    refine o_ifY X1 hx hby d9_4 41 rfl (teq (show (0 : Int32) = (0 : Int32) by decide)).1 ?_
    refine o_iconst X1 hx hby d9_41 42 rfl (v := (0 : Int32)) rfl ?_
    exact k
  have hF : (0 : Int32) = (0 : Int32) := by first | rfl | simp only [*]
  rw [hA0] at go1
  obtain ⟨fs, hr, hrun, hended, hW, hsame⟩ := X1.leave (v := some (.int (0 : Int32))) (fun h => by rw [Bd.returns] at h; cases h)
  refine ⟨_, _, go1 _ (o_retZ X1 hx Bd.returns (hb hby d9_42) (Or.inl rfl) hr), hrun, hended, _, _, rfl, ?_, ⟨_, rfl⟩, hW, hsame.mono (by decide) (by decide)⟩
  show Q9t Z a0 a1 h0 n0 _ T1.heap _
  rw [e1]
  exact ⟨by rw [← hF], N0, rfl⟩
theorem pd_11 : parseMethodDescriptor "(Ljava/lang/Object;)Z" = some ⟨[(.object "java/lang/Object")], some .boolean⟩ := by decide +kernel
theorem ef_9m (m : MethodId) (x0 : Addr) : entryFrame m #[(.ref x0), (.ref x0)] 3 = mkF m 0 #[.val (.ref x0), .val (.ref x0), .unset] [] := by first | (simp [entryFrame, mkF, argsToLocals, Value.category]; done) | rfl
def Fcm (t1 : Int32) : Int32 := let v1 : Int32 := (if t1 = t1 then (1 : Int32) else (0 : Int32)); v1
def Q9m (Z : State) (a0 : Addr) (t1 : Int32) (s1 : Addr) (h0 : Heap) (n0 : Nat) (v : Option Value) (h : Heap) (L : List Loc) : Prop := v = some (.int (Fcm t1)) ∧ Fr n0 L ∧ h = h0
set_option maxRecDepth 65536 in
set_option maxHeartbeats 40000000 in
theorem rm9m (l : Launch) (Z : State) (aw : Array Value) (hw : ∀ d ∈ tables_1, d.before aw Z = true) (ws : List Jvm.Cond) (a0 : Addr) (t1 : Int32) (s1 : Addr) (h0 : Heap) (n0 : Nat) (Z0 : n0 ≤ h0.size) (r0 : Exa Z h0 a0 "com/example/racelint/racelint/check/Schedule$Choice") (r1 : Fld Z h0 a0 "com/example/racelint/racelint/check/Schedule$Choice" "thread" "I" (.int t1)) (r2 : Fld Z h0 a0 "com/example/racelint/racelint/check/Schedule$Choice" "name" "Ljava/lang/String;" (.ref s1)) (r3 : Exa Z h0 s1 "java/lang/String") :
    MetFree l (⟨"com/example/racelint/racelint/check/Schedule$Choice", "equals", "(Ljava/lang/Object;)Z"⟩ : MethodName) (head1 (Jvm.Cond.code (⟨"com/example/racelint/racelint/check/Schedule$Choice", "equals", "(Ljava/lang/Object;)Z"⟩ : MethodName) prog_14_method_5_code 3 (some .boolean) :: ws) ({ frames := 1, cells := 0, slots := 0, locals := 14 } : Room)) (fun a U => a = #[(.ref a0), (.ref a0)] ∧ Z.Warmed39 U.vm ∧ U.heap = h0) (fun _ _ _ _ _ => True) (fun _ U o U' => ∃ v L, o = .returned v ∧ Q9m Z a0 t1 s1 h0 n0 v U'.heap L ∧ FrameEnd U o U' L ({ frames := 1, cells := 0, slots := 0, locals := 14 } : Room).cells ({ frames := 1, cells := 0, slots := 0, locals := 14 } : Room).slots) := by
  refine MetFree.of_bodySF (plainFor_of_name pn_8) hisR ?_
  intro p e s m args below meth c s₁ Bd hml0 hP hK
  obtain ⟨rfl, hZ, hh⟩ := hP
  have hx := Bd.exec
  have hby := Bd.bytes
  have hml : c.maxLocals = 3 := hml0
  have hown : s.vm.findClass "com/example/racelint/racelint/check/Schedule$Choice" = some m.cls := findClass_of_methodNamed Bd.named
  have hnm := (name_of_methodNamed Bd.named Bd.method).1
  have X0 : Stand p l e ({ frames := 1, cells := 0, slots := 0, locals := 14 } : Room) s m #[(.ref a0), (.ref a0)] below meth c s₁ [] 0 0 := Stand.of_body Bd
  have e0 : s₁.heap = h0 := by rw [← hh, Bd.state]; rfl
  have N0 := Fr.nil n0
  obtain ⟨A0, hA0⟩ : ∃ A0, A0 = s₁.setTop (entryFrame m #[(.ref a0), (.ref a0)] 3) := ⟨_, rfl⟩
  have go0 : Go p e below A0 (s₁.setTop (mkF m 0 #[.val (.ref a0), .val (.ref a0), .unset] [])) := fun t k => by rw [hA0]; exact castTop (ef_9m m a0) k
  obtain ⟨T1, X1, e1, st1⟩ := instY X0 hx hZ hown (hw _ (List.mem_of_getElem? (i := 51) rfl)) e0 (Ins.self r0) (g := (mkF m 1 #[.val (.ref a0), .val (.ref a0), .unset] [(.ref a0)])) rfl rfl (hb hby d9_1)
  obtain ⟨T2, X2, e2, st2⟩ := castY X1 hx hZ hown (hw _ (List.mem_of_getElem? (i := 51) rfl)) e1 (Ins.self r0) (g := (mkF m 8 #[.val (.ref a0), .val (.ref a0), .unset] [(.ref a0)])) rfl rfl (hb hby d9_8)
  obtain ⟨T3, X3, e3, st3⟩ := getF X2 hx hZ hown (host := "") (Or.inl (hw _ (List.mem_of_getElem? (i := 42) rfl))) Via.refl e2 r1 (g := (mkF m 13 #[.val (.ref a0), .val (.ref a0), .val (.ref a0)] [(.ref a0)])) rfl rfl (hb hby d9_13)
  obtain ⟨T4, X4, e4, st4⟩ := getF X3 hx hZ hown (host := "") (Or.inl (hw _ (List.mem_of_getElem? (i := 42) rfl))) Via.refl e3 r1 (g := (mkF m 17 #[.val (.ref a0), .val (.ref a0), .val (.ref a0)] [(.ref a0), (.int t1)])) rfl rfl (hb hby d9_17)
  have go1 : Go p e below A0 (T4.setTop (mkF m 20 #[.val (.ref a0), .val (.ref a0), .val (.ref a0)] [(.int t1), (.int t1)])) := by
    intro t k
    refine go0 t ?_
    refine o_aloadN X0 hx hby d9_0 1 rfl rfl rfl ?_
    refine st1 _ ?_
    show Steps p.tables e below (T1.setTop (mkF m 4 #[.val (.ref a0), .val (.ref a0), .unset] [(.int (1 : Int32))])) _
    refine o_ifN X1 hx hby d9_4 7 rfl (feq (show ¬ ((1 : Int32) = (0 : Int32)) by decide)).1 ?_
    refine o_aloadN X1 hx hby d9_7 8 rfl rfl rfl ?_
    refine st2 _ ?_
    show Steps p.tables e below (T2.setTop (mkF m 11 #[.val (.ref a0), .val (.ref a0), .unset] [(.ref a0)])) _
    refine o_astoreN X2 hx hby d9_11 12 rfl rfl (l' := #[.val (.ref a0), .val (.ref a0), .val (.ref a0)]) rfl ?_
    refine o_aloadN X2 hx hby d9_12 13 rfl rfl rfl ?_
    refine st3 _ ?_
    show Steps p.tables e below (T3.setTop (mkF m 16 #[.val (.ref a0), .val (.ref a0), .val (.ref a0)] [(.int t1)])) _
    refine o_aloadN X3 hx hby d9_16 17 rfl rfl rfl ?_
    refine st4 _ ?_
    show Steps p.tables e below (T4.setTop (mkF m 20 #[.val (.ref a0), .val (.ref a0), .val (.ref a0)] [(.int t1), (.int t1)])) _
    exact k
  obtain ⟨T9, l9, v1, X9, N9, e9, hv1, go4⟩ : ∃ (T9 : State) (l9 : List Loc) (v1 : Int32), Stand p l e ({ frames := 1, cells := 0, slots := 0, locals := 14 } : Room) s m #[(.ref a0), (.ref a0)] below meth c T9 l9 0 0 ∧ Fr n0 l9 ∧ T9.heap = h0 ∧ v1 = (if t1 = t1 then (1 : Int32) else (0 : Int32)) ∧ Go p e below A0 (T9.setTop (mkF m 42 #[.val (.ref a0), .val (.ref a0), .val (.ref a0)] [(.int v1)])) := by
    by_cases hc20_5 : t1 = t1
    · obtain ⟨T6, X6, e6, st6⟩ := getF X4 hx hZ hown (host := "") (Or.inl (hw _ (List.mem_of_getElem? (i := 44) rfl))) Via.refl e4 r2 (g := (mkF m 24 #[.val (.ref a0), .val (.ref a0), .val (.ref a0)] [(.ref a0)])) rfl rfl (hb hby d9_24)
      obtain ⟨T7, X7, e7, st7⟩ := getF X6 hx hZ hown (host := "") (Or.inl (hw _ (List.mem_of_getElem? (i := 44) rfl))) Via.refl e6 r2 (g := (mkF m 28 #[.val (.ref a0), .val (.ref a0), .val (.ref a0)] [(.ref a0), (.ref s1)])) rfl rfl (hb hby d9_28)
      obtain ⟨cq8, kq8, q8a, q8b, q8c⟩ := isOf hZ e7 r3
      obtain ⟨_, _, ⟨T8, L8, k8, n8⟩, -, X8, ⟨Lc8, hQ8, l8, y8, z8⟩, st8⟩ := X7.virtualBack hx (y := (⟨"java/lang/String", "equals", "(Ljava/lang/Object;)Z"⟩ : MethodName)) (z := (⟨"java/lang/String", "equals", "(Ljava/lang/Object;)Z"⟩ : MethodName)) hown (mvT hZ (hw _ (List.mem_of_getElem? (i := 58) rfl))) (mvT hZ (hw _ (List.mem_of_getElem? (i := 59) rfl))) (notFace_of_selects (args := #[]) (mvT hZ (hw _ (List.mem_of_getElem? (i := 61) rfl)))) (mvT hZ (hw _ (List.mem_of_getElem? (i := 61) rfl))) (mvT hZ (hw _ (List.mem_of_getElem? (i := 60) rfl))) (by decide) (backOf (W := 0) (rm10s l Z aw hw [] s1 h0 n0 Z0 (r3)) hZ (hw _ (List.mem_of_getElem? (i := 62) rfl)) (hw _ (List.mem_of_getElem? (i := 8) rfl)) (by decide) (by decide)) q8a q8c (g := (mkF m 31 #[.val (.ref a0), .val (.ref a0), .val (.ref a0)] [(.ref s1), (.ref s1)])) rfl (by rw [hml]; rfl) (Steps.refl _) (argsL := [(.ref s1)]) (rest := []) (lenOf pd_11 rfl) rfl (by show 2 * 0 + _ ≤ _; exact Nat.le_of_eq rfl) (hb hby d9_31) (fun _ _ => ⟨rfl, e7, (by decide : 0 + 0 ≤ _), (by decide : 0 + 0 ≤ _)⟩)
      dsimp only [Pt.U, Pt.locs, Pt.cells, Pt.slots] at X8 l8 y8 z8 st8 hQ8
      subst l8 y8 z8
      obtain ⟨rfl, N8q, e8⟩ := hQ8
      have N8 := Fr.app N0 N8q
      have go2 : Go p e below A0 (T8.setTop (mkF m 42 #[.val (.ref a0), .val (.ref a0), .val (.ref a0)] [(.int (1 : Int32))])) := by
        intro t k
        refine go1 t ?_
        refine o_icmpN X4 hx hby d9_20 23 rfl (teq hc20_5).2 ?_
        refine o_aloadN X4 hx hby d9_23 24 rfl rfl rfl ?_
        refine st6 _ ?_
        show Steps p.tables e below (T6.setTop (mkF m 27 #[.val (.ref a0), .val (.ref a0), .val (.ref a0)] [(.ref s1)])) _
        refine o_aloadN X6 hx hby d9_27 28 rfl rfl rfl ?_
        refine st7 _ ?_
        show Steps p.tables e below (T7.setTop (mkF m 31 #[.val (.ref a0), .val (.ref a0), .val (.ref a0)] [(.ref s1), (.ref s1)])) _
        refine st8.trans ?_
        show Steps p.tables e below (T8.setTop (mkF m 34 #[.val (.ref a0), .val (.ref a0), .val (.ref a0)] [(.int (1 : Int32))])) _
        refine o_ifN X8 hx hby d9_34 37 rfl (feq (show ¬ ((1 : Int32) = (0 : Int32)) by decide)).1 ?_
        refine o_iconst X8 hx hby d9_37 38 rfl (v := (1 : Int32)) rfl ?_
        refine o_goto X8 hx hby d9_38 42 rfl ?_
        exact k
      exact ⟨T8, _, (1 : Int32), X8, N8, e8, (if_pos hc20_5).symm, go2⟩
    · have go3 : Go p e below A0 (T4.setTop (mkF m 42 #[.val (.ref a0), .val (.ref a0), .val (.ref a0)] [(.int (0 : Int32))])) := by
        intro t k
        refine go1 t ?_
        refine o_icmpY X4 hx hby d9_20 41 rfl (feq hc20_5).2 ?_
        refine o_iconst X4 hx hby d9_41 42 rfl (v := (0 : Int32)) rfl ?_
        exact k
      exact ⟨T4, _, (0 : Int32), X4, N0, e4, (if_neg hc20_5).symm, go3⟩
  have hF : v1 = (Fcm t1) := by simp only [Fcm, hv1]
  rw [hA0] at go4
  obtain ⟨fs, hr, hrun, hended, hW, hsame⟩ := X9.leave (v := some (.int v1)) (fun h => by rw [Bd.returns] at h; cases h)
  refine ⟨_, _, go4 _ (o_retZ X9 hx Bd.returns (hb hby d9_42) (by rw [hv1]; (repeat' split) <;> first | exact Or.inl rfl | exact Or.inr rfl) hr), hrun, hended, _, _, rfl, ?_, ⟨_, rfl⟩, hW, hsame.mono (by decide) (by decide)⟩
  show Q9m Z a0 t1 s1 h0 n0 _ T9.heap _
  rw [e9]
  exact ⟨by rw [← hF], N9, rfl⟩
theorem ef_9c (m : MethodId) (x0 : Addr) (x1 : Addr) : entryFrame m #[(.ref x0), (.ref x1)] 3 = mkF m 0 #[.val (.ref x0), .val (.ref x1), .unset] [] := by first | (simp [entryFrame, mkF, argsToLocals, Value.category]; done) | rfl
def Fcc (t1 : Int32) (t2 : Int32) (cs : Int32) (n1 : Int32) (x1 : Int32) (y1 : Int32) (n2 : Int32) (x2 : Int32) (y2 : Int32) : Int32 := let v2 : Int32 := (if t1 = t2 then (if (Fse cs n1 x1 y1 n2 x2 y2) = (0 : Int32) then (0 : Int32) else (1 : Int32)) else (0 : Int32)); v2
def Q9c (Z : State) (a0 : Addr) (a1 : Addr) (t1 : Int32) (s1 : Addr) (t2 : Int32) (s2 : Addr) (d1 : Addr) (d2 : Addr) (ka : ClassId) (kb : ClassId) (cs : Int32) (n1 : Int32) (x1 : Int32) (y1 : Int32) (n2 : Int32) (x2 : Int32) (y2 : Int32) (h0 : Heap) (n0 : Nat) (v : Option Value) (h : Heap) (L : List Loc) : Prop := v = some (.int (Fcc t1 t2 cs n1 x1 y1 n2 x2 y2)) ∧ Fr n0 L ∧ h = h0
set_option maxRecDepth 65536 in
set_option maxHeartbeats 40000000 in
theorem rm9c (l : Launch) (Z : State) (aw : Array Value) (hw : ∀ d ∈ tables_1, d.before aw Z = true) (ws : List Jvm.Cond) (a0 : Addr) (a1 : Addr) (t1 : Int32) (s1 : Addr) (t2 : Int32) (s2 : Addr) (d1 : Addr) (d2 : Addr) (ka : ClassId) (kb : ClassId) (cs : Int32) (n1 : Int32) (x1 : Int32) (y1 : Int32) (n2 : Int32) (x2 : Int32) (y2 : Int32) (h0 : Heap) (n0 : Nat) (Z0 : n0 ≤ h0.size) (r0 : Exa Z h0 a0 "com/example/racelint/racelint/check/Schedule$Choice") (r1 : Fld Z h0 a0 "com/example/racelint/racelint/check/Schedule$Choice" "thread" "I" (.int t1)) (r2 : Fld Z h0 a0 "com/example/racelint/racelint/check/Schedule$Choice" "name" "Ljava/lang/String;" (.ref s1)) (r3 : Exa Z h0 a1 "com/example/racelint/racelint/check/Schedule$Choice") (r4 : Fld Z h0 a1 "com/example/racelint/racelint/check/Schedule$Choice" "thread" "I" (.int t2)) (r5 : Fld Z h0 a1 "com/example/racelint/racelint/check/Schedule$Choice" "name" "Ljava/lang/String;" (.ref s2)) (r6 : Exa Z h0 s1 "java/lang/String") (r7 : Fld Z h0 s1 "java/lang/String" "value" "[B" (.ref d1)) (r8 : Fld Z h0 s1 "java/lang/String" "coder" "B" (.int (0 : Int32))) (r9 : Arv Z h0 d1 ka .byte n1 (own_vs n1 x1 y1) (.int (0 : Int32))) (r10 : Exa Z h0 s2 "java/lang/String") (r11 : Fld Z h0 s2 "java/lang/String" "value" "[B" (.ref d2)) (r12 : Fld Z h0 s2 "java/lang/String" "coder" "B" (.int (0 : Int32))) (r13 : Arv Z h0 d2 kb .byte n2 (own_vs n2 x2 y2) (.int (0 : Int32))) (r14 : s1 ≠ s2) (hn : (n1 = 0 ∨ n1 = 1 ∨ n1 = 2)) (r16 : Sta Z Z.heap "java/lang/String" "COMPACT_STRINGS" "Z" (.int cs)) (r17 : Old Z n0 h0) (hcs : (¬ (cs = 0))) :
    MetFree l (⟨"com/example/racelint/racelint/check/Schedule$Choice", "equals", "(Ljava/lang/Object;)Z"⟩ : MethodName) (head1 (Jvm.Cond.code (⟨"com/example/racelint/racelint/check/Schedule$Choice", "equals", "(Ljava/lang/Object;)Z"⟩ : MethodName) prog_14_method_5_code 3 (some .boolean) :: ws) ({ frames := 2, cells := 0, slots := 0, locals := 28 } : Room)) (fun a U => a = #[(.ref a0), (.ref a1)] ∧ Z.Warmed39 U.vm ∧ U.heap = h0) (fun _ _ _ _ _ => True) (fun _ U o U' => ∃ v L, o = .returned v ∧ Q9c Z a0 a1 t1 s1 t2 s2 d1 d2 ka kb cs n1 x1 y1 n2 x2 y2 h0 n0 v U'.heap L ∧ FrameEnd U o U' L ({ frames := 2, cells := 0, slots := 0, locals := 28 } : Room).cells ({ frames := 2, cells := 0, slots := 0, locals := 28 } : Room).slots) := by
  refine MetFree.of_bodySF (plainFor_of_name pn_8) hisR ?_
  intro p e s m args below meth c s₁ Bd hml0 hP hK
  obtain ⟨rfl, hZ, hh⟩ := hP
  have hx := Bd.exec
  have hby := Bd.bytes
  have hml : c.maxLocals = 3 := hml0
  have hown : s.vm.findClass "com/example/racelint/racelint/check/Schedule$Choice" = some m.cls := findClass_of_methodNamed Bd.named
  have hnm := (name_of_methodNamed Bd.named Bd.method).1
  have X0 : Stand p l e ({ frames := 2, cells := 0, slots := 0, locals := 28 } : Room) s m #[(.ref a0), (.ref a1)] below meth c s₁ [] 0 0 := Stand.of_body Bd
  have e0 : s₁.heap = h0 := by rw [← hh, Bd.state]; rfl
  have N0 := Fr.nil n0
  obtain ⟨A0, hA0⟩ : ∃ A0, A0 = s₁.setTop (entryFrame m #[(.ref a0), (.ref a1)] 3) := ⟨_, rfl⟩
  have go0 : Go p e below A0 (s₁.setTop (mkF m 0 #[.val (.ref a0), .val (.ref a1), .unset] [])) := fun t k => by rw [hA0]; exact castTop (ef_9c m a0 a1) k
  obtain ⟨T1, X1, e1, st1⟩ := instY X0 hx hZ hown (hw _ (List.mem_of_getElem? (i := 51) rfl)) e0 (Ins.self r3) (g := (mkF m 1 #[.val (.ref a0), .val (.ref a1), .unset] [(.ref a1)])) rfl rfl (hb hby d9_1)
  obtain ⟨T2, X2, e2, st2⟩ := castY X1 hx hZ hown (hw _ (List.mem_of_getElem? (i := 51) rfl)) e1 (Ins.self r3) (g := (mkF m 8 #[.val (.ref a0), .val (.ref a1), .unset] [(.ref a1)])) rfl rfl (hb hby d9_8)
  obtain ⟨T3, X3, e3, st3⟩ := getF X2 hx hZ hown (host := "") (Or.inl (hw _ (List.mem_of_getElem? (i := 42) rfl))) Via.refl e2 r1 (g := (mkF m 13 #[.val (.ref a0), .val (.ref a1), .val (.ref a1)] [(.ref a0)])) rfl rfl (hb hby d9_13)
  obtain ⟨T4, X4, e4, st4⟩ := getF X3 hx hZ hown (host := "") (Or.inl (hw _ (List.mem_of_getElem? (i := 42) rfl))) Via.refl e3 r4 (g := (mkF m 17 #[.val (.ref a0), .val (.ref a1), .val (.ref a1)] [(.ref a1), (.int t1)])) rfl rfl (hb hby d9_17)
  have go1 : Go p e below A0 (T4.setTop (mkF m 20 #[.val (.ref a0), .val (.ref a1), .val (.ref a1)] [(.int t2), (.int t1)])) := by
    intro t k
    refine go0 t ?_
    refine o_aloadN X0 hx hby d9_0 1 rfl rfl rfl ?_
    refine st1 _ ?_
    show Steps p.tables e below (T1.setTop (mkF m 4 #[.val (.ref a0), .val (.ref a1), .unset] [(.int (1 : Int32))])) _
    refine o_ifN X1 hx hby d9_4 7 rfl (feq (show ¬ ((1 : Int32) = (0 : Int32)) by decide)).1 ?_
    refine o_aloadN X1 hx hby d9_7 8 rfl rfl rfl ?_
    refine st2 _ ?_
    show Steps p.tables e below (T2.setTop (mkF m 11 #[.val (.ref a0), .val (.ref a1), .unset] [(.ref a1)])) _
    refine o_astoreN X2 hx hby d9_11 12 rfl rfl (l' := #[.val (.ref a0), .val (.ref a1), .val (.ref a1)]) rfl ?_
    refine o_aloadN X2 hx hby d9_12 13 rfl rfl rfl ?_
    refine st3 _ ?_
    show Steps p.tables e below (T3.setTop (mkF m 16 #[.val (.ref a0), .val (.ref a1), .val (.ref a1)] [(.int t1)])) _
    refine o_aloadN X3 hx hby d9_16 17 rfl rfl rfl ?_
    refine st4 _ ?_
    show Steps p.tables e below (T4.setTop (mkF m 20 #[.val (.ref a0), .val (.ref a1), .val (.ref a1)] [(.int t2), (.int t1)])) _
    exact k
  obtain ⟨T10, l10, v2, X10, N10, e10, hv2, go7⟩ : ∃ (T10 : State) (l10 : List Loc) (v2 : Int32), Stand p l e ({ frames := 2, cells := 0, slots := 0, locals := 28 } : Room) s m #[(.ref a0), (.ref a1)] below meth c T10 l10 0 0 ∧ Fr n0 l10 ∧ T10.heap = h0 ∧ v2 = (if t1 = t2 then (if (Fse cs n1 x1 y1 n2 x2 y2) = (0 : Int32) then (0 : Int32) else (1 : Int32)) else (0 : Int32)) ∧ Go p e below A0 (T10.setTop (mkF m 42 #[.val (.ref a0), .val (.ref a1), .val (.ref a1)] [(.int v2)])) := by
    by_cases hc20_5 : t1 = t2
    · obtain ⟨T6, X6, e6, st6⟩ := getF X4 hx hZ hown (host := "") (Or.inl (hw _ (List.mem_of_getElem? (i := 44) rfl))) Via.refl e4 r2 (g := (mkF m 24 #[.val (.ref a0), .val (.ref a1), .val (.ref a1)] [(.ref a0)])) rfl rfl (hb hby d9_24)
      obtain ⟨T7, X7, e7, st7⟩ := getF X6 hx hZ hown (host := "") (Or.inl (hw _ (List.mem_of_getElem? (i := 44) rfl))) Via.refl e6 r5 (g := (mkF m 28 #[.val (.ref a0), .val (.ref a1), .val (.ref a1)] [(.ref a1), (.ref s1)])) rfl rfl (hb hby d9_28)
      obtain ⟨cq8, kq8, q8a, q8b, q8c⟩ := isOf hZ e7 r6
      obtain ⟨_, _, ⟨T8, L8, k8, n8⟩, -, X8, ⟨Lc8, hQ8, l8, y8, z8⟩, st8⟩ := X7.virtualBack hx (y := (⟨"java/lang/String", "equals", "(Ljava/lang/Object;)Z"⟩ : MethodName)) (z := (⟨"java/lang/String", "equals", "(Ljava/lang/Object;)Z"⟩ : MethodName)) hown (mvT hZ (hw _ (List.mem_of_getElem? (i := 58) rfl))) (mvT hZ (hw _ (List.mem_of_getElem? (i := 59) rfl))) (notFace_of_selects (args := #[]) (mvT hZ (hw _ (List.mem_of_getElem? (i := 61) rfl)))) (mvT hZ (hw _ (List.mem_of_getElem? (i := 61) rfl))) (mvT hZ (hw _ (List.mem_of_getElem? (i := 60) rfl))) (by decide) (backOf (W := 0) (rm10d l Z aw hw [] s1 s2 d1 d2 ka kb cs n1 x1 y1 n2 x2 y2 h0 n0 Z0 (r6) (r7) (r8) (r9) (r10) (r11) (r12) (r13) (r14) (hn) (r16) (r17) (hcs)) hZ (hw _ (List.mem_of_getElem? (i := 62) rfl)) (hw _ (List.mem_of_getElem? (i := 8) rfl)) (by decide) (by decide)) q8a q8c (g := (mkF m 31 #[.val (.ref a0), .val (.ref a1), .val (.ref a1)] [(.ref s2), (.ref s1)])) rfl (by rw [hml]; rfl) (Steps.refl _) (argsL := [(.ref s2)]) (rest := []) (lenOf pd_11 rfl) rfl (by show 2 * 0 + _ ≤ _; exact Nat.le_of_eq rfl) (hb hby d9_31) (fun _ _ => ⟨rfl, e7, (by decide : 0 + 0 ≤ _), (by decide : 0 + 0 ≤ _)⟩)
      dsimp only [Pt.U, Pt.locs, Pt.cells, Pt.slots] at X8 l8 y8 z8 st8 hQ8
      subst l8 y8 z8
      obtain ⟨rfl, N8q, e8⟩ := hQ8
      have N8 := Fr.app N0 N8q
      have go2 : Go p e below A0 (T8.setTop (mkF m 34 #[.val (.ref a0), .val (.ref a1), .val (.ref a1)] [(.int (Fse cs n1 x1 y1 n2 x2 y2))])) := by
        intro t k
        refine go1 t ?_
        refine o_icmpN X4 hx hby d9_20 23 rfl (teq hc20_5).2 ?_
        refine o_aloadN X4 hx hby d9_23 24 rfl rfl rfl ?_
        refine st6 _ ?_
        show Steps p.tables e below (T6.setTop (mkF m 27 #[.val (.ref a0), .val (.ref a1), .val (.ref a1)] [(.ref s1)])) _
        refine o_aloadN X6 hx hby d9_27 28 rfl rfl rfl ?_
        refine st7 _ ?_
        show Steps p.tables e below (T7.setTop (mkF m 31 #[.val (.ref a0), .val (.ref a1), .val (.ref a1)] [(.ref s2), (.ref s1)])) _
        refine st8.trans ?_
        show Steps p.tables e below (T8.setTop (mkF m 34 #[.val (.ref a0), .val (.ref a1), .val (.ref a1)] [(.int (Fse cs n1 x1 y1 n2 x2 y2))])) _
        exact k
      obtain ⟨v1, hv1, go5⟩ : ∃ (v1 : Int32), v1 = (if (Fse cs n1 x1 y1 n2 x2 y2) = (0 : Int32) then (0 : Int32) else (1 : Int32)) ∧ Go p e below A0 (T8.setTop (mkF m 42 #[.val (.ref a0), .val (.ref a1), .val (.ref a1)] [(.int v1)])) := by
        by_cases hc34_9 : (Fse cs n1 x1 y1 n2 x2 y2) = (0 : Int32)
        · have go3 : Go p e below A0 (T8.setTop (mkF m 42 #[.val (.ref a0), .val (.ref a1), .val (.ref a1)] [(.int (0 : Int32))])) := by
            intro t k
            refine go2 t ?_
            refine o_ifY X8 hx hby d9_34 41 rfl (teq hc34_9).1 ?_
            refine o_iconst X8 hx hby d9_41 42 rfl (v := (0 : Int32)) rfl ?_
            exact k
          exact ⟨(0 : Int32), (if_pos hc34_9).symm, go3⟩
        · have go4 : Go p e below A0 (T8.setTop (mkF m 42 #[.val (.ref a0), .val (.ref a1), .val (.ref a1)] [(.int (1 : Int32))])) := by
            intro t k
            refine go2 t ?_
            refine o_ifN X8 hx hby d9_34 37 rfl (feq hc34_9).1 ?_
            refine o_iconst X8 hx hby d9_37 38 rfl (v := (1 : Int32)) rfl ?_
            refine o_goto X8 hx hby d9_38 42 rfl ?_
            exact k
          exact ⟨(1 : Int32), (if_neg hc34_9).symm, go4⟩
      rw [hv1] at go5
      exact ⟨T8, _, (if (Fse cs n1 x1 y1 n2 x2 y2) = (0 : Int32) then (0 : Int32) else (1 : Int32)), X8, N8, e8, (if_pos hc20_5).symm, go5⟩
    · have go6 : Go p e below A0 (T4.setTop (mkF m 42 #[.val (.ref a0), .val (.ref a1), .val (.ref a1)] [(.int (0 : Int32))])) := by
        intro t k
        refine go1 t ?_
        refine o_icmpY X4 hx hby d9_20 41 rfl (feq hc20_5).2 ?_
        refine o_iconst X4 hx hby d9_41 42 rfl (v := (0 : Int32)) rfl ?_
        exact k
      exact ⟨T4, _, (0 : Int32), X4, N0, e4, (if_neg hc20_5).symm, go6⟩
  have hF : v2 = (Fcc t1 t2 cs n1 x1 y1 n2 x2 y2) := by simp only [Fcc, hv2]
  rw [hA0] at go7
  obtain ⟨fs, hr, hrun, hended, hW, hsame⟩ := X10.leave (v := some (.int v2)) (fun h => by rw [Bd.returns] at h; cases h)
  refine ⟨_, _, go7 _ (o_retZ X10 hx Bd.returns (hb hby d9_42) (by rw [hv2]; (repeat' split) <;> first | exact Or.inl rfl | exact Or.inr rfl) hr), hrun, hended, _, _, rfl, ?_, ⟨_, rfl⟩, hW, hsame.mono (by decide) (by decide)⟩
  show Q9c Z a0 a1 t1 s1 t2 s2 d1 d2 ka kb cs n1 x1 y1 n2 x2 y2 h0 n0 _ T10.heap _
  rw [e10]
  exact ⟨by rw [← hF], N10, rfl⟩
theorem own_len3 {x v : Int32} (h : v = (x &&& (2147483647 : Int32)) % (3 : Int32)) : v = 0 ∨ v = 1 ∨ v = 2 := by
  have m : (x &&& (2147483647 : Int32)).toInt = x.toInt % 2147483648 := c_mask _ _ 31 (by decide) (by decide)
  have k : v.toInt = (x &&& (2147483647 : Int32)).toInt % 3 := by rw [h, Int32.toInt_mod, Int.tmod_eq_emod_of_nonneg (by omega)]; rfl
  rcases (by omega : v.toInt = 0 ∨ v.toInt = 1 ∨ v.toInt = 2) with q | q | q
  · exact Or.inl (Int32.toInt_inj.mp q)
  · exact Or.inr (Or.inl (Int32.toInt_inj.mp q))
  · exact Or.inr (Or.inr (Int32.toInt_inj.mp q))
def own_ch (x : Int32) : Int32 := ((x &&& (255 : Int32)).toUInt32.toUInt16.toUInt32.toInt32)
theorem own_che (x : Int32) : own_b (own_ch x) = (x &&& 255).toInt8.toInt32 := by
  unfold own_b own_ch; rw [i2c_mask]; show ((x &&& 255).toUInt32.toUInt16.toUInt32.toInt32).toInt8.toInt32.toInt8.toInt32 = _
  rw [i2c_mask]; simp
theorem own_binj {a b : Int32} (ha : ∃ x, a = own_ch x) (hb : ∃ x, b = own_ch x) : (own_b a = own_b b) = (a = b) := by
  obtain ⟨x, rfl⟩ := ha
  obtain ⟨y, rfl⟩ := hb
  refine propext ⟨fun h => ?_, fun h => by rw [h]⟩
  rw [own_che, own_che] at h
  have k := congrArg Int32.toInt h
  rw [Int8.toInt_toInt32, Int8.toInt_toInt32, Int32.toInt_toInt8, Int32.toInt_toInt8] at k
  have m1 : (x &&& (255 : Int32)).toInt = x.toInt % 256 := c_mask _ _ 8 (by decide) (by decide)
  have m2 : (y &&& (255 : Int32)).toInt = y.toInt % 256 := c_mask _ _ 8 (by decide) (by decide)
  unfold own_ch; rw [i2c_mask, i2c_mask]
  apply Int32.toInt_inj.mp
  rw [Int.bmod_def, Int.bmod_def] at k
  split at k <;> split at k <;> omega
theorem pd_12 : parseMethodDescriptor "(ICC)Ljava/lang/String;" = some ⟨[.int, .char, .char], some (.object "java/lang/String")⟩ := by decide +kernel
theorem pd_13 : parseMethodDescriptor "(ILjava/lang/String;)V" = some ⟨[.int, (.object "java/lang/String")], none⟩ := by decide +kernel
theorem ef_0 (m : MethodId) (x0 : Int32) (x1 : Int32) (x2 : Int32) (x3 : Int32) (x4 : Int32) : entryFrame m #[(.int x0), (.int x1), (.int x2), (.int x3), (.int x4)] maxLocals = mkF m 0 #[.val (.int x0), .val (.int x1), .val (.int x2), .val (.int x3), .val (.int x4), .unset, .unset, .unset, .unset, .unset, .unset, .unset, .unset, .unset, .unset, .unset, .unset, .unset, .unset, .unset, .unset] [] := by first | (simp [entryFrame, mkF, argsToLocals, Value.category, maxLocals]; done) | rfl
set_option maxRecDepth 65536 in
set_option maxHeartbeats 4000000 in
theorem pf0_len_0 (p0 : Int32) (p1 : Int32) (p2 : Int32) (p3 : Int32) (p4 : Int32) (cs : Int32) (v1 : Int32) (v2 : Int32) (v3 : Int32) (v4 : Int32) (v5 : Int32) (v6 : Int32) (v7 : Int32) (v8 : Int32) (v15 : Int32) (hv1 : v1 = (if (p4 &&& (1 : Int32)) = (0 : Int32) then p1 else p0)) (hv2 : v2 = (if (p4 &&& (2 : Int32)) = (0 : Int32) then (0 : Int32) else (1 : Int32))) (hv3 : v3 = ((p2 &&& (2147483647 : Int32)) % (3 : Int32))) (hv4 : v4 = ((((p2.toUInt32 >>> ((8 : Int32) &&& 31).toUInt32).toInt32) &&& (255 : Int32)).toUInt32.toUInt16.toUInt32.toInt32)) (hv5 : v5 = ((((p2.toUInt32 >>> ((16 : Int32) &&& 31).toUInt32).toInt32) &&& (255 : Int32)).toUInt32.toUInt16.toUInt32.toInt32)) (hv6 : v6 = (if v2 = (0 : Int32) then ((p3 &&& (2147483647 : Int32)) % (3 : Int32)) else v3)) (hv7 : v7 = (if v2 = (0 : Int32) then ((((p3.toUInt32 >>> ((8 : Int32) &&& 31).toUInt32).toInt32) &&& (255 : Int32)).toUInt32.toUInt16.toUInt32.toInt32) else v4)) (hv8 : v8 = (if v2 = (0 : Int32) then ((((p3.toUInt32 >>> ((16 : Int32) &&& 31).toUInt32).toInt32) &&& (255 : Int32)).toUInt32.toUInt16.toUInt32.toInt32) else v5)) (hv15 : v15 = (if v3 = v6 then (if v3 < (1 : Int32) then (if v3 < (2 : Int32) then (1 : Int32) else (if v5 = v8 then (1 : Int32) else (0 : Int32))) else (if v4 = v7 then (if v3 < (2 : Int32) then (1 : Int32) else (if v5 = v8 then (1 : Int32) else (0 : Int32))) else (0 : Int32))) else (0 : Int32))) : v3 = 0 ∨ v3 = 1 ∨ v3 = 2 := by
  exact own_len3 hv3
set_option maxRecDepth 65536 in
set_option maxHeartbeats 4000000 in
theorem pf0_le_1 (p0 : Int32) (p1 : Int32) (p2 : Int32) (p3 : Int32) (p4 : Int32) (cs : Int32) (v1 : Int32) (v2 : Int32) (v3 : Int32) (v4 : Int32) (v5 : Int32) (v6 : Int32) (v7 : Int32) (v8 : Int32) (v15 : Int32) (hv1 : v1 = (if (p4 &&& (1 : Int32)) = (0 : Int32) then p1 else p0)) (hv2 : v2 = (if (p4 &&& (2 : Int32)) = (0 : Int32) then (0 : Int32) else (1 : Int32))) (hv3 : v3 = ((p2 &&& (2147483647 : Int32)) % (3 : Int32))) (hv4 : v4 = ((((p2.toUInt32 >>> ((8 : Int32) &&& 31).toUInt32).toInt32) &&& (255 : Int32)).toUInt32.toUInt16.toUInt32.toInt32)) (hv5 : v5 = ((((p2.toUInt32 >>> ((16 : Int32) &&& 31).toUInt32).toInt32) &&& (255 : Int32)).toUInt32.toUInt16.toUInt32.toInt32)) (hv6 : v6 = (if v2 = (0 : Int32) then ((p3 &&& (2147483647 : Int32)) % (3 : Int32)) else v3)) (hv7 : v7 = (if v2 = (0 : Int32) then ((((p3.toUInt32 >>> ((8 : Int32) &&& 31).toUInt32).toInt32) &&& (255 : Int32)).toUInt32.toUInt16.toUInt32.toInt32) else v4)) (hv8 : v8 = (if v2 = (0 : Int32) then ((((p3.toUInt32 >>> ((16 : Int32) &&& 31).toUInt32).toInt32) &&& (255 : Int32)).toUInt32.toUInt16.toUInt32.toInt32) else v5)) (hv15 : v15 = (if v3 = v6 then (if v3 < (1 : Int32) then (if v3 < (2 : Int32) then (1 : Int32) else (if v5 = v8 then (1 : Int32) else (0 : Int32))) else (if v4 = v7 then (if v3 < (2 : Int32) then (1 : Int32) else (if v5 = v8 then (1 : Int32) else (0 : Int32))) else (0 : Int32))) else (0 : Int32))) : ¬ (255 : Int32) < nar .char v4 := by
  rw [hv4]; exact own_c255 _
set_option maxRecDepth 65536 in
set_option maxHeartbeats 4000000 in
theorem pf0_le_2 (p0 : Int32) (p1 : Int32) (p2 : Int32) (p3 : Int32) (p4 : Int32) (cs : Int32) (v1 : Int32) (v2 : Int32) (v3 : Int32) (v4 : Int32) (v5 : Int32) (v6 : Int32) (v7 : Int32) (v8 : Int32) (v15 : Int32) (hv1 : v1 = (if (p4 &&& (1 : Int32)) = (0 : Int32) then p1 else p0)) (hv2 : v2 = (if (p4 &&& (2 : Int32)) = (0 : Int32) then (0 : Int32) else (1 : Int32))) (hv3 : v3 = ((p2 &&& (2147483647 : Int32)) % (3 : Int32))) (hv4 : v4 = ((((p2.toUInt32 >>> ((8 : Int32) &&& 31).toUInt32).toInt32) &&& (255 : Int32)).toUInt32.toUInt16.toUInt32.toInt32)) (hv5 : v5 = ((((p2.toUInt32 >>> ((16 : Int32) &&& 31).toUInt32).toInt32) &&& (255 : Int32)).toUInt32.toUInt16.toUInt32.toInt32)) (hv6 : v6 = (if v2 = (0 : Int32) then ((p3 &&& (2147483647 : Int32)) % (3 : Int32)) else v3)) (hv7 : v7 = (if v2 = (0 : Int32) then ((((p3.toUInt32 >>> ((8 : Int32) &&& 31).toUInt32).toInt32) &&& (255 : Int32)).toUInt32.toUInt16.toUInt32.toInt32) else v4)) (hv8 : v8 = (if v2 = (0 : Int32) then ((((p3.toUInt32 >>> ((16 : Int32) &&& 31).toUInt32).toInt32) &&& (255 : Int32)).toUInt32.toUInt16.toUInt32.toInt32) else v5)) (hv15 : v15 = (if v3 = v6 then (if v3 < (1 : Int32) then (if v3 < (2 : Int32) then (1 : Int32) else (if v5 = v8 then (1 : Int32) else (0 : Int32))) else (if v4 = v7 then (if v3 < (2 : Int32) then (1 : Int32) else (if v5 = v8 then (1 : Int32) else (0 : Int32))) else (0 : Int32))) else (0 : Int32))) : ¬ (255 : Int32) < nar .char v5 := by
  rw [hv5]; exact own_c255 _
set_option maxRecDepth 65536 in
set_option maxHeartbeats 4000000 in
theorem pf0_len_3 (p0 : Int32) (p1 : Int32) (p2 : Int32) (p3 : Int32) (p4 : Int32) (cs : Int32) (v1 : Int32) (v2 : Int32) (v3 : Int32) (v4 : Int32) (v5 : Int32) (v6 : Int32) (v7 : Int32) (v8 : Int32) (v15 : Int32) (hv1 : v1 = (if (p4 &&& (1 : Int32)) = (0 : Int32) then p1 else p0)) (hv2 : v2 = (if (p4 &&& (2 : Int32)) = (0 : Int32) then (0 : Int32) else (1 : Int32))) (hv3 : v3 = ((p2 &&& (2147483647 : Int32)) % (3 : Int32))) (hv4 : v4 = ((((p2.toUInt32 >>> ((8 : Int32) &&& 31).toUInt32).toInt32) &&& (255 : Int32)).toUInt32.toUInt16.toUInt32.toInt32)) (hv5 : v5 = ((((p2.toUInt32 >>> ((16 : Int32) &&& 31).toUInt32).toInt32) &&& (255 : Int32)).toUInt32.toUInt16.toUInt32.toInt32)) (hv6 : v6 = (if v2 = (0 : Int32) then ((p3 &&& (2147483647 : Int32)) % (3 : Int32)) else v3)) (hv7 : v7 = (if v2 = (0 : Int32) then ((((p3.toUInt32 >>> ((8 : Int32) &&& 31).toUInt32).toInt32) &&& (255 : Int32)).toUInt32.toUInt16.toUInt32.toInt32) else v4)) (hv8 : v8 = (if v2 = (0 : Int32) then ((((p3.toUInt32 >>> ((16 : Int32) &&& 31).toUInt32).toInt32) &&& (255 : Int32)).toUInt32.toUInt16.toUInt32.toInt32) else v5)) (hv15 : v15 = (if v3 = v6 then (if v3 < (1 : Int32) then (if v3 < (2 : Int32) then (1 : Int32) else (if v5 = v8 then (1 : Int32) else (0 : Int32))) else (if v4 = v7 then (if v3 < (2 : Int32) then (1 : Int32) else (if v5 = v8 then (1 : Int32) else (0 : Int32))) else (0 : Int32))) else (0 : Int32))) : v6 = 0 ∨ v6 = 1 ∨ v6 = 2 := by
  by_cases q : v2 = 0
  · exact own_len3 (hv6.trans (if_pos q))
  · rw [hv6, if_neg q]; exact own_len3 hv3
set_option maxRecDepth 65536 in
set_option maxHeartbeats 4000000 in
theorem pf0_le_4 (p0 : Int32) (p1 : Int32) (p2 : Int32) (p3 : Int32) (p4 : Int32) (cs : Int32) (v1 : Int32) (v2 : Int32) (v3 : Int32) (v4 : Int32) (v5 : Int32) (v6 : Int32) (v7 : Int32) (v8 : Int32) (v15 : Int32) (hv1 : v1 = (if (p4 &&& (1 : Int32)) = (0 : Int32) then p1 else p0)) (hv2 : v2 = (if (p4 &&& (2 : Int32)) = (0 : Int32) then (0 : Int32) else (1 : Int32))) (hv3 : v3 = ((p2 &&& (2147483647 : Int32)) % (3 : Int32))) (hv4 : v4 = ((((p2.toUInt32 >>> ((8 : Int32) &&& 31).toUInt32).toInt32) &&& (255 : Int32)).toUInt32.toUInt16.toUInt32.toInt32)) (hv5 : v5 = ((((p2.toUInt32 >>> ((16 : Int32) &&& 31).toUInt32).toInt32) &&& (255 : Int32)).toUInt32.toUInt16.toUInt32.toInt32)) (hv6 : v6 = (if v2 = (0 : Int32) then ((p3 &&& (2147483647 : Int32)) % (3 : Int32)) else v3)) (hv7 : v7 = (if v2 = (0 : Int32) then ((((p3.toUInt32 >>> ((8 : Int32) &&& 31).toUInt32).toInt32) &&& (255 : Int32)).toUInt32.toUInt16.toUInt32.toInt32) else v4)) (hv8 : v8 = (if v2 = (0 : Int32) then ((((p3.toUInt32 >>> ((16 : Int32) &&& 31).toUInt32).toInt32) &&& (255 : Int32)).toUInt32.toUInt16.toUInt32.toInt32) else v5)) (hv15 : v15 = (if v3 = v6 then (if v3 < (1 : Int32) then (if v3 < (2 : Int32) then (1 : Int32) else (if v5 = v8 then (1 : Int32) else (0 : Int32))) else (if v4 = v7 then (if v3 < (2 : Int32) then (1 : Int32) else (if v5 = v8 then (1 : Int32) else (0 : Int32))) else (0 : Int32))) else (0 : Int32))) : ¬ (255 : Int32) < nar .char v7 := by
  by_cases q : v2 = 0
  · rw [hv7, if_pos q]; exact own_c255 _
  · rw [hv7, if_neg q, hv4]; exact own_c255 _
set_option maxRecDepth 65536 in
set_option maxHeartbeats 4000000 in
theorem pf0_le_5 (p0 : Int32) (p1 : Int32) (p2 : Int32) (p3 : Int32) (p4 : Int32) (cs : Int32) (v1 : Int32) (v2 : Int32) (v3 : Int32) (v4 : Int32) (v5 : Int32) (v6 : Int32) (v7 : Int32) (v8 : Int32) (v15 : Int32) (hv1 : v1 = (if (p4 &&& (1 : Int32)) = (0 : Int32) then p1 else p0)) (hv2 : v2 = (if (p4 &&& (2 : Int32)) = (0 : Int32) then (0 : Int32) else (1 : Int32))) (hv3 : v3 = ((p2 &&& (2147483647 : Int32)) % (3 : Int32))) (hv4 : v4 = ((((p2.toUInt32 >>> ((8 : Int32) &&& 31).toUInt32).toInt32) &&& (255 : Int32)).toUInt32.toUInt16.toUInt32.toInt32)) (hv5 : v5 = ((((p2.toUInt32 >>> ((16 : Int32) &&& 31).toUInt32).toInt32) &&& (255 : Int32)).toUInt32.toUInt16.toUInt32.toInt32)) (hv6 : v6 = (if v2 = (0 : Int32) then ((p3 &&& (2147483647 : Int32)) % (3 : Int32)) else v3)) (hv7 : v7 = (if v2 = (0 : Int32) then ((((p3.toUInt32 >>> ((8 : Int32) &&& 31).toUInt32).toInt32) &&& (255 : Int32)).toUInt32.toUInt16.toUInt32.toInt32) else v4)) (hv8 : v8 = (if v2 = (0 : Int32) then ((((p3.toUInt32 >>> ((16 : Int32) &&& 31).toUInt32).toInt32) &&& (255 : Int32)).toUInt32.toUInt16.toUInt32.toInt32) else v5)) (hv15 : v15 = (if v3 = v6 then (if v3 < (1 : Int32) then (if v3 < (2 : Int32) then (1 : Int32) else (if v5 = v8 then (1 : Int32) else (0 : Int32))) else (if v4 = v7 then (if v3 < (2 : Int32) then (1 : Int32) else (if v5 = v8 then (1 : Int32) else (0 : Int32))) else (0 : Int32))) else (0 : Int32))) : ¬ (255 : Int32) < nar .char v8 := by
  by_cases q : v2 = 0
  · rw [hv8, if_pos q]; exact own_c255 _
  · rw [hv8, if_neg q, hv5]; exact own_c255 _
set_option maxRecDepth 65536 in
set_option maxHeartbeats 4000000 in
theorem pf0_hn_6 (p0 : Int32) (p1 : Int32) (p2 : Int32) (p3 : Int32) (p4 : Int32) (cs : Int32) (v1 : Int32) (v2 : Int32) (v3 : Int32) (v4 : Int32) (v5 : Int32) (v6 : Int32) (v7 : Int32) (v8 : Int32) (v15 : Int32) (v16 : Int32) (v18 : Int32) (hv1 : v1 = (if (p4 &&& (1 : Int32)) = (0 : Int32) then p1 else p0)) (hv2 : v2 = (if (p4 &&& (2 : Int32)) = (0 : Int32) then (0 : Int32) else (1 : Int32))) (hv3 : v3 = ((p2 &&& (2147483647 : Int32)) % (3 : Int32))) (hv4 : v4 = ((((p2.toUInt32 >>> ((8 : Int32) &&& 31).toUInt32).toInt32) &&& (255 : Int32)).toUInt32.toUInt16.toUInt32.toInt32)) (hv5 : v5 = ((((p2.toUInt32 >>> ((16 : Int32) &&& 31).toUInt32).toInt32) &&& (255 : Int32)).toUInt32.toUInt16.toUInt32.toInt32)) (hv6 : v6 = (if v2 = (0 : Int32) then ((p3 &&& (2147483647 : Int32)) % (3 : Int32)) else v3)) (hv7 : v7 = (if v2 = (0 : Int32) then ((((p3.toUInt32 >>> ((8 : Int32) &&& 31).toUInt32).toInt32) &&& (255 : Int32)).toUInt32.toUInt16.toUInt32.toInt32) else v4)) (hv8 : v8 = (if v2 = (0 : Int32) then ((((p3.toUInt32 >>> ((16 : Int32) &&& 31).toUInt32).toInt32) &&& (255 : Int32)).toUInt32.toUInt16.toUInt32.toInt32) else v5)) (hv15 : v15 = (if v3 = v6 then (if v3 < (1 : Int32) then (if v3 < (2 : Int32) then (1 : Int32) else (if v5 = v8 then (1 : Int32) else (0 : Int32))) else (if v4 = v7 then (if v3 < (2 : Int32) then (1 : Int32) else (if v5 = v8 then (1 : Int32) else (0 : Int32))) else (0 : Int32))) else (0 : Int32))) (hv16 : v16 = (((p4.toUInt32 >>> ((2 : Int32) &&& 31).toUInt32).toInt32) &&& (3 : Int32))) (hv18 : v18 = (if p0 = v1 then (if v15 = (0 : Int32) then (0 : Int32) else (1 : Int32)) else (0 : Int32))) (hc215_19 : v16 = (0 : Int32)) : v3 = 0 ∨ v3 = 1 ∨ v3 = 2 := by
  exact own_len3 hv3
set_option maxRecDepth 65536 in
set_option maxHeartbeats 4000000 in
theorem pl_0_0 (p0 : Int32) (p1 : Int32) (p2 : Int32) (p3 : Int32) (p4 : Int32) (cs : Int32) (v1 : Int32) (v2 : Int32) (v3 : Int32) (v4 : Int32) (v5 : Int32) (v6 : Int32) (v7 : Int32) (v8 : Int32) (v15 : Int32) (v16 : Int32) (v18 : Int32) (v19 : Int32) (v20 : Int32) (hv1 : v1 = (if (p4 &&& (1 : Int32)) = (0 : Int32) then p1 else p0)) (hv2 : v2 = (if (p4 &&& (2 : Int32)) = (0 : Int32) then (0 : Int32) else (1 : Int32))) (hv3 : v3 = ((p2 &&& (2147483647 : Int32)) % (3 : Int32))) (hv4 : v4 = ((((p2.toUInt32 >>> ((8 : Int32) &&& 31).toUInt32).toInt32) &&& (255 : Int32)).toUInt32.toUInt16.toUInt32.toInt32)) (hv5 : v5 = ((((p2.toUInt32 >>> ((16 : Int32) &&& 31).toUInt32).toInt32) &&& (255 : Int32)).toUInt32.toUInt16.toUInt32.toInt32)) (hv6 : v6 = (if v2 = (0 : Int32) then ((p3 &&& (2147483647 : Int32)) % (3 : Int32)) else v3)) (hv7 : v7 = (if v2 = (0 : Int32) then ((((p3.toUInt32 >>> ((8 : Int32) &&& 31).toUInt32).toInt32) &&& (255 : Int32)).toUInt32.toUInt16.toUInt32.toInt32) else v4)) (hv8 : v8 = (if v2 = (0 : Int32) then ((((p3.toUInt32 >>> ((16 : Int32) &&& 31).toUInt32).toInt32) &&& (255 : Int32)).toUInt32.toUInt16.toUInt32.toInt32) else v5)) (hv15 : v15 = (if v3 = v6 then (if v3 < (1 : Int32) then (if v3 < (2 : Int32) then (1 : Int32) else (if v5 = v8 then (1 : Int32) else (0 : Int32))) else (if v4 = v7 then (if v3 < (2 : Int32) then (1 : Int32) else (if v5 = v8 then (1 : Int32) else (0 : Int32))) else (0 : Int32))) else (0 : Int32))) (hv16 : v16 = (((p4.toUInt32 >>> ((2 : Int32) &&& 31).toUInt32).toInt32) &&& (3 : Int32))) (hv18 : v18 = (if p0 = v1 then (if v15 = (0 : Int32) then (0 : Int32) else (1 : Int32)) else (0 : Int32))) (hv19 : v19 = (Fcc p0 v1 cs v3 v4 v5 v6 v7 v8)) (hv20 : v20 = (if v19 = v18 then (1 : Int32) else (0 : Int32))) (hc215_19 : v16 = (0 : Int32)) : v20 = (1 : Int32) := by
  have x4 : ∃ x, v4 = own_ch x := ⟨_, hv4⟩
  have x5 : ∃ x, v5 = own_ch x := ⟨_, hv5⟩
  have x7 : ∃ x, v7 = own_ch x := by
    by_cases q : v2 = 0
    · exact ⟨_, hv7.trans (if_pos q)⟩
    · rw [hv7, if_neg q]; exact x4
  have x8 : ∃ x, v8 = own_ch x := by
    by_cases q : v2 = 0
    · exact ⟨_, hv8.trans (if_pos q)⟩
    · rw [hv8, if_neg q]; exact x5
  have hle : Fle v3 v4 v5 v6 v7 v8 = v15 := by
    rw [hv15]; simp only [Fle, own_binj x4 x7, own_binj x5 x8]
    clear hv1 hv2 hv6 hv7 hv8 hv15 hv18 hv19 hv20 hv4 hv5 x4 x5 x7 x8
    rcases own_len3 hv3 with q | q | q <;> simp only [q] <;> by_cases a : v4 = v7 <;> by_cases b : v5 = v8 <;> simp [a, b]
  have e : Fcc p0 v1 cs v3 v4 v5 v6 v7 v8 = v18 := by
    simp only [Fcc, Fse, hle, hv18]
    by_cases p : p0 = v1 <;> by_cases w : v15 = 0 <;> simp [p, w]
  rw [hv20, hv19, e, if_pos rfl]
set_option maxRecDepth 65536 in
set_option maxHeartbeats 4000000 in
theorem pl_0_3 (p0 : Int32) (p1 : Int32) (p2 : Int32) (p3 : Int32) (p4 : Int32) (cs : Int32) (v1 : Int32) (v2 : Int32) (v3 : Int32) (v4 : Int32) (v5 : Int32) (v6 : Int32) (v7 : Int32) (v8 : Int32) (v15 : Int32) (v16 : Int32) (v21 : Int32) (v22 : Int32) (hv1 : v1 = (if (p4 &&& (1 : Int32)) = (0 : Int32) then p1 else p0)) (hv2 : v2 = (if (p4 &&& (2 : Int32)) = (0 : Int32) then (0 : Int32) else (1 : Int32))) (hv3 : v3 = ((p2 &&& (2147483647 : Int32)) % (3 : Int32))) (hv4 : v4 = ((((p2.toUInt32 >>> ((8 : Int32) &&& 31).toUInt32).toInt32) &&& (255 : Int32)).toUInt32.toUInt16.toUInt32.toInt32)) (hv5 : v5 = ((((p2.toUInt32 >>> ((16 : Int32) &&& 31).toUInt32).toInt32) &&& (255 : Int32)).toUInt32.toUInt16.toUInt32.toInt32)) (hv6 : v6 = (if v2 = (0 : Int32) then ((p3 &&& (2147483647 : Int32)) % (3 : Int32)) else v3)) (hv7 : v7 = (if v2 = (0 : Int32) then ((((p3.toUInt32 >>> ((8 : Int32) &&& 31).toUInt32).toInt32) &&& (255 : Int32)).toUInt32.toUInt16.toUInt32.toInt32) else v4)) (hv8 : v8 = (if v2 = (0 : Int32) then ((((p3.toUInt32 >>> ((16 : Int32) &&& 31).toUInt32).toInt32) &&& (255 : Int32)).toUInt32.toUInt16.toUInt32.toInt32) else v5)) (hv15 : v15 = (if v3 = v6 then (if v3 < (1 : Int32) then (if v3 < (2 : Int32) then (1 : Int32) else (if v5 = v8 then (1 : Int32) else (0 : Int32))) else (if v4 = v7 then (if v3 < (2 : Int32) then (1 : Int32) else (if v5 = v8 then (1 : Int32) else (0 : Int32))) else (0 : Int32))) else (0 : Int32))) (hv16 : v16 = (((p4.toUInt32 >>> ((2 : Int32) &&& 31).toUInt32).toInt32) &&& (3 : Int32))) (hv21 : v21 = (Fcm p0)) (hv22 : v22 = (if v21 = (1 : Int32) then (1 : Int32) else (0 : Int32))) (hc215_19 : ¬ (v16 = (0 : Int32))) (hc246_24 : ¬ (v16 = (1 : Int32))) (hc261_26 : ¬ (v16 = (2 : Int32))) : v22 = (1 : Int32) := by
  rw [hv22, hv21]; simp [Fcm]
def Q0 (Z : State) (p0 : Int32) (p1 : Int32) (p2 : Int32) (p3 : Int32) (p4 : Int32) (cs : Int32) (h0 : Heap) (n0 : Nat) (v : Option Value) (h : Heap) (L : List Loc) : Prop := v = some (.int 1) ∧ Fr n0 L
set_option maxRecDepth 65536 in
set_option maxHeartbeats 40000000 in
theorem rm0 (l : Launch) (Z : State) (aw : Array Value) (hw : ∀ d ∈ tables_1, d.before aw Z = true) (ws : List Jvm.Cond) (p0 : Int32) (p1 : Int32) (p2 : Int32) (p3 : Int32) (p4 : Int32) (cs : Int32) (h0 : Heap) (n0 : Nat) (Z0 : n0 ≤ h0.size) (r0 : Sta Z Z.heap "java/lang/String" "COMPACT_STRINGS" "Z" (.int cs)) (r1 : Old Z n0 h0) (hcs : (¬ (cs = 0))) :
    MetFree l x (head1 (Jvm.Cond.code x code maxLocals ret :: ws) room_1) (fun a U => a = #[(.int p0), (.int p1), (.int p2), (.int p3), (.int p4)] ∧ Z.Warmed39 U.vm ∧ U.heap = h0 ∧ CHv Z own_EL U.vm h0) (fun _ _ _ _ _ => True) (fun _ U o U' => ∃ v L, o = .returned v ∧ Q0 Z p0 p1 p2 p3 p4 cs h0 n0 v U'.heap L ∧ CHr Z own_EL U.vm U.heap U'.vm U'.heap ∧ ReturnedEndW U o U' L room_1.cells room_1.slots) := by
  refine MetFree.of_bodySF (plainFor_of_name pn_1) hisR ?_
  intro p e s m args below meth c s₁ Bd hml0 hP hK
  obtain ⟨rfl, hZ, hh, hC0⟩ := hP
  have hx := Bd.exec
  have hby := Bd.bytes
  have hml : c.maxLocals = 21 := hml0
  have hown : s.vm.findClass "com/example/racelint/racelint/check/ChoiceEqualsPinLaw" = some m.cls := findClass_of_methodNamed Bd.named
  have hnm := (name_of_methodNamed Bd.named Bd.method).1
  have X0 : Stand p l e room_1 s m #[(.int p0), (.int p1), (.int p2), (.int p3), (.int p4)] below meth c s₁ [] 0 0 := Stand.of_body Bd
  have e0 : s₁.heap = h0 := by rw [← hh, Bd.state]; rfl
  have N0 := Fr.nil n0
  obtain ⟨A0, hA0⟩ : ∃ A0, A0 = s₁.setTop (entryFrame m #[(.int p0), (.int p1), (.int p2), (.int p3), (.int p4)] maxLocals) := ⟨_, rfl⟩
  have go0 : Go p e below A0 (s₁.setTop (mkF m 0 #[.val (.int p0), .val (.int p1), .val (.int p2), .val (.int p3), .val (.int p4), .unset, .unset, .unset, .unset, .unset, .unset, .unset, .unset, .unset, .unset, .unset, .unset, .unset, .unset, .unset, .unset] [])) := fun t k => by rw [hA0]; exact castTop (ef_0 m p0 p1 p2 p3 p4) k
  have hEW : EW Z aw own_EL := own_ew hw
  have R0H : CHr Z own_EL s.vm h0 s.vm h0 := CHr.refl hC0
  have go1 : Go p e below A0 (s₁.setTop (mkF m 4 #[.val (.int p0), .val (.int p1), .val (.int p2), .val (.int p3), .val (.int p4), .unset, .unset, .unset, .unset, .unset, .unset, .unset, .unset, .unset, .unset, .unset, .unset, .unset, .unset, .unset, .unset] [(.int (p4 &&& (1 : Int32)))])) := by
    intro t k
    refine go0 t ?_
    refine o_iload X0 hx hby at_0 2 rfl rfl ?_
    refine o_iconst X0 hx hby at_2 3 rfl (v := (1 : Int32)) rfl ?_
    refine o_iand X0 hx hby at_3 4 rfl ?_
    exact k
  obtain ⟨v1, hv1, go4⟩ : ∃ (v1 : Int32), v1 = (if (p4 &&& (1 : Int32)) = (0 : Int32) then p1 else p0) ∧ Go p e below A0 (s₁.setTop (mkF m 12 #[.val (.int p0), .val (.int p1), .val (.int p2), .val (.int p3), .val (.int p4), .unset, .unset, .unset, .unset, .unset, .unset, .unset, .unset, .unset, .unset, .unset, .unset, .unset, .unset, .unset, .unset] [(.int v1)])) := by
    by_cases hc4_1 : (p4 &&& (1 : Int32)) = (0 : Int32)
    · have go2 : Go p e below A0 (s₁.setTop (mkF m 12 #[.val (.int p0), .val (.int p1), .val (.int p2), .val (.int p3), .val (.int p4), .unset, .unset, .unset, .unset, .unset, .unset, .unset, .unset, .unset, .unset, .unset, .unset, .unset, .unset, .unset, .unset] [(.int p1)])) := by
        intro t k
        refine go1 t ?_
        refine o_ifY X0 hx hby at_4 11 rfl (teq hc4_1).1 ?_
        refine o_iloadN X0 hx hby at_11 12 rfl rfl ?_
        exact k
      exact ⟨p1, (if_pos hc4_1).symm, go2⟩
    · have go3 : Go p e below A0 (s₁.setTop (mkF m 12 #[.val (.int p0), .val (.int p1), .val (.int p2), .val (.int p3), .val (.int p4), .unset, .unset, .unset, .unset, .unset, .unset, .unset, .unset, .unset, .unset, .unset, .unset, .unset, .unset, .unset, .unset] [(.int p0)])) := by
        intro t k
        refine go1 t ?_
        refine o_ifN X0 hx hby at_4 7 rfl (feq hc4_1).1 ?_
        refine o_iloadN X0 hx hby at_7 8 rfl rfl ?_
        refine o_goto X0 hx hby at_8 12 rfl ?_
        exact k
      exact ⟨p0, (if_neg hc4_1).symm, go3⟩
  have go5 : Go p e below A0 (s₁.setTop (mkF m 14 #[.val (.int p0), .val (.int p1), .val (.int p2), .val (.int p3), .val (.int p4), .val (.int v1), .unset, .unset, .unset, .unset, .unset, .unset, .unset, .unset, .unset, .unset, .unset, .unset, .unset, .unset, .unset] [])) := by
    intro t k
    refine go4 t ?_
    refine o_istore X0 hx hby at_12 14 rfl (l' := #[.val (.int p0), .val (.int p1), .val (.int p2), .val (.int p3), .val (.int p4), .val (.int v1), .unset, .unset, .unset, .unset, .unset, .unset, .unset, .unset, .unset, .unset, .unset, .unset, .unset, .unset, .unset]) rfl ?_
    exact k
  have go6 : Go p e below A0 (s₁.setTop (mkF m 18 #[.val (.int p0), .val (.int p1), .val (.int p2), .val (.int p3), .val (.int p4), .val (.int v1), .unset, .unset, .unset, .unset, .unset, .unset, .unset, .unset, .unset, .unset, .unset, .unset, .unset, .unset, .unset] [(.int (p4 &&& (2 : Int32)))])) := by
    intro t k
    refine go5 t ?_
    refine o_iload X0 hx hby at_14 16 rfl rfl ?_
    refine o_iconst X0 hx hby at_16 17 rfl (v := (2 : Int32)) rfl ?_
    refine o_iand X0 hx hby at_17 18 rfl ?_
    exact k
  obtain ⟨v2, hv2, go9⟩ : ∃ (v2 : Int32), v2 = (if (p4 &&& (2 : Int32)) = (0 : Int32) then (0 : Int32) else (1 : Int32)) ∧ Go p e below A0 (s₁.setTop (mkF m 26 #[.val (.int p0), .val (.int p1), .val (.int p2), .val (.int p3), .val (.int p4), .val (.int v1), .unset, .unset, .unset, .unset, .unset, .unset, .unset, .unset, .unset, .unset, .unset, .unset, .unset, .unset, .unset] [(.int v2)])) := by
    by_cases hc18_2 : (p4 &&& (2 : Int32)) = (0 : Int32)
    · have go7 : Go p e below A0 (s₁.setTop (mkF m 26 #[.val (.int p0), .val (.int p1), .val (.int p2), .val (.int p3), .val (.int p4), .val (.int v1), .unset, .unset, .unset, .unset, .unset, .unset, .unset, .unset, .unset, .unset, .unset, .unset, .unset, .unset, .unset] [(.int (0 : Int32))])) := by
        intro t k
        refine go6 t ?_
        refine o_ifY X0 hx hby at_18 25 rfl (teq hc18_2).1 ?_
        refine o_iconst X0 hx hby at_25 26 rfl (v := (0 : Int32)) rfl ?_
        exact k
      exact ⟨(0 : Int32), (if_pos hc18_2).symm, go7⟩
    · have go8 : Go p e below A0 (s₁.setTop (mkF m 26 #[.val (.int p0), .val (.int p1), .val (.int p2), .val (.int p3), .val (.int p4), .val (.int v1), .unset, .unset, .unset, .unset, .unset, .unset, .unset, .unset, .unset, .unset, .unset, .unset, .unset, .unset, .unset] [(.int (1 : Int32))])) := by
        intro t k
        refine go6 t ?_
        refine o_ifN X0 hx hby at_18 21 rfl (feq hc18_2).1 ?_
        refine o_iconst X0 hx hby at_21 22 rfl (v := (1 : Int32)) rfl ?_
        refine o_goto X0 hx hby at_22 26 rfl ?_
        exact k
      exact ⟨(1 : Int32), (if_neg hc18_2).symm, go8⟩
  have go10 : Go p e below A0 (s₁.setTop (mkF m 28 #[.val (.int p0), .val (.int p1), .val (.int p2), .val (.int p3), .val (.int p4), .val (.int v1), .val (.int v2), .unset, .unset, .unset, .unset, .unset, .unset, .unset, .unset, .unset, .unset, .unset, .unset, .unset, .unset] [])) := by
    intro t k
    refine go9 t ?_
    refine o_istore X0 hx hby at_26 28 rfl (l' := #[.val (.int p0), .val (.int p1), .val (.int p2), .val (.int p3), .val (.int p4), .val (.int v1), .val (.int v2), .unset, .unset, .unset, .unset, .unset, .unset, .unset, .unset, .unset, .unset, .unset, .unset, .unset, .unset]) rfl ?_
    exact k
  have go11 : Go p e below A0 (s₁.setTop (mkF m 36 #[.val (.int p0), .val (.int p1), .val (.int p2), .val (.int p3), .val (.int p4), .val (.int v1), .val (.int v2), .val (.int ((p2 &&& (2147483647 : Int32)) % (3 : Int32))), .unset, .unset, .unset, .unset, .unset, .unset, .unset, .unset, .unset, .unset, .unset, .unset, .unset] [])) := by
    intro t k
    refine go10 t ?_
    refine o_iloadN X0 hx hby at_28 29 rfl rfl ?_
    refine o_ldcInt X0 hx hby hown (mvT hZ (hw _ (List.mem_of_getElem? (i := 0) rfl))) at_29 31 rfl ?_
    refine o_iand X0 hx hby at_31 32 rfl ?_
    refine o_iconst X0 hx hby at_32 33 rfl (v := (3 : Int32)) rfl ?_
    refine o_irem X0 hx hby at_33 34 rfl (by decide) ?_
    refine o_istore X0 hx hby at_34 36 rfl (l' := #[.val (.int p0), .val (.int p1), .val (.int p2), .val (.int p3), .val (.int p4), .val (.int v1), .val (.int v2), .val (.int ((p2 &&& (2147483647 : Int32)) % (3 : Int32))), .unset, .unset, .unset, .unset, .unset, .unset, .unset, .unset, .unset, .unset, .unset, .unset, .unset]) rfl ?_
    exact k
  obtain ⟨v3, hv3, go12⟩ : ∃ v3 : Int32, v3 = ((p2 &&& (2147483647 : Int32)) % (3 : Int32)) ∧ Go p e below A0 (s₁.setTop (mkF m 36 #[.val (.int p0), .val (.int p1), .val (.int p2), .val (.int p3), .val (.int p4), .val (.int v1), .val (.int v2), .val (.int v3), .unset, .unset, .unset, .unset, .unset, .unset, .unset, .unset, .unset, .unset, .unset, .unset, .unset] [])) := ⟨_, rfl, go11⟩
  have go13 : Go p e below A0 (s₁.setTop (mkF m 47 #[.val (.int p0), .val (.int p1), .val (.int p2), .val (.int p3), .val (.int p4), .val (.int v1), .val (.int v2), .val (.int v3), .val (.int ((((p2.toUInt32 >>> ((8 : Int32) &&& 31).toUInt32).toInt32) &&& (255 : Int32)).toUInt32.toUInt16.toUInt32.toInt32)), .unset, .unset, .unset, .unset, .unset, .unset, .unset, .unset, .unset, .unset, .unset, .unset] [])) := by
    intro t k
    refine go12 t ?_
    refine o_iloadN X0 hx hby at_36 37 rfl rfl ?_
    refine o_bipush X0 hx hby at_37 39 rfl (v := (8 : Int32)) rfl ?_
    refine o_iushr X0 hx hby at_39 40 rfl ?_
    refine o_sipush X0 hx hby at_40 43 rfl (v := (255 : Int32)) rfl ?_
    refine o_iand X0 hx hby at_43 44 rfl ?_
    refine o_i2c X0 hx hby at_44 45 rfl ?_
    refine o_istore X0 hx hby at_45 47 rfl (l' := #[.val (.int p0), .val (.int p1), .val (.int p2), .val (.int p3), .val (.int p4), .val (.int v1), .val (.int v2), .val (.int v3), .val (.int ((((p2.toUInt32 >>> ((8 : Int32) &&& 31).toUInt32).toInt32) &&& (255 : Int32)).toUInt32.toUInt16.toUInt32.toInt32)), .unset, .unset, .unset, .unset, .unset, .unset, .unset, .unset, .unset, .unset, .unset, .unset]) rfl ?_
    exact k
  obtain ⟨v4, hv4, go14⟩ : ∃ v4 : Int32, v4 = ((((p2.toUInt32 >>> ((8 : Int32) &&& 31).toUInt32).toInt32) &&& (255 : Int32)).toUInt32.toUInt16.toUInt32.toInt32) ∧ Go p e below A0 (s₁.setTop (mkF m 47 #[.val (.int p0), .val (.int p1), .val (.int p2), .val (.int p3), .val (.int p4), .val (.int v1), .val (.int v2), .val (.int v3), .val (.int v4), .unset, .unset, .unset, .unset, .unset, .unset, .unset, .unset, .unset, .unset, .unset, .unset] [])) := ⟨_, rfl, go13⟩
  have go15 : Go p e below A0 (s₁.setTop (mkF m 58 #[.val (.int p0), .val (.int p1), .val (.int p2), .val (.int p3), .val (.int p4), .val (.int v1), .val (.int v2), .val (.int v3), .val (.int v4), .val (.int ((((p2.toUInt32 >>> ((16 : Int32) &&& 31).toUInt32).toInt32) &&& (255 : Int32)).toUInt32.toUInt16.toUInt32.toInt32)), .unset, .unset, .unset, .unset, .unset, .unset, .unset, .unset, .unset, .unset, .unset] [])) := by
    intro t k
    refine go14 t ?_
    refine o_iloadN X0 hx hby at_47 48 rfl rfl ?_
    refine o_bipush X0 hx hby at_48 50 rfl (v := (16 : Int32)) rfl ?_
    refine o_iushr X0 hx hby at_50 51 rfl ?_
    refine o_sipush X0 hx hby at_51 54 rfl (v := (255 : Int32)) rfl ?_
    refine o_iand X0 hx hby at_54 55 rfl ?_
    refine o_i2c X0 hx hby at_55 56 rfl ?_
    refine o_istore X0 hx hby at_56 58 rfl (l' := #[.val (.int p0), .val (.int p1), .val (.int p2), .val (.int p3), .val (.int p4), .val (.int v1), .val (.int v2), .val (.int v3), .val (.int v4), .val (.int ((((p2.toUInt32 >>> ((16 : Int32) &&& 31).toUInt32).toInt32) &&& (255 : Int32)).toUInt32.toUInt16.toUInt32.toInt32)), .unset, .unset, .unset, .unset, .unset, .unset, .unset, .unset, .unset, .unset, .unset]) rfl ?_
    exact k
  obtain ⟨v5, hv5, go16⟩ : ∃ v5 : Int32, v5 = ((((p2.toUInt32 >>> ((16 : Int32) &&& 31).toUInt32).toInt32) &&& (255 : Int32)).toUInt32.toUInt16.toUInt32.toInt32) ∧ Go p e below A0 (s₁.setTop (mkF m 58 #[.val (.int p0), .val (.int p1), .val (.int p2), .val (.int p3), .val (.int p4), .val (.int v1), .val (.int v2), .val (.int v3), .val (.int v4), .val (.int v5), .unset, .unset, .unset, .unset, .unset, .unset, .unset, .unset, .unset, .unset, .unset] [])) := ⟨_, rfl, go15⟩
  have go17 : Go p e below A0 (s₁.setTop (mkF m 60 #[.val (.int p0), .val (.int p1), .val (.int p2), .val (.int p3), .val (.int p4), .val (.int v1), .val (.int v2), .val (.int v3), .val (.int v4), .val (.int v5), .unset, .unset, .unset, .unset, .unset, .unset, .unset, .unset, .unset, .unset, .unset] [(.int v2)])) := by
    intro t k
    refine go16 t ?_
    refine o_iload X0 hx hby at_58 60 rfl rfl ?_
    exact k
  obtain ⟨v6, hv6, go20⟩ : ∃ (v6 : Int32), v6 = (if v2 = (0 : Int32) then ((p3 &&& (2147483647 : Int32)) % (3 : Int32)) else v3) ∧ Go p e below A0 (s₁.setTop (mkF m 74 #[.val (.int p0), .val (.int p1), .val (.int p2), .val (.int p3), .val (.int p4), .val (.int v1), .val (.int v2), .val (.int v3), .val (.int v4), .val (.int v5), .unset, .unset, .unset, .unset, .unset, .unset, .unset, .unset, .unset, .unset, .unset] [(.int v6)])) := by
    by_cases hc60_3 : v2 = (0 : Int32)
    · have go18 : Go p e below A0 (s₁.setTop (mkF m 74 #[.val (.int p0), .val (.int p1), .val (.int p2), .val (.int p3), .val (.int p4), .val (.int v1), .val (.int v2), .val (.int v3), .val (.int v4), .val (.int v5), .unset, .unset, .unset, .unset, .unset, .unset, .unset, .unset, .unset, .unset, .unset] [(.int ((p3 &&& (2147483647 : Int32)) % (3 : Int32)))])) := by
        intro t k
        refine go17 t ?_
        refine o_ifY X0 hx hby at_60 68 rfl (teq hc60_3).1 ?_
        refine o_iloadN X0 hx hby at_68 69 rfl rfl ?_
        refine o_ldcInt X0 hx hby hown (mvT hZ (hw _ (List.mem_of_getElem? (i := 0) rfl))) at_69 71 rfl ?_
        refine o_iand X0 hx hby at_71 72 rfl ?_
        refine o_iconst X0 hx hby at_72 73 rfl (v := (3 : Int32)) rfl ?_
        refine o_irem X0 hx hby at_73 74 rfl (by decide) ?_
        exact k
      exact ⟨((p3 &&& (2147483647 : Int32)) % (3 : Int32)), (if_pos hc60_3).symm, go18⟩
    · have go19 : Go p e below A0 (s₁.setTop (mkF m 74 #[.val (.int p0), .val (.int p1), .val (.int p2), .val (.int p3), .val (.int p4), .val (.int v1), .val (.int v2), .val (.int v3), .val (.int v4), .val (.int v5), .unset, .unset, .unset, .unset, .unset, .unset, .unset, .unset, .unset, .unset, .unset] [(.int v3)])) := by
        intro t k
        refine go17 t ?_
        refine o_ifN X0 hx hby at_60 63 rfl (feq hc60_3).1 ?_
        refine o_iload X0 hx hby at_63 65 rfl rfl ?_
        refine o_goto X0 hx hby at_65 74 rfl ?_
        exact k
      exact ⟨v3, (if_neg hc60_3).symm, go19⟩
  have go21 : Go p e below A0 (s₁.setTop (mkF m 76 #[.val (.int p0), .val (.int p1), .val (.int p2), .val (.int p3), .val (.int p4), .val (.int v1), .val (.int v2), .val (.int v3), .val (.int v4), .val (.int v5), .val (.int v6), .unset, .unset, .unset, .unset, .unset, .unset, .unset, .unset, .unset, .unset] [])) := by
    intro t k
    refine go20 t ?_
    refine o_istore X0 hx hby at_74 76 rfl (l' := #[.val (.int p0), .val (.int p1), .val (.int p2), .val (.int p3), .val (.int p4), .val (.int v1), .val (.int v2), .val (.int v3), .val (.int v4), .val (.int v5), .val (.int v6), .unset, .unset, .unset, .unset, .unset, .unset, .unset, .unset, .unset, .unset]) rfl ?_
    exact k
  have go22 : Go p e below A0 (s₁.setTop (mkF m 78 #[.val (.int p0), .val (.int p1), .val (.int p2), .val (.int p3), .val (.int p4), .val (.int v1), .val (.int v2), .val (.int v3), .val (.int v4), .val (.int v5), .val (.int v6), .unset, .unset, .unset, .unset, .unset, .unset, .unset, .unset, .unset, .unset] [(.int v2)])) := by
    intro t k
    refine go21 t ?_
    refine o_iload X0 hx hby at_76 78 rfl rfl ?_
    exact k
  obtain ⟨v7, hv7, go25⟩ : ∃ (v7 : Int32), v7 = (if v2 = (0 : Int32) then ((((p3.toUInt32 >>> ((8 : Int32) &&& 31).toUInt32).toInt32) &&& (255 : Int32)).toUInt32.toUInt16.toUInt32.toInt32) else v4) ∧ Go p e below A0 (s₁.setTop (mkF m 95 #[.val (.int p0), .val (.int p1), .val (.int p2), .val (.int p3), .val (.int p4), .val (.int v1), .val (.int v2), .val (.int v3), .val (.int v4), .val (.int v5), .val (.int v6), .unset, .unset, .unset, .unset, .unset, .unset, .unset, .unset, .unset, .unset] [(.int v7)])) := by
    by_cases hc78_4 : v2 = (0 : Int32)
    · have go23 : Go p e below A0 (s₁.setTop (mkF m 95 #[.val (.int p0), .val (.int p1), .val (.int p2), .val (.int p3), .val (.int p4), .val (.int v1), .val (.int v2), .val (.int v3), .val (.int v4), .val (.int v5), .val (.int v6), .unset, .unset, .unset, .unset, .unset, .unset, .unset, .unset, .unset, .unset] [(.int ((((p3.toUInt32 >>> ((8 : Int32) &&& 31).toUInt32).toInt32) &&& (255 : Int32)).toUInt32.toUInt16.toUInt32.toInt32))])) := by
        intro t k
        refine go22 t ?_
        refine o_ifY X0 hx hby at_78 86 rfl (teq hc78_4).1 ?_
        refine o_iloadN X0 hx hby at_86 87 rfl rfl ?_
        refine o_bipush X0 hx hby at_87 89 rfl (v := (8 : Int32)) rfl ?_
        refine o_iushr X0 hx hby at_89 90 rfl ?_
        refine o_sipush X0 hx hby at_90 93 rfl (v := (255 : Int32)) rfl ?_
        refine o_iand X0 hx hby at_93 94 rfl ?_
        refine o_i2c X0 hx hby at_94 95 rfl ?_
        exact k
      exact ⟨((((p3.toUInt32 >>> ((8 : Int32) &&& 31).toUInt32).toInt32) &&& (255 : Int32)).toUInt32.toUInt16.toUInt32.toInt32), (if_pos hc78_4).symm, go23⟩
    · have go24 : Go p e below A0 (s₁.setTop (mkF m 95 #[.val (.int p0), .val (.int p1), .val (.int p2), .val (.int p3), .val (.int p4), .val (.int v1), .val (.int v2), .val (.int v3), .val (.int v4), .val (.int v5), .val (.int v6), .unset, .unset, .unset, .unset, .unset, .unset, .unset, .unset, .unset, .unset] [(.int v4)])) := by
        intro t k
        refine go22 t ?_
        refine o_ifN X0 hx hby at_78 81 rfl (feq hc78_4).1 ?_
        refine o_iload X0 hx hby at_81 83 rfl rfl ?_
        refine o_goto X0 hx hby at_83 95 rfl ?_
        exact k
      exact ⟨v4, (if_neg hc78_4).symm, go24⟩
  have go26 : Go p e below A0 (s₁.setTop (mkF m 97 #[.val (.int p0), .val (.int p1), .val (.int p2), .val (.int p3), .val (.int p4), .val (.int v1), .val (.int v2), .val (.int v3), .val (.int v4), .val (.int v5), .val (.int v6), .val (.int v7), .unset, .unset, .unset, .unset, .unset, .unset, .unset, .unset, .unset] [])) := by
    intro t k
    refine go25 t ?_
    refine o_istore X0 hx hby at_95 97 rfl (l' := #[.val (.int p0), .val (.int p1), .val (.int p2), .val (.int p3), .val (.int p4), .val (.int v1), .val (.int v2), .val (.int v3), .val (.int v4), .val (.int v5), .val (.int v6), .val (.int v7), .unset, .unset, .unset, .unset, .unset, .unset, .unset, .unset, .unset]) rfl ?_
    exact k
  have go27 : Go p e below A0 (s₁.setTop (mkF m 99 #[.val (.int p0), .val (.int p1), .val (.int p2), .val (.int p3), .val (.int p4), .val (.int v1), .val (.int v2), .val (.int v3), .val (.int v4), .val (.int v5), .val (.int v6), .val (.int v7), .unset, .unset, .unset, .unset, .unset, .unset, .unset, .unset, .unset] [(.int v2)])) := by
    intro t k
    refine go26 t ?_
    refine o_iload X0 hx hby at_97 99 rfl rfl ?_
    exact k
  obtain ⟨v8, hv8, go30⟩ : ∃ (v8 : Int32), v8 = (if v2 = (0 : Int32) then ((((p3.toUInt32 >>> ((16 : Int32) &&& 31).toUInt32).toInt32) &&& (255 : Int32)).toUInt32.toUInt16.toUInt32.toInt32) else v5) ∧ Go p e below A0 (s₁.setTop (mkF m 116 #[.val (.int p0), .val (.int p1), .val (.int p2), .val (.int p3), .val (.int p4), .val (.int v1), .val (.int v2), .val (.int v3), .val (.int v4), .val (.int v5), .val (.int v6), .val (.int v7), .unset, .unset, .unset, .unset, .unset, .unset, .unset, .unset, .unset] [(.int v8)])) := by
    by_cases hc99_5 : v2 = (0 : Int32)
    · have go28 : Go p e below A0 (s₁.setTop (mkF m 116 #[.val (.int p0), .val (.int p1), .val (.int p2), .val (.int p3), .val (.int p4), .val (.int v1), .val (.int v2), .val (.int v3), .val (.int v4), .val (.int v5), .val (.int v6), .val (.int v7), .unset, .unset, .unset, .unset, .unset, .unset, .unset, .unset, .unset] [(.int ((((p3.toUInt32 >>> ((16 : Int32) &&& 31).toUInt32).toInt32) &&& (255 : Int32)).toUInt32.toUInt16.toUInt32.toInt32))])) := by
        intro t k
        refine go27 t ?_
        refine o_ifY X0 hx hby at_99 107 rfl (teq hc99_5).1 ?_
        refine o_iloadN X0 hx hby at_107 108 rfl rfl ?_
        refine o_bipush X0 hx hby at_108 110 rfl (v := (16 : Int32)) rfl ?_
        refine o_iushr X0 hx hby at_110 111 rfl ?_
        refine o_sipush X0 hx hby at_111 114 rfl (v := (255 : Int32)) rfl ?_
        refine o_iand X0 hx hby at_114 115 rfl ?_
        refine o_i2c X0 hx hby at_115 116 rfl ?_
        exact k
      exact ⟨((((p3.toUInt32 >>> ((16 : Int32) &&& 31).toUInt32).toInt32) &&& (255 : Int32)).toUInt32.toUInt16.toUInt32.toInt32), (if_pos hc99_5).symm, go28⟩
    · have go29 : Go p e below A0 (s₁.setTop (mkF m 116 #[.val (.int p0), .val (.int p1), .val (.int p2), .val (.int p3), .val (.int p4), .val (.int v1), .val (.int v2), .val (.int v3), .val (.int v4), .val (.int v5), .val (.int v6), .val (.int v7), .unset, .unset, .unset, .unset, .unset, .unset, .unset, .unset, .unset] [(.int v5)])) := by
        intro t k
        refine go27 t ?_
        refine o_ifN X0 hx hby at_99 102 rfl (feq hc99_5).1 ?_
        refine o_iload X0 hx hby at_102 104 rfl rfl ?_
        refine o_goto X0 hx hby at_104 116 rfl ?_
        exact k
      exact ⟨v5, (if_neg hc99_5).symm, go29⟩
  have go31 : Go p e below A0 (s₁.setTop (mkF m 118 #[.val (.int p0), .val (.int p1), .val (.int p2), .val (.int p3), .val (.int p4), .val (.int v1), .val (.int v2), .val (.int v3), .val (.int v4), .val (.int v5), .val (.int v6), .val (.int v7), .val (.int v8), .unset, .unset, .unset, .unset, .unset, .unset, .unset, .unset] [])) := by
    intro t k
    refine go30 t ?_
    refine o_istore X0 hx hby at_116 118 rfl (l' := #[.val (.int p0), .val (.int p1), .val (.int p2), .val (.int p3), .val (.int p4), .val (.int v1), .val (.int v2), .val (.int v3), .val (.int v4), .val (.int v5), .val (.int v6), .val (.int v7), .val (.int v8), .unset, .unset, .unset, .unset, .unset, .unset, .unset, .unset]) rfl ?_
    exact k
  have go32 : Go p e below A0 (s₁.setTop (mkF m 122 #[.val (.int p0), .val (.int p1), .val (.int p2), .val (.int p3), .val (.int p4), .val (.int v1), .val (.int v2), .val (.int v3), .val (.int v4), .val (.int v5), .val (.int v6), .val (.int v7), .val (.int v8), .unset, .unset, .unset, .unset, .unset, .unset, .unset, .unset] [(.int v6), (.int v3)])) := by
    intro t k
    refine go31 t ?_
    refine o_iload X0 hx hby at_118 120 rfl rfl ?_
    refine o_iload X0 hx hby at_120 122 rfl rfl ?_
    exact k
  obtain ⟨v15, hv15, go53⟩ : ∃ (v15 : Int32), v15 = (if v3 = v6 then (if v3 < (1 : Int32) then (if v3 < (2 : Int32) then (1 : Int32) else (if v5 = v8 then (1 : Int32) else (0 : Int32))) else (if v4 = v7 then (if v3 < (2 : Int32) then (1 : Int32) else (if v5 = v8 then (1 : Int32) else (0 : Int32))) else (0 : Int32))) else (0 : Int32)) ∧ Go p e below A0 (s₁.setTop (mkF m 156 #[.val (.int p0), .val (.int p1), .val (.int p2), .val (.int p3), .val (.int p4), .val (.int v1), .val (.int v2), .val (.int v3), .val (.int v4), .val (.int v5), .val (.int v6), .val (.int v7), .val (.int v8), .unset, .unset, .unset, .unset, .unset, .unset, .unset, .unset] [(.int v15)])) := by
    by_cases hc122_6 : v3 = v6
    · have go33 : Go p e below A0 (s₁.setTop (mkF m 128 #[.val (.int p0), .val (.int p1), .val (.int p2), .val (.int p3), .val (.int p4), .val (.int v1), .val (.int v2), .val (.int v3), .val (.int v4), .val (.int v5), .val (.int v6), .val (.int v7), .val (.int v8), .unset, .unset, .unset, .unset, .unset, .unset, .unset, .unset] [(.int (1 : Int32)), (.int v3)])) := by
        intro t k
        refine go32 t ?_
        refine o_icmpN X0 hx hby at_122 125 rfl (teq hc122_6).2 ?_
        refine o_iload X0 hx hby at_125 127 rfl rfl ?_
        refine o_iconst X0 hx hby at_127 128 rfl (v := (1 : Int32)) rfl ?_
        exact k
      obtain ⟨v14, hv14, go51⟩ : ∃ (v14 : Int32), v14 = (if v3 < (1 : Int32) then (if v3 < (2 : Int32) then (1 : Int32) else (if v5 = v8 then (1 : Int32) else (0 : Int32))) else (if v4 = v7 then (if v3 < (2 : Int32) then (1 : Int32) else (if v5 = v8 then (1 : Int32) else (0 : Int32))) else (0 : Int32))) ∧ Go p e below A0 (s₁.setTop (mkF m 156 #[.val (.int p0), .val (.int p1), .val (.int p2), .val (.int p3), .val (.int p4), .val (.int v1), .val (.int v2), .val (.int v3), .val (.int v4), .val (.int v5), .val (.int v6), .val (.int v7), .val (.int v8), .unset, .unset, .unset, .unset, .unset, .unset, .unset, .unset] [(.int v14)])) := by
        by_cases hc128_7 : v3 < (1 : Int32)
        · have go34 : Go p e below A0 (s₁.setTop (mkF m 141 #[.val (.int p0), .val (.int p1), .val (.int p2), .val (.int p3), .val (.int p4), .val (.int v1), .val (.int v2), .val (.int v3), .val (.int v4), .val (.int v5), .val (.int v6), .val (.int v7), .val (.int v8), .unset, .unset, .unset, .unset, .unset, .unset, .unset, .unset] [(.int (2 : Int32)), (.int v3)])) := by
            intro t k
            refine go33 t ?_
            refine o_icmpY X0 hx hby at_128 138 rfl (tlt hc128_7).1 ?_
            refine o_iload X0 hx hby at_138 140 rfl rfl ?_
            refine o_iconst X0 hx hby at_140 141 rfl (v := (2 : Int32)) rfl ?_
            exact k
          obtain ⟨v10, hv10, go40⟩ : ∃ (v10 : Int32), v10 = (if v3 < (2 : Int32) then (1 : Int32) else (if v5 = v8 then (1 : Int32) else (0 : Int32))) ∧ Go p e below A0 (s₁.setTop (mkF m 156 #[.val (.int p0), .val (.int p1), .val (.int p2), .val (.int p3), .val (.int p4), .val (.int v1), .val (.int v2), .val (.int v3), .val (.int v4), .val (.int v5), .val (.int v6), .val (.int v7), .val (.int v8), .unset, .unset, .unset, .unset, .unset, .unset, .unset, .unset] [(.int v10)])) := by
            by_cases hc141_8 : v3 < (2 : Int32)
            · have go35 : Go p e below A0 (s₁.setTop (mkF m 156 #[.val (.int p0), .val (.int p1), .val (.int p2), .val (.int p3), .val (.int p4), .val (.int v1), .val (.int v2), .val (.int v3), .val (.int v4), .val (.int v5), .val (.int v6), .val (.int v7), .val (.int v8), .unset, .unset, .unset, .unset, .unset, .unset, .unset, .unset] [(.int (1 : Int32))])) := by
                intro t k
                refine go34 t ?_
                refine o_icmpY X0 hx hby at_141 151 rfl (tlt hc141_8).1 ?_
                refine o_iconst X0 hx hby at_151 152 rfl (v := (1 : Int32)) rfl ?_
                refine o_goto X0 hx hby at_152 156 rfl ?_
                exact k
              exact ⟨(1 : Int32), (if_pos hc141_8).symm, go35⟩
            · have go36 : Go p e below A0 (s₁.setTop (mkF m 148 #[.val (.int p0), .val (.int p1), .val (.int p2), .val (.int p3), .val (.int p4), .val (.int v1), .val (.int v2), .val (.int v3), .val (.int v4), .val (.int v5), .val (.int v6), .val (.int v7), .val (.int v8), .unset, .unset, .unset, .unset, .unset, .unset, .unset, .unset] [(.int v8), (.int v5)])) := by
                intro t k
                refine go34 t ?_
                refine o_icmpN X0 hx hby at_141 144 rfl (flt hc141_8).1 ?_
                refine o_iload X0 hx hby at_144 146 rfl rfl ?_
                refine o_iload X0 hx hby at_146 148 rfl rfl ?_
                exact k
              obtain ⟨v9, hv9, go39⟩ : ∃ (v9 : Int32), v9 = (if v5 = v8 then (1 : Int32) else (0 : Int32)) ∧ Go p e below A0 (s₁.setTop (mkF m 156 #[.val (.int p0), .val (.int p1), .val (.int p2), .val (.int p3), .val (.int p4), .val (.int v1), .val (.int v2), .val (.int v3), .val (.int v4), .val (.int v5), .val (.int v6), .val (.int v7), .val (.int v8), .unset, .unset, .unset, .unset, .unset, .unset, .unset, .unset] [(.int v9)])) := by
                by_cases hc148_9 : v5 = v8
                · have go37 : Go p e below A0 (s₁.setTop (mkF m 156 #[.val (.int p0), .val (.int p1), .val (.int p2), .val (.int p3), .val (.int p4), .val (.int v1), .val (.int v2), .val (.int v3), .val (.int v4), .val (.int v5), .val (.int v6), .val (.int v7), .val (.int v8), .unset, .unset, .unset, .unset, .unset, .unset, .unset, .unset] [(.int (1 : Int32))])) := by
                    intro t k
                    refine go36 t ?_
                    refine o_icmpN X0 hx hby at_148 151 rfl (teq hc148_9).2 ?_
                    refine o_iconst X0 hx hby at_151 152 rfl (v := (1 : Int32)) rfl ?_
                    refine o_goto X0 hx hby at_152 156 rfl ?_
                    exact k
                  exact ⟨(1 : Int32), (if_pos hc148_9).symm, go37⟩
                · have go38 : Go p e below A0 (s₁.setTop (mkF m 156 #[.val (.int p0), .val (.int p1), .val (.int p2), .val (.int p3), .val (.int p4), .val (.int v1), .val (.int v2), .val (.int v3), .val (.int v4), .val (.int v5), .val (.int v6), .val (.int v7), .val (.int v8), .unset, .unset, .unset, .unset, .unset, .unset, .unset, .unset] [(.int (0 : Int32))])) := by
                    intro t k
                    refine go36 t ?_
                    refine o_icmpY X0 hx hby at_148 155 rfl (feq hc148_9).2 ?_
                    refine o_iconst X0 hx hby at_155 156 rfl (v := (0 : Int32)) rfl ?_
                    exact k
                  exact ⟨(0 : Int32), (if_neg hc148_9).symm, go38⟩
              rw [hv9] at go39
              exact ⟨(if v5 = v8 then (1 : Int32) else (0 : Int32)), (if_neg hc141_8).symm, go39⟩
          rw [hv10] at go40
          exact ⟨(if v3 < (2 : Int32) then (1 : Int32) else (if v5 = v8 then (1 : Int32) else (0 : Int32))), (if_pos hc128_7).symm, go40⟩
        · have go41 : Go p e below A0 (s₁.setTop (mkF m 135 #[.val (.int p0), .val (.int p1), .val (.int p2), .val (.int p3), .val (.int p4), .val (.int v1), .val (.int v2), .val (.int v3), .val (.int v4), .val (.int v5), .val (.int v6), .val (.int v7), .val (.int v8), .unset, .unset, .unset, .unset, .unset, .unset, .unset, .unset] [(.int v7), (.int v4)])) := by
            intro t k
            refine go33 t ?_
            refine o_icmpN X0 hx hby at_128 131 rfl (flt hc128_7).1 ?_
            refine o_iload X0 hx hby at_131 133 rfl rfl ?_
            refine o_iload X0 hx hby at_133 135 rfl rfl ?_
            exact k
          obtain ⟨v13, hv13, go50⟩ : ∃ (v13 : Int32), v13 = (if v4 = v7 then (if v3 < (2 : Int32) then (1 : Int32) else (if v5 = v8 then (1 : Int32) else (0 : Int32))) else (0 : Int32)) ∧ Go p e below A0 (s₁.setTop (mkF m 156 #[.val (.int p0), .val (.int p1), .val (.int p2), .val (.int p3), .val (.int p4), .val (.int v1), .val (.int v2), .val (.int v3), .val (.int v4), .val (.int v5), .val (.int v6), .val (.int v7), .val (.int v8), .unset, .unset, .unset, .unset, .unset, .unset, .unset, .unset] [(.int v13)])) := by
            by_cases hc135_10 : v4 = v7
            · have go42 : Go p e below A0 (s₁.setTop (mkF m 141 #[.val (.int p0), .val (.int p1), .val (.int p2), .val (.int p3), .val (.int p4), .val (.int v1), .val (.int v2), .val (.int v3), .val (.int v4), .val (.int v5), .val (.int v6), .val (.int v7), .val (.int v8), .unset, .unset, .unset, .unset, .unset, .unset, .unset, .unset] [(.int (2 : Int32)), (.int v3)])) := by
                intro t k
                refine go41 t ?_
                refine o_icmpN X0 hx hby at_135 138 rfl (teq hc135_10).2 ?_
                refine o_iload X0 hx hby at_138 140 rfl rfl ?_
                refine o_iconst X0 hx hby at_140 141 rfl (v := (2 : Int32)) rfl ?_
                exact k
              obtain ⟨v12, hv12, go48⟩ : ∃ (v12 : Int32), v12 = (if v3 < (2 : Int32) then (1 : Int32) else (if v5 = v8 then (1 : Int32) else (0 : Int32))) ∧ Go p e below A0 (s₁.setTop (mkF m 156 #[.val (.int p0), .val (.int p1), .val (.int p2), .val (.int p3), .val (.int p4), .val (.int v1), .val (.int v2), .val (.int v3), .val (.int v4), .val (.int v5), .val (.int v6), .val (.int v7), .val (.int v8), .unset, .unset, .unset, .unset, .unset, .unset, .unset, .unset] [(.int v12)])) := by
                by_cases hc141_11 : v3 < (2 : Int32)
                · have go43 : Go p e below A0 (s₁.setTop (mkF m 156 #[.val (.int p0), .val (.int p1), .val (.int p2), .val (.int p3), .val (.int p4), .val (.int v1), .val (.int v2), .val (.int v3), .val (.int v4), .val (.int v5), .val (.int v6), .val (.int v7), .val (.int v8), .unset, .unset, .unset, .unset, .unset, .unset, .unset, .unset] [(.int (1 : Int32))])) := by
                    intro t k
                    refine go42 t ?_
                    refine o_icmpY X0 hx hby at_141 151 rfl (tlt hc141_11).1 ?_
                    refine o_iconst X0 hx hby at_151 152 rfl (v := (1 : Int32)) rfl ?_
                    refine o_goto X0 hx hby at_152 156 rfl ?_
                    exact k
                  exact ⟨(1 : Int32), (if_pos hc141_11).symm, go43⟩
                · have go44 : Go p e below A0 (s₁.setTop (mkF m 148 #[.val (.int p0), .val (.int p1), .val (.int p2), .val (.int p3), .val (.int p4), .val (.int v1), .val (.int v2), .val (.int v3), .val (.int v4), .val (.int v5), .val (.int v6), .val (.int v7), .val (.int v8), .unset, .unset, .unset, .unset, .unset, .unset, .unset, .unset] [(.int v8), (.int v5)])) := by
                    intro t k
                    refine go42 t ?_
                    refine o_icmpN X0 hx hby at_141 144 rfl (flt hc141_11).1 ?_
                    refine o_iload X0 hx hby at_144 146 rfl rfl ?_
                    refine o_iload X0 hx hby at_146 148 rfl rfl ?_
                    exact k
                  obtain ⟨v11, hv11, go47⟩ : ∃ (v11 : Int32), v11 = (if v5 = v8 then (1 : Int32) else (0 : Int32)) ∧ Go p e below A0 (s₁.setTop (mkF m 156 #[.val (.int p0), .val (.int p1), .val (.int p2), .val (.int p3), .val (.int p4), .val (.int v1), .val (.int v2), .val (.int v3), .val (.int v4), .val (.int v5), .val (.int v6), .val (.int v7), .val (.int v8), .unset, .unset, .unset, .unset, .unset, .unset, .unset, .unset] [(.int v11)])) := by
                    by_cases hc148_12 : v5 = v8
                    · have go45 : Go p e below A0 (s₁.setTop (mkF m 156 #[.val (.int p0), .val (.int p1), .val (.int p2), .val (.int p3), .val (.int p4), .val (.int v1), .val (.int v2), .val (.int v3), .val (.int v4), .val (.int v5), .val (.int v6), .val (.int v7), .val (.int v8), .unset, .unset, .unset, .unset, .unset, .unset, .unset, .unset] [(.int (1 : Int32))])) := by
                        intro t k
                        refine go44 t ?_
                        refine o_icmpN X0 hx hby at_148 151 rfl (teq hc148_12).2 ?_
                        refine o_iconst X0 hx hby at_151 152 rfl (v := (1 : Int32)) rfl ?_
                        refine o_goto X0 hx hby at_152 156 rfl ?_
                        exact k
                      exact ⟨(1 : Int32), (if_pos hc148_12).symm, go45⟩
                    · have go46 : Go p e below A0 (s₁.setTop (mkF m 156 #[.val (.int p0), .val (.int p1), .val (.int p2), .val (.int p3), .val (.int p4), .val (.int v1), .val (.int v2), .val (.int v3), .val (.int v4), .val (.int v5), .val (.int v6), .val (.int v7), .val (.int v8), .unset, .unset, .unset, .unset, .unset, .unset, .unset, .unset] [(.int (0 : Int32))])) := by
                        intro t k
                        refine go44 t ?_
                        refine o_icmpY X0 hx hby at_148 155 rfl (feq hc148_12).2 ?_
                        refine o_iconst X0 hx hby at_155 156 rfl (v := (0 : Int32)) rfl ?_
                        exact k
                      exact ⟨(0 : Int32), (if_neg hc148_12).symm, go46⟩
                  rw [hv11] at go47
                  exact ⟨(if v5 = v8 then (1 : Int32) else (0 : Int32)), (if_neg hc141_11).symm, go47⟩
              rw [hv12] at go48
              exact ⟨(if v3 < (2 : Int32) then (1 : Int32) else (if v5 = v8 then (1 : Int32) else (0 : Int32))), (if_pos hc135_10).symm, go48⟩
            · have go49 : Go p e below A0 (s₁.setTop (mkF m 156 #[.val (.int p0), .val (.int p1), .val (.int p2), .val (.int p3), .val (.int p4), .val (.int v1), .val (.int v2), .val (.int v3), .val (.int v4), .val (.int v5), .val (.int v6), .val (.int v7), .val (.int v8), .unset, .unset, .unset, .unset, .unset, .unset, .unset, .unset] [(.int (0 : Int32))])) := by
                intro t k
                refine go41 t ?_
                refine o_icmpY X0 hx hby at_135 155 rfl (feq hc135_10).2 ?_
                refine o_iconst X0 hx hby at_155 156 rfl (v := (0 : Int32)) rfl ?_
                exact k
              exact ⟨(0 : Int32), (if_neg hc135_10).symm, go49⟩
          rw [hv13] at go50
          exact ⟨(if v4 = v7 then (if v3 < (2 : Int32) then (1 : Int32) else (if v5 = v8 then (1 : Int32) else (0 : Int32))) else (0 : Int32)), (if_neg hc128_7).symm, go50⟩
      rw [hv14] at go51
      exact ⟨(if v3 < (1 : Int32) then (if v3 < (2 : Int32) then (1 : Int32) else (if v5 = v8 then (1 : Int32) else (0 : Int32))) else (if v4 = v7 then (if v3 < (2 : Int32) then (1 : Int32) else (if v5 = v8 then (1 : Int32) else (0 : Int32))) else (0 : Int32))), (if_pos hc122_6).symm, go51⟩
    · have go52 : Go p e below A0 (s₁.setTop (mkF m 156 #[.val (.int p0), .val (.int p1), .val (.int p2), .val (.int p3), .val (.int p4), .val (.int v1), .val (.int v2), .val (.int v3), .val (.int v4), .val (.int v5), .val (.int v6), .val (.int v7), .val (.int v8), .unset, .unset, .unset, .unset, .unset, .unset, .unset, .unset] [(.int (0 : Int32))])) := by
        intro t k
        refine go32 t ?_
        refine o_icmpY X0 hx hby at_122 155 rfl (feq hc122_6).2 ?_
        refine o_iconst X0 hx hby at_155 156 rfl (v := (0 : Int32)) rfl ?_
        exact k
      exact ⟨(0 : Int32), (if_neg hc122_6).symm, go52⟩
  have go54 : Go p e below A0 (s₁.setTop (mkF m 158 #[.val (.int p0), .val (.int p1), .val (.int p2), .val (.int p3), .val (.int p4), .val (.int v1), .val (.int v2), .val (.int v3), .val (.int v4), .val (.int v5), .val (.int v6), .val (.int v7), .val (.int v8), .val (.int v15), .unset, .unset, .unset, .unset, .unset, .unset, .unset] [])) := by
    intro t k
    refine go53 t ?_
    refine o_istore X0 hx hby at_156 158 rfl (l' := #[.val (.int p0), .val (.int p1), .val (.int p2), .val (.int p3), .val (.int p4), .val (.int v1), .val (.int v2), .val (.int v3), .val (.int v4), .val (.int v5), .val (.int v6), .val (.int v7), .val (.int v8), .val (.int v15), .unset, .unset, .unset, .unset, .unset, .unset, .unset]) rfl ?_
    exact k
  have go55 : Go p e below A0 (s₁.setTop (mkF m 164 #[.val (.int p0), .val (.int p1), .val (.int p2), .val (.int p3), .val (.int p4), .val (.int v1), .val (.int v2), .val (.int v3), .val (.int v4), .val (.int v5), .val (.int v6), .val (.int v7), .val (.int v8), .val (.int v15), .unset, .unset, .unset, .unset, .unset, .unset, .unset] [(.int v5), (.int v4), (.int v3)])) := by
    intro t k
    refine go54 t ?_
    refine o_iload X0 hx hby at_158 160 rfl rfl ?_
    refine o_iload X0 hx hby at_160 162 rfl rfl ?_
    refine o_iload X0 hx hby at_162 164 rfl rfl ?_
    exact k
  have f_len_1 : v3 = 0 ∨ v3 = 1 ∨ v3 = 2 := pf0_len_0 p0 p1 p2 p3 p4 cs v1 v2 v3 v4 v5 v6 v7 v8 v15 hv1 hv2 hv3 hv4 hv5 hv6 hv7 hv8 hv15
  have f_le_2 : ¬ (255 : Int32) < nar .char v4 := pf0_le_1 p0 p1 p2 p3 p4 cs v1 v2 v3 v4 v5 v6 v7 v8 v15 hv1 hv2 hv3 hv4 hv5 hv6 hv7 hv8 hv15
  have f_le_3 : ¬ (255 : Int32) < nar .char v5 := pf0_le_2 p0 p1 p2 p3 p4 cs v1 v2 v3 v4 v5 v6 v7 v8 v15 hv1 hv2 hv3 hv4 hv5 hv6 hv7 hv8 hv15
  obtain ⟨_, _, ⟨T13, L13, k13, n13⟩, -, X13, S13, gr13, ⟨Lc13, hQ13, l13, y13, z13, ch13⟩, st13⟩ := callSS X0 hx (y := (⟨"com/example/racelint/racelint/check/ChoiceEqualsPinLaw", "make", "(ICC)Ljava/lang/String;"⟩ : MethodName)) hown (mvT hZ (hw _ (List.mem_of_getElem? (i := 1) rfl))) (mvT hZ (hw _ (List.mem_of_getElem? (i := 2) rfl))) (mvT hZ (hw _ (List.mem_of_getElem? (i := 3) rfl))) (mvT hZ (hw _ (List.mem_of_getElem? (i := 4) rfl))) (by decide) (backOfSH (s := s) (vm0 := s.vm) (W := 0) (rm1 l Z aw hw [] v3 v4 v5 cs h0 n0 Z0 (r0) (r1) (hcs) (f_len_1) (f_le_2) (f_le_3)) hZ (hw _ (List.mem_of_getElem? (i := 4) rfl)) (hw _ (List.mem_of_getElem? (i := 3) rfl)) (by decide) (by decide) hEW R0H.1) (g := (mkF m 164 #[.val (.int p0), .val (.int p1), .val (.int p2), .val (.int p3), .val (.int p4), .val (.int v1), .val (.int v2), .val (.int v3), .val (.int v4), .val (.int v5), .val (.int v6), .val (.int v7), .val (.int v8), .val (.int v15), .unset, .unset, .unset, .unset, .unset, .unset, .unset] [(.int v5), (.int v4), (.int v3)])) rfl (by rw [hml]; rfl) (argsL := [(.int v3), (.int v4), (.int v5)]) (rest := []) (lenOf pd_12 rfl) rfl (by show 2 * 0 + _ ≤ _; exact Nat.le_of_eq rfl) (hb hby at_164) (fun _ _ => ⟨rfl, e0, (by decide : 0 + 6 ≤ _), (by decide : 0 + 12 ≤ _)⟩)
  dsimp only [Pt.U, Pt.locs, Pt.cells, Pt.slots] at X13 l13 y13 z13 st13 hQ13 S13 gr13 ch13
  subst l13 y13 z13
  have hZ13q := State.Warmed39.trans hZ S13.1
  have hown13q : (s.setVm T13.vm).vm.findClass "com/example/racelint/racelint/check/ChoiceEqualsPinLaw" = some m.cls := by rw [show (s.setVm T13.vm).vm = T13.vm from rfl, S13.1.alike.findClass]; exact hown
  clear hZ hown
  obtain ⟨hZ, hown⟩ := And.intro hZ13q hown13q
  obtain ⟨r13_d, r13_kd, b13_b, rfl, N13q, K13q, sz_b13_bq, qf13_0, qf13_1, qf13_2, qf13_3, -⟩ := hQ13
  have g_b13_b : n0 ≤ b13_b := Nat.le_trans Z0 sz_b13_bq
  have f1 : Old Z n0 T13.heap := r1.keep K13q all0
  have Zp13 : n0 ≤ T13.heap.size := Nat.le_trans Z0 K13q.1
  have f2 : Exa Z T13.heap b13_b "java/lang/String" := qf13_0
  have f3 : Fld Z T13.heap b13_b "java/lang/String" "value" "[B" (.ref r13_d) := qf13_1
  have f4 : Fld Z T13.heap b13_b "java/lang/String" "coder" "B" (.int (0 : Int32)) := qf13_2
  have f5 : Arv Z T13.heap r13_d r13_kd .byte v3 (own_vs v3 v4 v5) (.int (0 : Int32)) := qf13_3
  have N13 := Fr.app N0 N13q
  have go56 : Go p e below A0 (T13.setTop (mkF m 167 #[.val (.int p0), .val (.int p1), .val (.int p2), .val (.int p3), .val (.int p4), .val (.int v1), .val (.int v2), .val (.int v3), .val (.int v4), .val (.int v5), .val (.int v6), .val (.int v7), .val (.int v8), .val (.int v15), .unset, .unset, .unset, .unset, .unset, .unset, .unset] [(.ref b13_b)])) := by
    intro t k
    refine go55 t ?_
    refine st13.trans ?_
    show Steps p.tables e below (T13.setTop (mkF m 167 #[.val (.int p0), .val (.int p1), .val (.int p2), .val (.int p3), .val (.int p4), .val (.int v1), .val (.int v2), .val (.int v3), .val (.int v4), .val (.int v5), .val (.int v6), .val (.int v7), .val (.int v8), .val (.int v15), .unset, .unset, .unset, .unset, .unset, .unset, .unset] [(.ref b13_b)])) _
    exact k
  have st13H : CHr Z own_EL s.vm h0 T13.vm T13.heap := ch13
  have R13H : CHr Z own_EL s.vm h0 T13.vm T13.heap := CHr.trans R0H st13H
  have go57 : Go p e below A0 (T13.setTop (mkF m 175 #[.val (.int p0), .val (.int p1), .val (.int p2), .val (.int p3), .val (.int p4), .val (.int v1), .val (.int v2), .val (.int v3), .val (.int v4), .val (.int v5), .val (.int v6), .val (.int v7), .val (.int v8), .val (.int v15), .val (.ref b13_b), .unset, .unset, .unset, .unset, .unset, .unset] [(.int v8), (.int v7), (.int v6)])) := by
    intro t k
    refine go56 t ?_
    refine o_astore X13 hx hby at_167 169 rfl rfl (l' := #[.val (.int p0), .val (.int p1), .val (.int p2), .val (.int p3), .val (.int p4), .val (.int v1), .val (.int v2), .val (.int v3), .val (.int v4), .val (.int v5), .val (.int v6), .val (.int v7), .val (.int v8), .val (.int v15), .val (.ref b13_b), .unset, .unset, .unset, .unset, .unset, .unset]) rfl ?_
    refine o_iload X13 hx hby at_169 171 rfl rfl ?_
    refine o_iload X13 hx hby at_171 173 rfl rfl ?_
    refine o_iload X13 hx hby at_173 175 rfl rfl ?_
    exact k
  have f_len_4 : v6 = 0 ∨ v6 = 1 ∨ v6 = 2 := pf0_len_3 p0 p1 p2 p3 p4 cs v1 v2 v3 v4 v5 v6 v7 v8 v15 hv1 hv2 hv3 hv4 hv5 hv6 hv7 hv8 hv15
  have f_le_5 : ¬ (255 : Int32) < nar .char v7 := pf0_le_4 p0 p1 p2 p3 p4 cs v1 v2 v3 v4 v5 v6 v7 v8 v15 hv1 hv2 hv3 hv4 hv5 hv6 hv7 hv8 hv15
  have f_le_6 : ¬ (255 : Int32) < nar .char v8 := pf0_le_5 p0 p1 p2 p3 p4 cs v1 v2 v3 v4 v5 v6 v7 v8 v15 hv1 hv2 hv3 hv4 hv5 hv6 hv7 hv8 hv15
  obtain ⟨_, _, ⟨T14, L14, k14, n14⟩, -, X14, S14, gr14, ⟨Lc14, hQ14, l14, y14, z14, ch14⟩, st14⟩ := callSS X13 hx (y := (⟨"com/example/racelint/racelint/check/ChoiceEqualsPinLaw", "make", "(ICC)Ljava/lang/String;"⟩ : MethodName)) hown (mvT hZ (hw _ (List.mem_of_getElem? (i := 1) rfl))) (mvT hZ (hw _ (List.mem_of_getElem? (i := 2) rfl))) (mvT hZ (hw _ (List.mem_of_getElem? (i := 3) rfl))) (mvT hZ (hw _ (List.mem_of_getElem? (i := 4) rfl))) (by decide) (backOfSH (s := s) (vm0 := T13.vm) (W := 0) (rm1 l Z aw hw [] v6 v7 v8 cs T13.heap n0 Zp13 (r0) (f1) (hcs) (f_len_4) (f_le_5) (f_le_6)) hZ (hw _ (List.mem_of_getElem? (i := 4) rfl)) (hw _ (List.mem_of_getElem? (i := 3) rfl)) (by decide) (by decide) hEW R13H.1) (g := (mkF m 175 #[.val (.int p0), .val (.int p1), .val (.int p2), .val (.int p3), .val (.int p4), .val (.int v1), .val (.int v2), .val (.int v3), .val (.int v4), .val (.int v5), .val (.int v6), .val (.int v7), .val (.int v8), .val (.int v15), .val (.ref b13_b), .unset, .unset, .unset, .unset, .unset, .unset] [(.int v8), (.int v7), (.int v6)])) rfl (by rw [hml]; rfl) (argsL := [(.int v6), (.int v7), (.int v8)]) (rest := []) (lenOf pd_12 rfl) rfl (by show 2 * 0 + _ ≤ _; exact Nat.le_of_eq rfl) (hb hby at_175) (fun _ _ => ⟨rfl, rfl, (by decide : 6 + 6 ≤ _), (by decide : 12 + 12 ≤ _)⟩)
  dsimp only [Pt.U, Pt.locs, Pt.cells, Pt.slots] at X14 l14 y14 z14 st14 hQ14 S14 gr14 ch14
  subst l14 y14 z14
  have hZ14q := State.Warmed39.trans hZ S14.1
  have hown14q : (s.setVm T14.vm).vm.findClass "com/example/racelint/racelint/check/ChoiceEqualsPinLaw" = some m.cls := by rw [show (s.setVm T14.vm).vm = T14.vm from rfl, S14.1.alike.findClass]; exact hown
  clear hZ hown
  obtain ⟨hZ, hown⟩ := And.intro hZ14q hown14q
  have S14f := foldS (s := s) S13 (Nat.le_refl _) S14 gr14
  obtain ⟨r14_d, r14_kd, b14_b, rfl, N14q, K14q, sz_b14_bq, qf14_0, qf14_1, qf14_2, qf14_3, -⟩ := hQ14
  have ne_b13_b_b14_b : b13_b ≠ b14_b := Nat.ne_of_lt (Nat.lt_of_lt_of_le f2.lt sz_b14_bq)
  have ne_r13_d_b14_b : r13_d ≠ b14_b := Nat.ne_of_lt (Nat.lt_of_lt_of_le f5.lt sz_b14_bq)
  have g_b14_b : n0 ≤ b14_b := Nat.le_trans Zp13 sz_b14_bq
  have f6 : Old Z n0 T14.heap := f1.keep K14q all0
  have f7 : Exa Z T14.heap b13_b "java/lang/String" := f2.keep K14q
  have f8 : Fld Z T14.heap b13_b "java/lang/String" "value" "[B" (.ref r13_d) := f3.keep K14q nin0
  have f9 : Fld Z T14.heap b13_b "java/lang/String" "coder" "B" (.int (0 : Int32)) := f4.keep K14q nin0
  have f10 : Arv Z T14.heap r13_d r13_kd .byte v3 (own_vs v3 v4 v5) (.int (0 : Int32)) := f5.keep K14q nin0
  have Zp14 : n0 ≤ T14.heap.size := Nat.le_trans Zp13 K14q.1
  have f11 : Exa Z T14.heap b14_b "java/lang/String" := qf14_0
  have f12 : Fld Z T14.heap b14_b "java/lang/String" "value" "[B" (.ref r14_d) := qf14_1
  have f13 : Fld Z T14.heap b14_b "java/lang/String" "coder" "B" (.int (0 : Int32)) := qf14_2
  have f14 : Arv Z T14.heap r14_d r14_kd .byte v6 (own_vs v6 v7 v8) (.int (0 : Int32)) := qf14_3
  have N14 := Fr.app N13 N14q
  have go58 : Go p e below A0 (T14.setTop (mkF m 178 #[.val (.int p0), .val (.int p1), .val (.int p2), .val (.int p3), .val (.int p4), .val (.int v1), .val (.int v2), .val (.int v3), .val (.int v4), .val (.int v5), .val (.int v6), .val (.int v7), .val (.int v8), .val (.int v15), .val (.ref b13_b), .unset, .unset, .unset, .unset, .unset, .unset] [(.ref b14_b)])) := by
    intro t k
    refine go57 t ?_
    refine st14.trans ?_
    show Steps p.tables e below (T14.setTop (mkF m 178 #[.val (.int p0), .val (.int p1), .val (.int p2), .val (.int p3), .val (.int p4), .val (.int v1), .val (.int v2), .val (.int v3), .val (.int v4), .val (.int v5), .val (.int v6), .val (.int v7), .val (.int v8), .val (.int v15), .val (.ref b13_b), .unset, .unset, .unset, .unset, .unset, .unset] [(.ref b14_b)])) _
    exact k
  have st14H : CHr Z own_EL T13.vm T13.heap T14.vm T14.heap := ch14
  have R14H : CHr Z own_EL s.vm h0 T14.vm T14.heap := CHr.trans R13H st14H
  obtain ⟨T15, h15, X15, e15, E15, A15, D15, -, st15⟩ := newO X14 hx hZ hown (hw _ (List.mem_of_getElem? (i := 35) rfl)) (hw _ (List.mem_of_getElem? (i := 36) rfl)) (hw _ (List.mem_of_getElem? (i := 37) rfl)) rfl (g := (mkF m 180 #[.val (.int p0), .val (.int p1), .val (.int p2), .val (.int p3), .val (.int p4), .val (.int v1), .val (.int v2), .val (.int v3), .val (.int v4), .val (.int v5), .val (.int v6), .val (.int v7), .val (.int v8), .val (.int v15), .val (.ref b13_b), .val (.ref b14_b), .unset, .unset, .unset, .unset, .unset] [])) rfl (hb hby at_180) (by decide) (by decide)
  obtain ⟨b15, g15⟩ : ∃ z, z = T14.heap.size := ⟨_, rfl⟩
  rw [← g15] at A15 D15 st15
  have ne_b13_b_b15 : b13_b ≠ b15 := Nat.ne_of_lt (Nat.lt_of_lt_of_le f7.lt (Nat.le_of_eq g15.symm))
  have ne_r13_d_b15 : r13_d ≠ b15 := Nat.ne_of_lt (Nat.lt_of_lt_of_le f10.lt (Nat.le_of_eq g15.symm))
  have ne_b14_b_b15 : b14_b ≠ b15 := Nat.ne_of_lt (Nat.lt_of_lt_of_le f11.lt (Nat.le_of_eq g15.symm))
  have ne_r14_d_b15 : r14_d ≠ b15 := Nat.ne_of_lt (Nat.lt_of_lt_of_le f14.lt (Nat.le_of_eq g15.symm))
  have g_b15 : n0 ≤ b15 := Nat.le_trans Zp14 (Nat.le_of_eq g15.symm)
  have st15H : CHr Z own_EL T14.vm T14.heap T14.vm h15 := CHr.ext E15 R14H.1
  have R15H : CHr Z own_EL s.vm h0 T14.vm h15 := CHr.trans R14H st15H
  have sf15_b15 : Safe Z own_EL T14.vm h15 b15 := Safe.ext E15 R14H.1 (Safe.new (Nat.le_of_eq g15.symm))
  have f15 : Old Z n0 h15 := f6.ext E15
  have f16 : Exa Z h15 b13_b "java/lang/String" := f7.ext E15
  have f17 : Fld Z h15 b13_b "java/lang/String" "value" "[B" (.ref r13_d) := f8.ext E15
  have f18 : Fld Z h15 b13_b "java/lang/String" "coder" "B" (.int (0 : Int32)) := f9.ext E15
  have f19 : Arv Z h15 r13_d r13_kd .byte v3 (own_vs v3 v4 v5) (.int (0 : Int32)) := f10.ext E15
  have f20 : Exa Z h15 b14_b "java/lang/String" := f11.ext E15
  have f21 : Fld Z h15 b14_b "java/lang/String" "value" "[B" (.ref r14_d) := f12.ext E15
  have f22 : Fld Z h15 b14_b "java/lang/String" "coder" "B" (.int (0 : Int32)) := f13.ext E15
  have f23 : Arv Z h15 r14_d r14_kd .byte v6 (own_vs v6 v7 v8) (.int (0 : Int32)) := f14.ext E15
  have Zp15 : n0 ≤ h15.size := Nat.le_trans Zp14 E15.1
  have sk15 := Nat.le_trans (Nat.le_refl _) E15.1
  have f24 : Exa Z h15 b15 "com/example/racelint/racelint/check/Schedule$Choice" := A15
  have f25 : Fld Z h15 b15 "com/example/racelint/racelint/check/Schedule$Choice" "thread" "I" (.int (0 : Int32)) := D15 (Or.inr (hw _ (List.mem_of_getElem? (i := 43) rfl))) (ty := .int) (by decide)
  have f26 : Fld Z h15 b15 "com/example/racelint/racelint/check/Schedule$Choice" "name" "Ljava/lang/String;" .null := D15 (Or.inr (hw _ (List.mem_of_getElem? (i := 45) rfl))) (ty := (.object "java/lang/String")) (by decide)
  have go59 : Go p e below A0 (T15.setTop (mkF m 187 #[.val (.int p0), .val (.int p1), .val (.int p2), .val (.int p3), .val (.int p4), .val (.int v1), .val (.int v2), .val (.int v3), .val (.int v4), .val (.int v5), .val (.int v6), .val (.int v7), .val (.int v8), .val (.int v15), .val (.ref b13_b), .val (.ref b14_b), .unset, .unset, .unset, .unset, .unset] [(.ref b13_b), (.int p0), (.ref b15), (.ref b15)])) := by
    intro t k
    refine go58 t ?_
    refine o_astore X14 hx hby at_178 180 rfl rfl (l' := #[.val (.int p0), .val (.int p1), .val (.int p2), .val (.int p3), .val (.int p4), .val (.int v1), .val (.int v2), .val (.int v3), .val (.int v4), .val (.int v5), .val (.int v6), .val (.int v7), .val (.int v8), .val (.int v15), .val (.ref b13_b), .val (.ref b14_b), .unset, .unset, .unset, .unset, .unset]) rfl ?_
    refine st15 _ ?_
    show Steps p.tables e below (T15.setTop (mkF m 183 #[.val (.int p0), .val (.int p1), .val (.int p2), .val (.int p3), .val (.int p4), .val (.int v1), .val (.int v2), .val (.int v3), .val (.int v4), .val (.int v5), .val (.int v6), .val (.int v7), .val (.int v8), .val (.int v15), .val (.ref b13_b), .val (.ref b14_b), .unset, .unset, .unset, .unset, .unset] [(.ref b15)])) _
    refine o_dup X15 hx hby at_183 184 rfl rfl ?_
    refine o_iloadN X15 hx hby at_184 185 rfl rfl ?_
    refine o_aload X15 hx hby at_185 187 rfl rfl rfl ?_
    exact k
  obtain ⟨_, _, ⟨T16, L16, k16, n16⟩, -, X16, ⟨Lc16, hQ16, l16, y16, z16⟩, st16⟩ := X15.specialBack hx (y := (⟨"com/example/racelint/racelint/check/Schedule$Choice", "<init>", "(ILjava/lang/String;)V"⟩ : MethodName)) rfl hown (mvT hZ (hw _ (List.mem_of_getElem? (i := 38) rfl))) (mvT hZ (hw _ (List.mem_of_getElem? (i := 39) rfl))) (mvT hZ (hw _ (List.mem_of_getElem? (i := 40) rfl))) (by decide) (backOf (W := 1) (rm8 l Z aw hw [] b15 p0 b13_b h15 n0 Zp15 (f24) (g_b15) (f25) (f26)) hZ (hw _ (List.mem_of_getElem? (i := 40) rfl)) (hw _ (List.mem_of_getElem? (i := 37) rfl)) (by decide) (by decide)) (g := (mkF m 187 #[.val (.int p0), .val (.int p1), .val (.int p2), .val (.int p3), .val (.int p4), .val (.int v1), .val (.int v2), .val (.int v3), .val (.int v4), .val (.int v5), .val (.int v6), .val (.int v7), .val (.int v8), .val (.int v15), .val (.ref b13_b), .val (.ref b14_b), .unset, .unset, .unset, .unset, .unset] [(.ref b13_b), (.int p0), (.ref b15), (.ref b15)])) rfl (by rw [hml]; rfl) (Steps.refl _) (a := b15) (argsL := [(.int p0), (.ref b13_b)]) (rest := [(.ref b15)]) (lenOf pd_13 rfl) rfl (by show 2 * 0 + _ ≤ _; exact Nat.le_of_eq rfl) (hb hby at_187) (fun _ _ => ⟨rfl, e15, (by decide : 13 + 0 ≤ _), (by decide : 26 + 0 ≤ _)⟩)
  dsimp only [Pt.U, Pt.locs, Pt.cells, Pt.slots] at X16 l16 y16 z16 st16 hQ16
  subst l16 y16 z16
  obtain ⟨rfl, N16q, K16q, qf16_0, qf16_1, -⟩ := hQ16
  have f27 : Old Z n0 T16.heap := f15.keep K16q (allS g_b15 all0)
  have f28 : Exa Z T16.heap b13_b "java/lang/String" := f16.keep K16q
  have f29 : Fld Z T16.heap b13_b "java/lang/String" "value" "[B" (.ref r13_d) := f17.keep K16q (ninS ne_b13_b_b15 nin0)
  have f30 : Fld Z T16.heap b13_b "java/lang/String" "coder" "B" (.int (0 : Int32)) := f18.keep K16q (ninS ne_b13_b_b15 nin0)
  have f31 : Arv Z T16.heap r13_d r13_kd .byte v3 (own_vs v3 v4 v5) (.int (0 : Int32)) := f19.keep K16q (ninS ne_r13_d_b15 nin0)
  have f32 : Exa Z T16.heap b14_b "java/lang/String" := f20.keep K16q
  have f33 : Fld Z T16.heap b14_b "java/lang/String" "value" "[B" (.ref r14_d) := f21.keep K16q (ninS ne_b14_b_b15 nin0)
  have f34 : Fld Z T16.heap b14_b "java/lang/String" "coder" "B" (.int (0 : Int32)) := f22.keep K16q (ninS ne_b14_b_b15 nin0)
  have f35 : Arv Z T16.heap r14_d r14_kd .byte v6 (own_vs v6 v7 v8) (.int (0 : Int32)) := f23.keep K16q (ninS ne_r14_d_b15 nin0)
  have f36 : Exa Z T16.heap b15 "com/example/racelint/racelint/check/Schedule$Choice" := f24.keep K16q
  have Zp16 : n0 ≤ T16.heap.size := Nat.le_trans Zp15 K16q.1
  have sk16 := Nat.le_trans sk15 K16q.1
  have f37 : Fld Z T16.heap b15 "com/example/racelint/racelint/check/Schedule$Choice" "thread" "I" (.int p0) := qf16_0
  have f38 : Fld Z T16.heap b15 "com/example/racelint/racelint/check/Schedule$Choice" "name" "Ljava/lang/String;" (.ref b13_b) := qf16_1
  have N16 := Fr.app N14 N16q
  have st16H : CHr Z own_EL T14.vm h15 T14.vm T16.heap := CHr.keep K16q (allS (P := fun x => Safe Z own_EL T14.vm h15 x) sf15_b15 all0) R15H.1
  have R16H : CHr Z own_EL s.vm h0 T14.vm T16.heap := CHr.trans R15H st16H
  have sf16_b15 : Safe Z own_EL T14.vm T16.heap b15 := CHr.safe st16H f24.lt sf15_b15
  obtain ⟨T17, h17, X17, e17, E17, A17, D17, -, st17⟩ := newO X16 hx hZ hown (hw _ (List.mem_of_getElem? (i := 35) rfl)) (hw _ (List.mem_of_getElem? (i := 36) rfl)) (hw _ (List.mem_of_getElem? (i := 37) rfl)) rfl (g := (mkF m 192 #[.val (.int p0), .val (.int p1), .val (.int p2), .val (.int p3), .val (.int p4), .val (.int v1), .val (.int v2), .val (.int v3), .val (.int v4), .val (.int v5), .val (.int v6), .val (.int v7), .val (.int v8), .val (.int v15), .val (.ref b13_b), .val (.ref b14_b), .val (.ref b15), .unset, .unset, .unset, .unset] [])) rfl (hb hby at_192) (by decide) (by decide)
  obtain ⟨b17, g17⟩ : ∃ z, z = T16.heap.size := ⟨_, rfl⟩
  rw [← g17] at A17 D17 st17
  have ne_b13_b_b17 : b13_b ≠ b17 := Nat.ne_of_lt (Nat.lt_of_lt_of_le f28.lt (Nat.le_of_eq g17.symm))
  have ne_r13_d_b17 : r13_d ≠ b17 := Nat.ne_of_lt (Nat.lt_of_lt_of_le f31.lt (Nat.le_of_eq g17.symm))
  have ne_b14_b_b17 : b14_b ≠ b17 := Nat.ne_of_lt (Nat.lt_of_lt_of_le f32.lt (Nat.le_of_eq g17.symm))
  have ne_r14_d_b17 : r14_d ≠ b17 := Nat.ne_of_lt (Nat.lt_of_lt_of_le f35.lt (Nat.le_of_eq g17.symm))
  have ne_b15_b17 : b15 ≠ b17 := Nat.ne_of_lt (Nat.lt_of_lt_of_le f36.lt (Nat.le_of_eq g17.symm))
  have g_b17 : n0 ≤ b17 := Nat.le_trans Zp16 (Nat.le_of_eq g17.symm)
  have st17H : CHr Z own_EL T14.vm T16.heap T14.vm h17 := CHr.ext E17 R16H.1
  have R17H : CHr Z own_EL s.vm h0 T14.vm h17 := CHr.trans R16H st17H
  have sf17_b15 : Safe Z own_EL T14.vm h17 b15 := CHr.safe st17H f36.lt sf16_b15
  have sf17_b17 : Safe Z own_EL T14.vm h17 b17 := Safe.ext E17 R16H.1 (Safe.new (Nat.le_of_eq g17.symm))
  have f39 : Old Z n0 h17 := f27.ext E17
  have f40 : Exa Z h17 b13_b "java/lang/String" := f28.ext E17
  have f41 : Fld Z h17 b13_b "java/lang/String" "value" "[B" (.ref r13_d) := f29.ext E17
  have f42 : Fld Z h17 b13_b "java/lang/String" "coder" "B" (.int (0 : Int32)) := f30.ext E17
  have f43 : Arv Z h17 r13_d r13_kd .byte v3 (own_vs v3 v4 v5) (.int (0 : Int32)) := f31.ext E17
  have f44 : Exa Z h17 b14_b "java/lang/String" := f32.ext E17
  have f45 : Fld Z h17 b14_b "java/lang/String" "value" "[B" (.ref r14_d) := f33.ext E17
  have f46 : Fld Z h17 b14_b "java/lang/String" "coder" "B" (.int (0 : Int32)) := f34.ext E17
  have f47 : Arv Z h17 r14_d r14_kd .byte v6 (own_vs v6 v7 v8) (.int (0 : Int32)) := f35.ext E17
  have f48 : Exa Z h17 b15 "com/example/racelint/racelint/check/Schedule$Choice" := f36.ext E17
  have f49 : Fld Z h17 b15 "com/example/racelint/racelint/check/Schedule$Choice" "thread" "I" (.int p0) := f37.ext E17
  have f50 : Fld Z h17 b15 "com/example/racelint/racelint/check/Schedule$Choice" "name" "Ljava/lang/String;" (.ref b13_b) := f38.ext E17
  have Zp17 : n0 ≤ h17.size := Nat.le_trans Zp16 E17.1
  have sk17 := Nat.le_trans sk16 E17.1
  have f51 : Exa Z h17 b17 "com/example/racelint/racelint/check/Schedule$Choice" := A17
  have f52 : Fld Z h17 b17 "com/example/racelint/racelint/check/Schedule$Choice" "thread" "I" (.int (0 : Int32)) := D17 (Or.inr (hw _ (List.mem_of_getElem? (i := 43) rfl))) (ty := .int) (by decide)
  have f53 : Fld Z h17 b17 "com/example/racelint/racelint/check/Schedule$Choice" "name" "Ljava/lang/String;" .null := D17 (Or.inr (hw _ (List.mem_of_getElem? (i := 45) rfl))) (ty := (.object "java/lang/String")) (by decide)
  have go60 : Go p e below A0 (T17.setTop (mkF m 200 #[.val (.int p0), .val (.int p1), .val (.int p2), .val (.int p3), .val (.int p4), .val (.int v1), .val (.int v2), .val (.int v3), .val (.int v4), .val (.int v5), .val (.int v6), .val (.int v7), .val (.int v8), .val (.int v15), .val (.ref b13_b), .val (.ref b14_b), .val (.ref b15), .unset, .unset, .unset, .unset] [(.ref b14_b), (.int v1), (.ref b17), (.ref b17)])) := by
    intro t k
    refine go59 t ?_
    refine st16.trans ?_
    show Steps p.tables e below (T16.setTop (mkF m 190 #[.val (.int p0), .val (.int p1), .val (.int p2), .val (.int p3), .val (.int p4), .val (.int v1), .val (.int v2), .val (.int v3), .val (.int v4), .val (.int v5), .val (.int v6), .val (.int v7), .val (.int v8), .val (.int v15), .val (.ref b13_b), .val (.ref b14_b), .unset, .unset, .unset, .unset, .unset] [(.ref b15)])) _
    refine o_astore X16 hx hby at_190 192 rfl rfl (l' := #[.val (.int p0), .val (.int p1), .val (.int p2), .val (.int p3), .val (.int p4), .val (.int v1), .val (.int v2), .val (.int v3), .val (.int v4), .val (.int v5), .val (.int v6), .val (.int v7), .val (.int v8), .val (.int v15), .val (.ref b13_b), .val (.ref b14_b), .val (.ref b15), .unset, .unset, .unset, .unset]) rfl ?_
    refine st17 _ ?_
    show Steps p.tables e below (T17.setTop (mkF m 195 #[.val (.int p0), .val (.int p1), .val (.int p2), .val (.int p3), .val (.int p4), .val (.int v1), .val (.int v2), .val (.int v3), .val (.int v4), .val (.int v5), .val (.int v6), .val (.int v7), .val (.int v8), .val (.int v15), .val (.ref b13_b), .val (.ref b14_b), .val (.ref b15), .unset, .unset, .unset, .unset] [(.ref b17)])) _
    refine o_dup X17 hx hby at_195 196 rfl rfl ?_
    refine o_iload X17 hx hby at_196 198 rfl rfl ?_
    refine o_aload X17 hx hby at_198 200 rfl rfl rfl ?_
    exact k
  obtain ⟨_, _, ⟨T18, L18, k18, n18⟩, -, X18, ⟨Lc18, hQ18, l18, y18, z18⟩, st18⟩ := X17.specialBack hx (y := (⟨"com/example/racelint/racelint/check/Schedule$Choice", "<init>", "(ILjava/lang/String;)V"⟩ : MethodName)) rfl hown (mvT hZ (hw _ (List.mem_of_getElem? (i := 38) rfl))) (mvT hZ (hw _ (List.mem_of_getElem? (i := 39) rfl))) (mvT hZ (hw _ (List.mem_of_getElem? (i := 40) rfl))) (by decide) (backOf (W := 1) (rm8 l Z aw hw [] b17 v1 b14_b h17 n0 Zp17 (f51) (g_b17) (f52) (f53)) hZ (hw _ (List.mem_of_getElem? (i := 40) rfl)) (hw _ (List.mem_of_getElem? (i := 37) rfl)) (by decide) (by decide)) (g := (mkF m 200 #[.val (.int p0), .val (.int p1), .val (.int p2), .val (.int p3), .val (.int p4), .val (.int v1), .val (.int v2), .val (.int v3), .val (.int v4), .val (.int v5), .val (.int v6), .val (.int v7), .val (.int v8), .val (.int v15), .val (.ref b13_b), .val (.ref b14_b), .val (.ref b15), .unset, .unset, .unset, .unset] [(.ref b14_b), (.int v1), (.ref b17), (.ref b17)])) rfl (by rw [hml]; rfl) (Steps.refl _) (a := b17) (argsL := [(.int v1), (.ref b14_b)]) (rest := [(.ref b17)]) (lenOf pd_13 rfl) rfl (by show 2 * 0 + _ ≤ _; exact Nat.le_of_eq rfl) (hb hby at_200) (fun _ _ => ⟨rfl, e17, (by decide : 14 + 0 ≤ _), (by decide : 28 + 0 ≤ _)⟩)
  dsimp only [Pt.U, Pt.locs, Pt.cells, Pt.slots] at X18 l18 y18 z18 st18 hQ18
  subst l18 y18 z18
  obtain ⟨rfl, N18q, K18q, qf18_0, qf18_1, -⟩ := hQ18
  have f54 : Old Z n0 T18.heap := f39.keep K18q (allS g_b17 all0)
  have f55 : Exa Z T18.heap b13_b "java/lang/String" := f40.keep K18q
  have f56 : Fld Z T18.heap b13_b "java/lang/String" "value" "[B" (.ref r13_d) := f41.keep K18q (ninS ne_b13_b_b17 nin0)
  have f57 : Fld Z T18.heap b13_b "java/lang/String" "coder" "B" (.int (0 : Int32)) := f42.keep K18q (ninS ne_b13_b_b17 nin0)
  have f58 : Arv Z T18.heap r13_d r13_kd .byte v3 (own_vs v3 v4 v5) (.int (0 : Int32)) := f43.keep K18q (ninS ne_r13_d_b17 nin0)
  have f59 : Exa Z T18.heap b14_b "java/lang/String" := f44.keep K18q
  have f60 : Fld Z T18.heap b14_b "java/lang/String" "value" "[B" (.ref r14_d) := f45.keep K18q (ninS ne_b14_b_b17 nin0)
  have f61 : Fld Z T18.heap b14_b "java/lang/String" "coder" "B" (.int (0 : Int32)) := f46.keep K18q (ninS ne_b14_b_b17 nin0)
  have f62 : Arv Z T18.heap r14_d r14_kd .byte v6 (own_vs v6 v7 v8) (.int (0 : Int32)) := f47.keep K18q (ninS ne_r14_d_b17 nin0)
  have f63 : Exa Z T18.heap b15 "com/example/racelint/racelint/check/Schedule$Choice" := f48.keep K18q
  have f64 : Fld Z T18.heap b15 "com/example/racelint/racelint/check/Schedule$Choice" "thread" "I" (.int p0) := f49.keep K18q (ninS ne_b15_b17 nin0)
  have f65 : Fld Z T18.heap b15 "com/example/racelint/racelint/check/Schedule$Choice" "name" "Ljava/lang/String;" (.ref b13_b) := f50.keep K18q (ninS ne_b15_b17 nin0)
  have f66 : Exa Z T18.heap b17 "com/example/racelint/racelint/check/Schedule$Choice" := f51.keep K18q
  have Zp18 : n0 ≤ T18.heap.size := Nat.le_trans Zp17 K18q.1
  have sk18 := Nat.le_trans sk17 K18q.1
  have f67 : Fld Z T18.heap b17 "com/example/racelint/racelint/check/Schedule$Choice" "thread" "I" (.int v1) := qf18_0
  have f68 : Fld Z T18.heap b17 "com/example/racelint/racelint/check/Schedule$Choice" "name" "Ljava/lang/String;" (.ref b14_b) := qf18_1
  have N18 := Fr.app N16 N18q
  have st18H : CHr Z own_EL T14.vm h17 T14.vm T18.heap := CHr.keep K18q (allS (P := fun x => Safe Z own_EL T14.vm h17 x) sf17_b17 all0) R17H.1
  have R18H : CHr Z own_EL s.vm h0 T14.vm T18.heap := CHr.trans R17H st18H
  have sf18_b15 : Safe Z own_EL T14.vm T18.heap b15 := CHr.safe st18H f48.lt sf17_b15
  have sf18_b17 : Safe Z own_EL T14.vm T18.heap b17 := CHr.safe st18H f51.lt sf17_b17
  have go61 : Go p e below A0 (T18.setTop (mkF m 213 #[.val (.int p0), .val (.int p1), .val (.int p2), .val (.int p3), .val (.int p4), .val (.int v1), .val (.int v2), .val (.int v3), .val (.int v4), .val (.int v5), .val (.int v6), .val (.int v7), .val (.int v8), .val (.int v15), .val (.ref b13_b), .val (.ref b14_b), .val (.ref b15), .val (.ref b17), .val (.int (((p4.toUInt32 >>> ((2 : Int32) &&& 31).toUInt32).toInt32) &&& (3 : Int32))), .unset, .unset] [])) := by
    intro t k
    refine go60 t ?_
    refine st18.trans ?_
    show Steps p.tables e below (T18.setTop (mkF m 203 #[.val (.int p0), .val (.int p1), .val (.int p2), .val (.int p3), .val (.int p4), .val (.int v1), .val (.int v2), .val (.int v3), .val (.int v4), .val (.int v5), .val (.int v6), .val (.int v7), .val (.int v8), .val (.int v15), .val (.ref b13_b), .val (.ref b14_b), .val (.ref b15), .unset, .unset, .unset, .unset] [(.ref b17)])) _
    refine o_astore X18 hx hby at_203 205 rfl rfl (l' := #[.val (.int p0), .val (.int p1), .val (.int p2), .val (.int p3), .val (.int p4), .val (.int v1), .val (.int v2), .val (.int v3), .val (.int v4), .val (.int v5), .val (.int v6), .val (.int v7), .val (.int v8), .val (.int v15), .val (.ref b13_b), .val (.ref b14_b), .val (.ref b15), .val (.ref b17), .unset, .unset, .unset]) rfl ?_
    refine o_iload X18 hx hby at_205 207 rfl rfl ?_
    refine o_iconst X18 hx hby at_207 208 rfl (v := (2 : Int32)) rfl ?_
    refine o_iushr X18 hx hby at_208 209 rfl ?_
    refine o_iconst X18 hx hby at_209 210 rfl (v := (3 : Int32)) rfl ?_
    refine o_iand X18 hx hby at_210 211 rfl ?_
    refine o_istore X18 hx hby at_211 213 rfl (l' := #[.val (.int p0), .val (.int p1), .val (.int p2), .val (.int p3), .val (.int p4), .val (.int v1), .val (.int v2), .val (.int v3), .val (.int v4), .val (.int v5), .val (.int v6), .val (.int v7), .val (.int v8), .val (.int v15), .val (.ref b13_b), .val (.ref b14_b), .val (.ref b15), .val (.ref b17), .val (.int (((p4.toUInt32 >>> ((2 : Int32) &&& 31).toUInt32).toInt32) &&& (3 : Int32))), .unset, .unset]) rfl ?_
    exact k
  obtain ⟨v16, hv16, go62⟩ : ∃ v16 : Int32, v16 = (((p4.toUInt32 >>> ((2 : Int32) &&& 31).toUInt32).toInt32) &&& (3 : Int32)) ∧ Go p e below A0 (T18.setTop (mkF m 213 #[.val (.int p0), .val (.int p1), .val (.int p2), .val (.int p3), .val (.int p4), .val (.int v1), .val (.int v2), .val (.int v3), .val (.int v4), .val (.int v5), .val (.int v6), .val (.int v7), .val (.int v8), .val (.int v15), .val (.ref b13_b), .val (.ref b14_b), .val (.ref b15), .val (.ref b17), .val (.int v16), .unset, .unset] [])) := ⟨_, rfl, go61⟩
  have go63 : Go p e below A0 (T18.setTop (mkF m 215 #[.val (.int p0), .val (.int p1), .val (.int p2), .val (.int p3), .val (.int p4), .val (.int v1), .val (.int v2), .val (.int v3), .val (.int v4), .val (.int v5), .val (.int v6), .val (.int v7), .val (.int v8), .val (.int v15), .val (.ref b13_b), .val (.ref b14_b), .val (.ref b15), .val (.ref b17), .val (.int v16), .unset, .unset] [(.int v16)])) := by
    intro t k
    refine go62 t ?_
    refine o_iload X18 hx hby at_213 215 rfl rfl ?_
    exact k
  by_cases hc215_19 : v16 = (0 : Int32)
  · have go64 : Go p e below A0 (T18.setTop (mkF m 225 #[.val (.int p0), .val (.int p1), .val (.int p2), .val (.int p3), .val (.int p4), .val (.int v1), .val (.int v2), .val (.int v3), .val (.int v4), .val (.int v5), .val (.int v6), .val (.int v7), .val (.int v8), .val (.int v15), .val (.ref b13_b), .val (.ref b14_b), .val (.ref b15), .val (.ref b17), .val (.int v16), .val (.ref b17), .unset] [(.int v1), (.int p0)])) := by
      intro t k
      refine go63 t ?_
      refine o_ifN X18 hx hby at_215 218 rfl (teq hc215_19).2 ?_
      refine o_aload X18 hx hby at_218 220 rfl rfl rfl ?_
      refine o_astore X18 hx hby at_220 222 rfl rfl (l' := #[.val (.int p0), .val (.int p1), .val (.int p2), .val (.int p3), .val (.int p4), .val (.int v1), .val (.int v2), .val (.int v3), .val (.int v4), .val (.int v5), .val (.int v6), .val (.int v7), .val (.int v8), .val (.int v15), .val (.ref b13_b), .val (.ref b14_b), .val (.ref b15), .val (.ref b17), .val (.int v16), .val (.ref b17), .unset]) rfl ?_
      refine o_iloadN X18 hx hby at_222 223 rfl rfl ?_
      refine o_iload X18 hx hby at_223 225 rfl rfl ?_
      exact k
    obtain ⟨v18, hv18, go70⟩ : ∃ (v18 : Int32), v18 = (if p0 = v1 then (if v15 = (0 : Int32) then (0 : Int32) else (1 : Int32)) else (0 : Int32)) ∧ Go p e below A0 (T18.setTop (mkF m 238 #[.val (.int p0), .val (.int p1), .val (.int p2), .val (.int p3), .val (.int p4), .val (.int v1), .val (.int v2), .val (.int v3), .val (.int v4), .val (.int v5), .val (.int v6), .val (.int v7), .val (.int v8), .val (.int v15), .val (.ref b13_b), .val (.ref b14_b), .val (.ref b15), .val (.ref b17), .val (.int v16), .val (.ref b17), .unset] [(.int v18)])) := by
      by_cases hc225_20 : p0 = v1
      · have go65 : Go p e below A0 (T18.setTop (mkF m 230 #[.val (.int p0), .val (.int p1), .val (.int p2), .val (.int p3), .val (.int p4), .val (.int v1), .val (.int v2), .val (.int v3), .val (.int v4), .val (.int v5), .val (.int v6), .val (.int v7), .val (.int v8), .val (.int v15), .val (.ref b13_b), .val (.ref b14_b), .val (.ref b15), .val (.ref b17), .val (.int v16), .val (.ref b17), .unset] [(.int v15)])) := by
          intro t k
          refine go64 t ?_
          refine o_icmpN X18 hx hby at_225 228 rfl (teq hc225_20).2 ?_
          refine o_iload X18 hx hby at_228 230 rfl rfl ?_
          exact k
        obtain ⟨v17, hv17, go68⟩ : ∃ (v17 : Int32), v17 = (if v15 = (0 : Int32) then (0 : Int32) else (1 : Int32)) ∧ Go p e below A0 (T18.setTop (mkF m 238 #[.val (.int p0), .val (.int p1), .val (.int p2), .val (.int p3), .val (.int p4), .val (.int v1), .val (.int v2), .val (.int v3), .val (.int v4), .val (.int v5), .val (.int v6), .val (.int v7), .val (.int v8), .val (.int v15), .val (.ref b13_b), .val (.ref b14_b), .val (.ref b15), .val (.ref b17), .val (.int v16), .val (.ref b17), .unset] [(.int v17)])) := by
          by_cases hc230_21 : v15 = (0 : Int32)
          · have go66 : Go p e below A0 (T18.setTop (mkF m 238 #[.val (.int p0), .val (.int p1), .val (.int p2), .val (.int p3), .val (.int p4), .val (.int v1), .val (.int v2), .val (.int v3), .val (.int v4), .val (.int v5), .val (.int v6), .val (.int v7), .val (.int v8), .val (.int v15), .val (.ref b13_b), .val (.ref b14_b), .val (.ref b15), .val (.ref b17), .val (.int v16), .val (.ref b17), .unset] [(.int (0 : Int32))])) := by
              intro t k
              refine go65 t ?_
              refine o_ifY X18 hx hby at_230 237 rfl (teq hc230_21).1 ?_
              refine o_iconst X18 hx hby at_237 238 rfl (v := (0 : Int32)) rfl ?_
              exact k
            exact ⟨(0 : Int32), (if_pos hc230_21).symm, go66⟩
          · have go67 : Go p e below A0 (T18.setTop (mkF m 238 #[.val (.int p0), .val (.int p1), .val (.int p2), .val (.int p3), .val (.int p4), .val (.int v1), .val (.int v2), .val (.int v3), .val (.int v4), .val (.int v5), .val (.int v6), .val (.int v7), .val (.int v8), .val (.int v15), .val (.ref b13_b), .val (.ref b14_b), .val (.ref b15), .val (.ref b17), .val (.int v16), .val (.ref b17), .unset] [(.int (1 : Int32))])) := by
              intro t k
              refine go65 t ?_
              refine o_ifN X18 hx hby at_230 233 rfl (feq hc230_21).1 ?_
              refine o_iconst X18 hx hby at_233 234 rfl (v := (1 : Int32)) rfl ?_
              refine o_goto X18 hx hby at_234 238 rfl ?_
              exact k
            exact ⟨(1 : Int32), (if_neg hc230_21).symm, go67⟩
        rw [hv17] at go68
        exact ⟨(if v15 = (0 : Int32) then (0 : Int32) else (1 : Int32)), (if_pos hc225_20).symm, go68⟩
      · have go69 : Go p e below A0 (T18.setTop (mkF m 238 #[.val (.int p0), .val (.int p1), .val (.int p2), .val (.int p3), .val (.int p4), .val (.int v1), .val (.int v2), .val (.int v3), .val (.int v4), .val (.int v5), .val (.int v6), .val (.int v7), .val (.int v8), .val (.int v15), .val (.ref b13_b), .val (.ref b14_b), .val (.ref b15), .val (.ref b17), .val (.int v16), .val (.ref b17), .unset] [(.int (0 : Int32))])) := by
          intro t k
          refine go64 t ?_
          refine o_icmpY X18 hx hby at_225 237 rfl (feq hc225_20).2 ?_
          refine o_iconst X18 hx hby at_237 238 rfl (v := (0 : Int32)) rfl ?_
          exact k
        exact ⟨(0 : Int32), (if_neg hc225_20).symm, go69⟩
    have go71 : Go p e below A0 (T18.setTop (mkF m 240 #[.val (.int p0), .val (.int p1), .val (.int p2), .val (.int p3), .val (.int p4), .val (.int v1), .val (.int v2), .val (.int v3), .val (.int v4), .val (.int v5), .val (.int v6), .val (.int v7), .val (.int v8), .val (.int v15), .val (.ref b13_b), .val (.ref b14_b), .val (.ref b15), .val (.ref b17), .val (.int v16), .val (.ref b17), .val (.int v18)] [])) := by
      intro t k
      refine go70 t ?_
      refine o_istore X18 hx hby at_238 240 rfl (l' := #[.val (.int p0), .val (.int p1), .val (.int p2), .val (.int p3), .val (.int p4), .val (.int v1), .val (.int v2), .val (.int v3), .val (.int v4), .val (.int v5), .val (.int v6), .val (.int v7), .val (.int v8), .val (.int v15), .val (.ref b13_b), .val (.ref b14_b), .val (.ref b15), .val (.ref b17), .val (.int v16), .val (.ref b17), .val (.int v18)]) rfl ?_
      exact k
    have go72 : Go p e below A0 (T18.setTop (mkF m 285 #[.val (.int p0), .val (.int p1), .val (.int p2), .val (.int p3), .val (.int p4), .val (.int v1), .val (.int v2), .val (.int v3), .val (.int v4), .val (.int v5), .val (.int v6), .val (.int v7), .val (.int v8), .val (.int v15), .val (.ref b13_b), .val (.ref b14_b), .val (.ref b15), .val (.ref b17), .val (.int v16), .val (.ref b17), .val (.int v18)] [(.ref b17), (.ref b15)])) := by
      intro t k
      refine go71 t ?_
      refine o_goto X18 hx hby at_240 281 rfl ?_
      refine o_aload X18 hx hby at_281 283 rfl rfl rfl ?_
      refine o_aload X18 hx hby at_283 285 rfl rfl rfl ?_
      exact k
    have f_hn_7 : v3 = 0 ∨ v3 = 1 ∨ v3 = 2 := pf0_hn_6 p0 p1 p2 p3 p4 cs v1 v2 v3 v4 v5 v6 v7 v8 v15 v16 v18 hv1 hv2 hv3 hv4 hv5 hv6 hv7 hv8 hv15 hv16 hv18 hc215_19
    obtain ⟨cq22, kq22, q22a, q22b, q22c⟩ := isOf hZ rfl f63
    obtain ⟨_, _, ⟨T22, L22, k22, n22⟩, -, X22, ⟨Lc22, hQ22, l22, y22, z22⟩, st22⟩ := X18.virtualBack hx (y := (⟨"com/example/racelint/racelint/check/Schedule$Choice", "equals", "(Ljava/lang/Object;)Z"⟩ : MethodName)) (z := (⟨"com/example/racelint/racelint/check/Schedule$Choice", "equals", "(Ljava/lang/Object;)Z"⟩ : MethodName)) hown (mvT hZ (hw _ (List.mem_of_getElem? (i := 46) rfl))) (mvT hZ (hw _ (List.mem_of_getElem? (i := 47) rfl))) (notFace_of_selects (args := #[]) (mvT hZ (hw _ (List.mem_of_getElem? (i := 49) rfl)))) (mvT hZ (hw _ (List.mem_of_getElem? (i := 49) rfl))) (mvT hZ (hw _ (List.mem_of_getElem? (i := 48) rfl))) (by decide) (backOf (W := 0) (rm9c l Z aw hw [] b15 b17 p0 b13_b v1 b14_b r13_d r14_d r13_kd r14_kd cs v3 v4 v5 v6 v7 v8 T18.heap n0 Zp18 (f63) (f64) (f65) (f66) (f67) (f68) (f55) (f56) (f57) (f58) (f59) (f60) (f61) (f62) (ne_b13_b_b14_b) (f_hn_7) (r0) (f54) (hcs)) hZ (hw _ (List.mem_of_getElem? (i := 50) rfl)) (hw _ (List.mem_of_getElem? (i := 37) rfl)) (by decide) (by decide)) q22a q22c (g := (mkF m 285 #[.val (.int p0), .val (.int p1), .val (.int p2), .val (.int p3), .val (.int p4), .val (.int v1), .val (.int v2), .val (.int v3), .val (.int v4), .val (.int v5), .val (.int v6), .val (.int v7), .val (.int v8), .val (.int v15), .val (.ref b13_b), .val (.ref b14_b), .val (.ref b15), .val (.ref b17), .val (.int v16), .val (.ref b17), .val (.int v18)] [(.ref b17), (.ref b15)])) rfl (by rw [hml]; rfl) (Steps.refl _) (argsL := [(.ref b17)]) (rest := []) (lenOf pd_11 rfl) rfl (by show 2 * 0 + _ ≤ _; exact Nat.le_of_eq rfl) (hb hby at_285) (fun _ _ => ⟨rfl, rfl, (by decide : 14 + 0 ≤ _), (by decide : 28 + 0 ≤ _)⟩)
    dsimp only [Pt.U, Pt.locs, Pt.cells, Pt.slots] at X22 l22 y22 z22 st22 hQ22
    subst l22 y22 z22
    obtain ⟨rfl, N22q, e22⟩ := hQ22
    have N22 := Fr.app N18 N22q
    have go73 : Go p e below A0 (T22.setTop (mkF m 288 #[.val (.int p0), .val (.int p1), .val (.int p2), .val (.int p3), .val (.int p4), .val (.int v1), .val (.int v2), .val (.int v3), .val (.int v4), .val (.int v5), .val (.int v6), .val (.int v7), .val (.int v8), .val (.int v15), .val (.ref b13_b), .val (.ref b14_b), .val (.ref b15), .val (.ref b17), .val (.int v16), .val (.ref b17), .val (.int v18)] [(.int (Fcc p0 v1 cs v3 v4 v5 v6 v7 v8))])) := by
      intro t k
      refine go72 t ?_
      refine st22.trans ?_
      show Steps p.tables e below (T22.setTop (mkF m 288 #[.val (.int p0), .val (.int p1), .val (.int p2), .val (.int p3), .val (.int p4), .val (.int v1), .val (.int v2), .val (.int v3), .val (.int v4), .val (.int v5), .val (.int v6), .val (.int v7), .val (.int v8), .val (.int v15), .val (.ref b13_b), .val (.ref b14_b), .val (.ref b15), .val (.ref b17), .val (.int v16), .val (.ref b17), .val (.int v18)] [(.int (Fcc p0 v1 cs v3 v4 v5 v6 v7 v8))])) _
      exact k
    obtain ⟨v19, hv19, go74⟩ : ∃ v19 : Int32, v19 = (Fcc p0 v1 cs v3 v4 v5 v6 v7 v8) ∧ Go p e below A0 (T22.setTop (mkF m 288 #[.val (.int p0), .val (.int p1), .val (.int p2), .val (.int p3), .val (.int p4), .val (.int v1), .val (.int v2), .val (.int v3), .val (.int v4), .val (.int v5), .val (.int v6), .val (.int v7), .val (.int v8), .val (.int v15), .val (.ref b13_b), .val (.ref b14_b), .val (.ref b15), .val (.ref b17), .val (.int v16), .val (.ref b17), .val (.int v18)] [(.int v19)])) := ⟨_, rfl, go73⟩
    have go75 : Go p e below A0 (T22.setTop (mkF m 290 #[.val (.int p0), .val (.int p1), .val (.int p2), .val (.int p3), .val (.int p4), .val (.int v1), .val (.int v2), .val (.int v3), .val (.int v4), .val (.int v5), .val (.int v6), .val (.int v7), .val (.int v8), .val (.int v15), .val (.ref b13_b), .val (.ref b14_b), .val (.ref b15), .val (.ref b17), .val (.int v16), .val (.ref b17), .val (.int v18)] [(.int v18), (.int v19)])) := by
      intro t k
      refine go74 t ?_
      refine o_iload X22 hx hby at_288 290 rfl rfl ?_
      exact k
    obtain ⟨v20, hv20, go78⟩ : ∃ (v20 : Int32), v20 = (if v19 = v18 then (1 : Int32) else (0 : Int32)) ∧ Go p e below A0 (T22.setTop (mkF m 298 #[.val (.int p0), .val (.int p1), .val (.int p2), .val (.int p3), .val (.int p4), .val (.int v1), .val (.int v2), .val (.int v3), .val (.int v4), .val (.int v5), .val (.int v6), .val (.int v7), .val (.int v8), .val (.int v15), .val (.ref b13_b), .val (.ref b14_b), .val (.ref b15), .val (.ref b17), .val (.int v16), .val (.ref b17), .val (.int v18)] [(.int v20)])) := by
      by_cases hc290_23 : v19 = v18
      · have go76 : Go p e below A0 (T22.setTop (mkF m 298 #[.val (.int p0), .val (.int p1), .val (.int p2), .val (.int p3), .val (.int p4), .val (.int v1), .val (.int v2), .val (.int v3), .val (.int v4), .val (.int v5), .val (.int v6), .val (.int v7), .val (.int v8), .val (.int v15), .val (.ref b13_b), .val (.ref b14_b), .val (.ref b15), .val (.ref b17), .val (.int v16), .val (.ref b17), .val (.int v18)] [(.int (1 : Int32))])) := by
          intro t k
          refine go75 t ?_
          refine o_icmpN X22 hx hby at_290 293 rfl (teq hc290_23).2 ?_
          refine o_iconst X22 hx hby at_293 294 rfl (v := (1 : Int32)) rfl ?_
          refine o_goto X22 hx hby at_294 298 rfl ?_
          exact k
        exact ⟨(1 : Int32), (if_pos hc290_23).symm, go76⟩
      · have go77 : Go p e below A0 (T22.setTop (mkF m 298 #[.val (.int p0), .val (.int p1), .val (.int p2), .val (.int p3), .val (.int p4), .val (.int v1), .val (.int v2), .val (.int v3), .val (.int v4), .val (.int v5), .val (.int v6), .val (.int v7), .val (.int v8), .val (.int v15), .val (.ref b13_b), .val (.ref b14_b), .val (.ref b15), .val (.ref b17), .val (.int v16), .val (.ref b17), .val (.int v18)] [(.int (0 : Int32))])) := by
          intro t k
          refine go75 t ?_
          refine o_icmpY X22 hx hby at_290 297 rfl (feq hc290_23).2 ?_
          refine o_iconst X22 hx hby at_297 298 rfl (v := (0 : Int32)) rfl ?_
          exact k
        exact ⟨(0 : Int32), (if_neg hc290_23).symm, go77⟩
    have h1 : v20 = (1 : Int32) := pl_0_0 p0 p1 p2 p3 p4 cs v1 v2 v3 v4 v5 v6 v7 v8 v15 v16 v18 v19 v20 hv1 hv2 hv3 hv4 hv5 hv6 hv7 hv8 hv15 hv16 hv18 hv19 hv20 hc215_19
    rw [h1] at go78
    rw [hA0] at go78
    obtain ⟨fs, hr, hrun, hended, hRW⟩ := X22.leaveW (s := s) S14f (by rw [e22]; exact sk18) (v := some (.int (1 : Int32))) (fun h => by rw [Bd.returns] at h; cases h)
    have hCHend : CHr Z own_EL s.vm s.heap T22.vm T22.heap := by rw [hh, e22]; exact CHr.trans R18H (CHv.at (s := s) (vm0 := T14.vm) X22 hZ hEW R18H.1)
    refine ⟨_, _, go78 _ (o_retZ X22 hx Bd.returns (hb hby at_298) (Or.inr rfl) hr), hrun, hended, _, _, rfl, ?_, hCHend, hRW.1, hRW.2.1, hRW.2.2.1, hRW.2.2.2.mono (by decide) (by decide)⟩
    show Q0 Z p0 p1 p2 p3 p4 cs h0 n0 _ T22.heap _
    rw [e22]
    exact ⟨rfl, N22⟩
  · have go79 : Go p e below A0 (T18.setTop (mkF m 246 #[.val (.int p0), .val (.int p1), .val (.int p2), .val (.int p3), .val (.int p4), .val (.int v1), .val (.int v2), .val (.int v3), .val (.int v4), .val (.int v5), .val (.int v6), .val (.int v7), .val (.int v8), .val (.int v15), .val (.ref b13_b), .val (.ref b14_b), .val (.ref b15), .val (.ref b17), .val (.int v16), .unset, .unset] [(.int (1 : Int32)), (.int v16)])) := by
      intro t k
      refine go63 t ?_
      refine o_ifY X18 hx hby at_215 243 rfl (feq hc215_19).2 ?_
      refine o_iload X18 hx hby at_243 245 rfl rfl ?_
      refine o_iconst X18 hx hby at_245 246 rfl (v := (1 : Int32)) rfl ?_
      exact k
    by_cases hc246_24 : v16 = (1 : Int32)
    · have go80 : Go p e below A0 (T18.setTop (mkF m 255 #[.val (.int p0), .val (.int p1), .val (.int p2), .val (.int p3), .val (.int p4), .val (.int v1), .val (.int v2), .val (.int v3), .val (.int v4), .val (.int v5), .val (.int v6), .val (.int v7), .val (.int v8), .val (.int v15), .val (.ref b13_b), .val (.ref b14_b), .val (.ref b15), .val (.ref b17), .val (.int v16), .val .null, .val (.int (0 : Int32))] [])) := by
        intro t k
        refine go79 t ?_
        refine o_icmpN X18 hx hby at_246 249 rfl (teq hc246_24).2 ?_
        refine o_aconstNull X18 hx hby at_249 250 rfl ?_
        refine o_astore X18 hx hby at_250 252 rfl rfl (l' := #[.val (.int p0), .val (.int p1), .val (.int p2), .val (.int p3), .val (.int p4), .val (.int v1), .val (.int v2), .val (.int v3), .val (.int v4), .val (.int v5), .val (.int v6), .val (.int v7), .val (.int v8), .val (.int v15), .val (.ref b13_b), .val (.ref b14_b), .val (.ref b15), .val (.ref b17), .val (.int v16), .val .null, .unset]) rfl ?_
        refine o_iconst X18 hx hby at_252 253 rfl (v := (0 : Int32)) rfl ?_
        refine o_istore X18 hx hby at_253 255 rfl (l' := #[.val (.int p0), .val (.int p1), .val (.int p2), .val (.int p3), .val (.int p4), .val (.int v1), .val (.int v2), .val (.int v3), .val (.int v4), .val (.int v5), .val (.int v6), .val (.int v7), .val (.int v8), .val (.int v15), .val (.ref b13_b), .val (.ref b14_b), .val (.ref b15), .val (.ref b17), .val (.int v16), .val .null, .val (.int (0 : Int32))]) rfl ?_
        exact k
      have go81 : Go p e below A0 (T18.setTop (mkF m 285 #[.val (.int p0), .val (.int p1), .val (.int p2), .val (.int p3), .val (.int p4), .val (.int v1), .val (.int v2), .val (.int v3), .val (.int v4), .val (.int v5), .val (.int v6), .val (.int v7), .val (.int v8), .val (.int v15), .val (.ref b13_b), .val (.ref b14_b), .val (.ref b15), .val (.ref b17), .val (.int v16), .val .null, .val (.int (0 : Int32))] [.null, (.ref b15)])) := by
        intro t k
        refine go80 t ?_
        refine o_goto X18 hx hby at_255 281 rfl ?_
        refine o_aload X18 hx hby at_281 283 rfl rfl rfl ?_
        refine o_aload X18 hx hby at_283 285 rfl rfl rfl ?_
        exact k
      obtain ⟨cq25, kq25, q25a, q25b, q25c⟩ := isOf hZ rfl f63
      obtain ⟨_, _, ⟨T25, L25, k25, n25⟩, -, X25, ⟨Lc25, hQ25, l25, y25, z25⟩, st25⟩ := X18.virtualBack hx (y := (⟨"com/example/racelint/racelint/check/Schedule$Choice", "equals", "(Ljava/lang/Object;)Z"⟩ : MethodName)) (z := (⟨"com/example/racelint/racelint/check/Schedule$Choice", "equals", "(Ljava/lang/Object;)Z"⟩ : MethodName)) hown (mvT hZ (hw _ (List.mem_of_getElem? (i := 46) rfl))) (mvT hZ (hw _ (List.mem_of_getElem? (i := 47) rfl))) (notFace_of_selects (args := #[]) (mvT hZ (hw _ (List.mem_of_getElem? (i := 49) rfl)))) (mvT hZ (hw _ (List.mem_of_getElem? (i := 49) rfl))) (mvT hZ (hw _ (List.mem_of_getElem? (i := 48) rfl))) (by decide) (backOf (W := 0) (rm9n l Z aw hw [] b15 T18.heap n0 Zp18 (f63)) hZ (hw _ (List.mem_of_getElem? (i := 50) rfl)) (hw _ (List.mem_of_getElem? (i := 37) rfl)) (by decide) (by decide)) q25a q25c (g := (mkF m 285 #[.val (.int p0), .val (.int p1), .val (.int p2), .val (.int p3), .val (.int p4), .val (.int v1), .val (.int v2), .val (.int v3), .val (.int v4), .val (.int v5), .val (.int v6), .val (.int v7), .val (.int v8), .val (.int v15), .val (.ref b13_b), .val (.ref b14_b), .val (.ref b15), .val (.ref b17), .val (.int v16), .val .null, .val (.int (0 : Int32))] [.null, (.ref b15)])) rfl (by rw [hml]; rfl) (Steps.refl _) (argsL := [.null]) (rest := []) (lenOf pd_11 rfl) rfl (by show 2 * 0 + _ ≤ _; exact Nat.le_of_eq rfl) (hb hby at_285) (fun _ _ => ⟨rfl, rfl, (by decide : 14 + 0 ≤ _), (by decide : 28 + 0 ≤ _)⟩)
      dsimp only [Pt.U, Pt.locs, Pt.cells, Pt.slots] at X25 l25 y25 z25 st25 hQ25
      subst l25 y25 z25
      obtain ⟨rfl, N25q, e25⟩ := hQ25
      have N25 := Fr.app N18 N25q
      have go82 : Go p e below A0 (T25.setTop (mkF m 288 #[.val (.int p0), .val (.int p1), .val (.int p2), .val (.int p3), .val (.int p4), .val (.int v1), .val (.int v2), .val (.int v3), .val (.int v4), .val (.int v5), .val (.int v6), .val (.int v7), .val (.int v8), .val (.int v15), .val (.ref b13_b), .val (.ref b14_b), .val (.ref b15), .val (.ref b17), .val (.int v16), .val .null, .val (.int (0 : Int32))] [(.int (0 : Int32))])) := by
        intro t k
        refine go81 t ?_
        refine st25.trans ?_
        show Steps p.tables e below (T25.setTop (mkF m 288 #[.val (.int p0), .val (.int p1), .val (.int p2), .val (.int p3), .val (.int p4), .val (.int v1), .val (.int v2), .val (.int v3), .val (.int v4), .val (.int v5), .val (.int v6), .val (.int v7), .val (.int v8), .val (.int v15), .val (.ref b13_b), .val (.ref b14_b), .val (.ref b15), .val (.ref b17), .val (.int v16), .val .null, .val (.int (0 : Int32))] [(.int (0 : Int32))])) _
        exact k
      have go83 : Go p e below A0 (T25.setTop (mkF m 298 #[.val (.int p0), .val (.int p1), .val (.int p2), .val (.int p3), .val (.int p4), .val (.int v1), .val (.int v2), .val (.int v3), .val (.int v4), .val (.int v5), .val (.int v6), .val (.int v7), .val (.int v8), .val (.int v15), .val (.ref b13_b), .val (.ref b14_b), .val (.ref b15), .val (.ref b17), .val (.int v16), .val .null, .val (.int (0 : Int32))] [(.int (1 : Int32))])) := by
        intro t k
        refine go82 t ?_
        refine o_iload X25 hx hby at_288 290 rfl rfl ?_
        refine o_icmpN X25 hx hby at_290 293 rfl (teq (show (0 : Int32) = (0 : Int32) by decide)).2 ?_
        refine o_iconst X25 hx hby at_293 294 rfl (v := (1 : Int32)) rfl ?_
        refine o_goto X25 hx hby at_294 298 rfl ?_
        exact k
      rw [hA0] at go83
      obtain ⟨fs, hr, hrun, hended, hRW⟩ := X25.leaveW (s := s) S14f (by rw [e25]; exact sk18) (v := some (.int (1 : Int32))) (fun h => by rw [Bd.returns] at h; cases h)
      have hCHend : CHr Z own_EL s.vm s.heap T25.vm T25.heap := by rw [hh, e25]; exact CHr.trans R18H (CHv.at (s := s) (vm0 := T14.vm) X25 hZ hEW R18H.1)
      refine ⟨_, _, go83 _ (o_retZ X25 hx Bd.returns (hb hby at_298) (Or.inr rfl) hr), hrun, hended, _, _, rfl, ?_, hCHend, hRW.1, hRW.2.1, hRW.2.2.1, hRW.2.2.2.mono (by decide) (by decide)⟩
      show Q0 Z p0 p1 p2 p3 p4 cs h0 n0 _ T25.heap _
      rw [e25]
      exact ⟨rfl, N25⟩
    · have go84 : Go p e below A0 (T18.setTop (mkF m 261 #[.val (.int p0), .val (.int p1), .val (.int p2), .val (.int p3), .val (.int p4), .val (.int v1), .val (.int v2), .val (.int v3), .val (.int v4), .val (.int v5), .val (.int v6), .val (.int v7), .val (.int v8), .val (.int v15), .val (.ref b13_b), .val (.ref b14_b), .val (.ref b15), .val (.ref b17), .val (.int v16), .unset, .unset] [(.int (2 : Int32)), (.int v16)])) := by
        intro t k
        refine go79 t ?_
        refine o_icmpY X18 hx hby at_246 258 rfl (feq hc246_24).2 ?_
        refine o_iload X18 hx hby at_258 260 rfl rfl ?_
        refine o_iconst X18 hx hby at_260 261 rfl (v := (2 : Int32)) rfl ?_
        exact k
      by_cases hc261_26 : v16 = (2 : Int32)
      · have go85 : Go p e below A0 (T18.setTop (mkF m 271 #[.val (.int p0), .val (.int p1), .val (.int p2), .val (.int p3), .val (.int p4), .val (.int v1), .val (.int v2), .val (.int v3), .val (.int v4), .val (.int v5), .val (.int v6), .val (.int v7), .val (.int v8), .val (.int v15), .val (.ref b13_b), .val (.ref b14_b), .val (.ref b15), .val (.ref b17), .val (.int v16), .val (.ref b13_b), .val (.int (0 : Int32))] [])) := by
          intro t k
          refine go84 t ?_
          refine o_icmpN X18 hx hby at_261 264 rfl (teq hc261_26).2 ?_
          refine o_aload X18 hx hby at_264 266 rfl rfl rfl ?_
          refine o_astore X18 hx hby at_266 268 rfl rfl (l' := #[.val (.int p0), .val (.int p1), .val (.int p2), .val (.int p3), .val (.int p4), .val (.int v1), .val (.int v2), .val (.int v3), .val (.int v4), .val (.int v5), .val (.int v6), .val (.int v7), .val (.int v8), .val (.int v15), .val (.ref b13_b), .val (.ref b14_b), .val (.ref b15), .val (.ref b17), .val (.int v16), .val (.ref b13_b), .unset]) rfl ?_
          refine o_iconst X18 hx hby at_268 269 rfl (v := (0 : Int32)) rfl ?_
          refine o_istore X18 hx hby at_269 271 rfl (l' := #[.val (.int p0), .val (.int p1), .val (.int p2), .val (.int p3), .val (.int p4), .val (.int v1), .val (.int v2), .val (.int v3), .val (.int v4), .val (.int v5), .val (.int v6), .val (.int v7), .val (.int v8), .val (.int v15), .val (.ref b13_b), .val (.ref b14_b), .val (.ref b15), .val (.ref b17), .val (.int v16), .val (.ref b13_b), .val (.int (0 : Int32))]) rfl ?_
          exact k
        have go86 : Go p e below A0 (T18.setTop (mkF m 285 #[.val (.int p0), .val (.int p1), .val (.int p2), .val (.int p3), .val (.int p4), .val (.int v1), .val (.int v2), .val (.int v3), .val (.int v4), .val (.int v5), .val (.int v6), .val (.int v7), .val (.int v8), .val (.int v15), .val (.ref b13_b), .val (.ref b14_b), .val (.ref b15), .val (.ref b17), .val (.int v16), .val (.ref b13_b), .val (.int (0 : Int32))] [(.ref b13_b), (.ref b15)])) := by
          intro t k
          refine go85 t ?_
          refine o_goto X18 hx hby at_271 281 rfl ?_
          refine o_aload X18 hx hby at_281 283 rfl rfl rfl ?_
          refine o_aload X18 hx hby at_283 285 rfl rfl rfl ?_
          exact k
        obtain ⟨cq27, kq27, q27a, q27b, q27c⟩ := isOf hZ rfl f63
        obtain ⟨_, _, ⟨T27, L27, k27, n27⟩, -, X27, ⟨Lc27, hQ27, l27, y27, z27⟩, st27⟩ := X18.virtualBack hx (y := (⟨"com/example/racelint/racelint/check/Schedule$Choice", "equals", "(Ljava/lang/Object;)Z"⟩ : MethodName)) (z := (⟨"com/example/racelint/racelint/check/Schedule$Choice", "equals", "(Ljava/lang/Object;)Z"⟩ : MethodName)) hown (mvT hZ (hw _ (List.mem_of_getElem? (i := 46) rfl))) (mvT hZ (hw _ (List.mem_of_getElem? (i := 47) rfl))) (notFace_of_selects (args := #[]) (mvT hZ (hw _ (List.mem_of_getElem? (i := 49) rfl)))) (mvT hZ (hw _ (List.mem_of_getElem? (i := 49) rfl))) (mvT hZ (hw _ (List.mem_of_getElem? (i := 48) rfl))) (by decide) (backOf (W := 0) (rm9t l Z aw hw [] b15 b13_b T18.heap n0 Zp18 (f63) (f55)) hZ (hw _ (List.mem_of_getElem? (i := 50) rfl)) (hw _ (List.mem_of_getElem? (i := 37) rfl)) (by decide) (by decide)) q27a q27c (g := (mkF m 285 #[.val (.int p0), .val (.int p1), .val (.int p2), .val (.int p3), .val (.int p4), .val (.int v1), .val (.int v2), .val (.int v3), .val (.int v4), .val (.int v5), .val (.int v6), .val (.int v7), .val (.int v8), .val (.int v15), .val (.ref b13_b), .val (.ref b14_b), .val (.ref b15), .val (.ref b17), .val (.int v16), .val (.ref b13_b), .val (.int (0 : Int32))] [(.ref b13_b), (.ref b15)])) rfl (by rw [hml]; rfl) (Steps.refl _) (argsL := [(.ref b13_b)]) (rest := []) (lenOf pd_11 rfl) rfl (by show 2 * 0 + _ ≤ _; exact Nat.le_of_eq rfl) (hb hby at_285) (fun _ _ => ⟨rfl, rfl, (by decide : 14 + 0 ≤ _), (by decide : 28 + 0 ≤ _)⟩)
        dsimp only [Pt.U, Pt.locs, Pt.cells, Pt.slots] at X27 l27 y27 z27 st27 hQ27
        subst l27 y27 z27
        obtain ⟨rfl, N27q, e27⟩ := hQ27
        have N27 := Fr.app N18 N27q
        have go87 : Go p e below A0 (T27.setTop (mkF m 288 #[.val (.int p0), .val (.int p1), .val (.int p2), .val (.int p3), .val (.int p4), .val (.int v1), .val (.int v2), .val (.int v3), .val (.int v4), .val (.int v5), .val (.int v6), .val (.int v7), .val (.int v8), .val (.int v15), .val (.ref b13_b), .val (.ref b14_b), .val (.ref b15), .val (.ref b17), .val (.int v16), .val (.ref b13_b), .val (.int (0 : Int32))] [(.int (0 : Int32))])) := by
          intro t k
          refine go86 t ?_
          refine st27.trans ?_
          show Steps p.tables e below (T27.setTop (mkF m 288 #[.val (.int p0), .val (.int p1), .val (.int p2), .val (.int p3), .val (.int p4), .val (.int v1), .val (.int v2), .val (.int v3), .val (.int v4), .val (.int v5), .val (.int v6), .val (.int v7), .val (.int v8), .val (.int v15), .val (.ref b13_b), .val (.ref b14_b), .val (.ref b15), .val (.ref b17), .val (.int v16), .val (.ref b13_b), .val (.int (0 : Int32))] [(.int (0 : Int32))])) _
          exact k
        have go88 : Go p e below A0 (T27.setTop (mkF m 298 #[.val (.int p0), .val (.int p1), .val (.int p2), .val (.int p3), .val (.int p4), .val (.int v1), .val (.int v2), .val (.int v3), .val (.int v4), .val (.int v5), .val (.int v6), .val (.int v7), .val (.int v8), .val (.int v15), .val (.ref b13_b), .val (.ref b14_b), .val (.ref b15), .val (.ref b17), .val (.int v16), .val (.ref b13_b), .val (.int (0 : Int32))] [(.int (1 : Int32))])) := by
          intro t k
          refine go87 t ?_
          refine o_iload X27 hx hby at_288 290 rfl rfl ?_
          refine o_icmpN X27 hx hby at_290 293 rfl (teq (show (0 : Int32) = (0 : Int32) by decide)).2 ?_
          refine o_iconst X27 hx hby at_293 294 rfl (v := (1 : Int32)) rfl ?_
          refine o_goto X27 hx hby at_294 298 rfl ?_
          exact k
        rw [hA0] at go88
        obtain ⟨fs, hr, hrun, hended, hRW⟩ := X27.leaveW (s := s) S14f (by rw [e27]; exact sk18) (v := some (.int (1 : Int32))) (fun h => by rw [Bd.returns] at h; cases h)
        have hCHend : CHr Z own_EL s.vm s.heap T27.vm T27.heap := by rw [hh, e27]; exact CHr.trans R18H (CHv.at (s := s) (vm0 := T14.vm) X27 hZ hEW R18H.1)
        refine ⟨_, _, go88 _ (o_retZ X27 hx Bd.returns (hb hby at_298) (Or.inr rfl) hr), hrun, hended, _, _, rfl, ?_, hCHend, hRW.1, hRW.2.1, hRW.2.2.1, hRW.2.2.2.mono (by decide) (by decide)⟩
        show Q0 Z p0 p1 p2 p3 p4 cs h0 n0 _ T27.heap _
        rw [e27]
        exact ⟨rfl, N27⟩
      · have go89 : Go p e below A0 (T18.setTop (mkF m 281 #[.val (.int p0), .val (.int p1), .val (.int p2), .val (.int p3), .val (.int p4), .val (.int v1), .val (.int v2), .val (.int v3), .val (.int v4), .val (.int v5), .val (.int v6), .val (.int v7), .val (.int v8), .val (.int v15), .val (.ref b13_b), .val (.ref b14_b), .val (.ref b15), .val (.ref b17), .val (.int v16), .val (.ref b15), .val (.int (1 : Int32))] [])) := by
          intro t k
          refine go84 t ?_
          refine o_icmpY X18 hx hby at_261 274 rfl (feq hc261_26).2 ?_
          refine o_aload X18 hx hby at_274 276 rfl rfl rfl ?_
          refine o_astore X18 hx hby at_276 278 rfl rfl (l' := #[.val (.int p0), .val (.int p1), .val (.int p2), .val (.int p3), .val (.int p4), .val (.int v1), .val (.int v2), .val (.int v3), .val (.int v4), .val (.int v5), .val (.int v6), .val (.int v7), .val (.int v8), .val (.int v15), .val (.ref b13_b), .val (.ref b14_b), .val (.ref b15), .val (.ref b17), .val (.int v16), .val (.ref b15), .unset]) rfl ?_
          refine o_iconst X18 hx hby at_278 279 rfl (v := (1 : Int32)) rfl ?_
          refine o_istore X18 hx hby at_279 281 rfl (l' := #[.val (.int p0), .val (.int p1), .val (.int p2), .val (.int p3), .val (.int p4), .val (.int v1), .val (.int v2), .val (.int v3), .val (.int v4), .val (.int v5), .val (.int v6), .val (.int v7), .val (.int v8), .val (.int v15), .val (.ref b13_b), .val (.ref b14_b), .val (.ref b15), .val (.ref b17), .val (.int v16), .val (.ref b15), .val (.int (1 : Int32))]) rfl ?_
          exact k
        have go90 : Go p e below A0 (T18.setTop (mkF m 285 #[.val (.int p0), .val (.int p1), .val (.int p2), .val (.int p3), .val (.int p4), .val (.int v1), .val (.int v2), .val (.int v3), .val (.int v4), .val (.int v5), .val (.int v6), .val (.int v7), .val (.int v8), .val (.int v15), .val (.ref b13_b), .val (.ref b14_b), .val (.ref b15), .val (.ref b17), .val (.int v16), .val (.ref b15), .val (.int (1 : Int32))] [(.ref b15), (.ref b15)])) := by
          intro t k
          refine go89 t ?_
          refine o_aload X18 hx hby at_281 283 rfl rfl rfl ?_
          refine o_aload X18 hx hby at_283 285 rfl rfl rfl ?_
          exact k
        obtain ⟨cq28, kq28, q28a, q28b, q28c⟩ := isOf hZ rfl f63
        obtain ⟨_, _, ⟨T28, L28, k28, n28⟩, -, X28, ⟨Lc28, hQ28, l28, y28, z28⟩, st28⟩ := X18.virtualBack hx (y := (⟨"com/example/racelint/racelint/check/Schedule$Choice", "equals", "(Ljava/lang/Object;)Z"⟩ : MethodName)) (z := (⟨"com/example/racelint/racelint/check/Schedule$Choice", "equals", "(Ljava/lang/Object;)Z"⟩ : MethodName)) hown (mvT hZ (hw _ (List.mem_of_getElem? (i := 46) rfl))) (mvT hZ (hw _ (List.mem_of_getElem? (i := 47) rfl))) (notFace_of_selects (args := #[]) (mvT hZ (hw _ (List.mem_of_getElem? (i := 49) rfl)))) (mvT hZ (hw _ (List.mem_of_getElem? (i := 49) rfl))) (mvT hZ (hw _ (List.mem_of_getElem? (i := 48) rfl))) (by decide) (backOf (W := 0) (rm9m l Z aw hw [] b15 p0 b13_b T18.heap n0 Zp18 (f63) (f64) (f65) (f55)) hZ (hw _ (List.mem_of_getElem? (i := 50) rfl)) (hw _ (List.mem_of_getElem? (i := 37) rfl)) (by decide) (by decide)) q28a q28c (g := (mkF m 285 #[.val (.int p0), .val (.int p1), .val (.int p2), .val (.int p3), .val (.int p4), .val (.int v1), .val (.int v2), .val (.int v3), .val (.int v4), .val (.int v5), .val (.int v6), .val (.int v7), .val (.int v8), .val (.int v15), .val (.ref b13_b), .val (.ref b14_b), .val (.ref b15), .val (.ref b17), .val (.int v16), .val (.ref b15), .val (.int (1 : Int32))] [(.ref b15), (.ref b15)])) rfl (by rw [hml]; rfl) (Steps.refl _) (argsL := [(.ref b15)]) (rest := []) (lenOf pd_11 rfl) rfl (by show 2 * 0 + _ ≤ _; exact Nat.le_of_eq rfl) (hb hby at_285) (fun _ _ => ⟨rfl, rfl, (by decide : 14 + 0 ≤ _), (by decide : 28 + 0 ≤ _)⟩)
        dsimp only [Pt.U, Pt.locs, Pt.cells, Pt.slots] at X28 l28 y28 z28 st28 hQ28
        subst l28 y28 z28
        obtain ⟨rfl, N28q, e28⟩ := hQ28
        have N28 := Fr.app N18 N28q
        have go91 : Go p e below A0 (T28.setTop (mkF m 288 #[.val (.int p0), .val (.int p1), .val (.int p2), .val (.int p3), .val (.int p4), .val (.int v1), .val (.int v2), .val (.int v3), .val (.int v4), .val (.int v5), .val (.int v6), .val (.int v7), .val (.int v8), .val (.int v15), .val (.ref b13_b), .val (.ref b14_b), .val (.ref b15), .val (.ref b17), .val (.int v16), .val (.ref b15), .val (.int (1 : Int32))] [(.int (Fcm p0))])) := by
          intro t k
          refine go90 t ?_
          refine st28.trans ?_
          show Steps p.tables e below (T28.setTop (mkF m 288 #[.val (.int p0), .val (.int p1), .val (.int p2), .val (.int p3), .val (.int p4), .val (.int v1), .val (.int v2), .val (.int v3), .val (.int v4), .val (.int v5), .val (.int v6), .val (.int v7), .val (.int v8), .val (.int v15), .val (.ref b13_b), .val (.ref b14_b), .val (.ref b15), .val (.ref b17), .val (.int v16), .val (.ref b15), .val (.int (1 : Int32))] [(.int (Fcm p0))])) _
          exact k
        obtain ⟨v21, hv21, go92⟩ : ∃ v21 : Int32, v21 = (Fcm p0) ∧ Go p e below A0 (T28.setTop (mkF m 288 #[.val (.int p0), .val (.int p1), .val (.int p2), .val (.int p3), .val (.int p4), .val (.int v1), .val (.int v2), .val (.int v3), .val (.int v4), .val (.int v5), .val (.int v6), .val (.int v7), .val (.int v8), .val (.int v15), .val (.ref b13_b), .val (.ref b14_b), .val (.ref b15), .val (.ref b17), .val (.int v16), .val (.ref b15), .val (.int (1 : Int32))] [(.int v21)])) := ⟨_, rfl, go91⟩
        have go93 : Go p e below A0 (T28.setTop (mkF m 290 #[.val (.int p0), .val (.int p1), .val (.int p2), .val (.int p3), .val (.int p4), .val (.int v1), .val (.int v2), .val (.int v3), .val (.int v4), .val (.int v5), .val (.int v6), .val (.int v7), .val (.int v8), .val (.int v15), .val (.ref b13_b), .val (.ref b14_b), .val (.ref b15), .val (.ref b17), .val (.int v16), .val (.ref b15), .val (.int (1 : Int32))] [(.int (1 : Int32)), (.int v21)])) := by
          intro t k
          refine go92 t ?_
          refine o_iload X28 hx hby at_288 290 rfl rfl ?_
          exact k
        obtain ⟨v22, hv22, go96⟩ : ∃ (v22 : Int32), v22 = (if v21 = (1 : Int32) then (1 : Int32) else (0 : Int32)) ∧ Go p e below A0 (T28.setTop (mkF m 298 #[.val (.int p0), .val (.int p1), .val (.int p2), .val (.int p3), .val (.int p4), .val (.int v1), .val (.int v2), .val (.int v3), .val (.int v4), .val (.int v5), .val (.int v6), .val (.int v7), .val (.int v8), .val (.int v15), .val (.ref b13_b), .val (.ref b14_b), .val (.ref b15), .val (.ref b17), .val (.int v16), .val (.ref b15), .val (.int (1 : Int32))] [(.int v22)])) := by
          by_cases hc290_29 : v21 = (1 : Int32)
          · have go94 : Go p e below A0 (T28.setTop (mkF m 298 #[.val (.int p0), .val (.int p1), .val (.int p2), .val (.int p3), .val (.int p4), .val (.int v1), .val (.int v2), .val (.int v3), .val (.int v4), .val (.int v5), .val (.int v6), .val (.int v7), .val (.int v8), .val (.int v15), .val (.ref b13_b), .val (.ref b14_b), .val (.ref b15), .val (.ref b17), .val (.int v16), .val (.ref b15), .val (.int (1 : Int32))] [(.int (1 : Int32))])) := by
              intro t k
              refine go93 t ?_
              refine o_icmpN X28 hx hby at_290 293 rfl (teq hc290_29).2 ?_
              refine o_iconst X28 hx hby at_293 294 rfl (v := (1 : Int32)) rfl ?_
              refine o_goto X28 hx hby at_294 298 rfl ?_
              exact k
            exact ⟨(1 : Int32), (if_pos hc290_29).symm, go94⟩
          · have go95 : Go p e below A0 (T28.setTop (mkF m 298 #[.val (.int p0), .val (.int p1), .val (.int p2), .val (.int p3), .val (.int p4), .val (.int v1), .val (.int v2), .val (.int v3), .val (.int v4), .val (.int v5), .val (.int v6), .val (.int v7), .val (.int v8), .val (.int v15), .val (.ref b13_b), .val (.ref b14_b), .val (.ref b15), .val (.ref b17), .val (.int v16), .val (.ref b15), .val (.int (1 : Int32))] [(.int (0 : Int32))])) := by
              intro t k
              refine go93 t ?_
              refine o_icmpY X28 hx hby at_290 297 rfl (feq hc290_29).2 ?_
              refine o_iconst X28 hx hby at_297 298 rfl (v := (0 : Int32)) rfl ?_
              exact k
            exact ⟨(0 : Int32), (if_neg hc290_29).symm, go95⟩
        have h1 : v22 = (1 : Int32) := pl_0_3 p0 p1 p2 p3 p4 cs v1 v2 v3 v4 v5 v6 v7 v8 v15 v16 v21 v22 hv1 hv2 hv3 hv4 hv5 hv6 hv7 hv8 hv15 hv16 hv21 hv22 hc215_19 hc246_24 hc261_26
        rw [h1] at go96
        rw [hA0] at go96
        obtain ⟨fs, hr, hrun, hended, hRW⟩ := X28.leaveW (s := s) S14f (by rw [e28]; exact sk18) (v := some (.int (1 : Int32))) (fun h => by rw [Bd.returns] at h; cases h)
        have hCHend : CHr Z own_EL s.vm s.heap T28.vm T28.heap := by rw [hh, e28]; exact CHr.trans R18H (CHv.at (s := s) (vm0 := T14.vm) X28 hZ hEW R18H.1)
        refine ⟨_, _, go96 _ (o_retZ X28 hx Bd.returns (hb hby at_298) (Or.inr rfl) hr), hrun, hended, _, _, rfl, ?_, hCHend, hRW.1, hRW.2.1, hRW.2.2.1, hRW.2.2.2.mono (by decide) (by decide)⟩
        show Q0 Z p0 p1 p2 p3 p4 cs h0 n0 _ T28.heap _
        rw [e28]
        exact ⟨rfl, N28⟩
set_option maxRecDepth 65536 in
set_option maxHeartbeats 40000000 in
theorem comes_1 {Post : Tables → Env → Array Value → State → Outcome → State → Prop} (hpost : ∀ tb e args s v u, (limb_1_1.after args s (.returned v) u = true ∧ limb_1_2.after args s (.returned v) u = true ∧ True) → ReturnedEndW s (.returned v) u (Jvm.fieldLocs frame_1_writes args s ++ Jvm.arrayLocs frame_1_arrays args s ++ Jvm.staticLocs frame_1_statics s) 32 1152 → Post tb e args s (.returned v) u) :
    ArmFor flags0 classFile x code maxLocals ret World_1 tables_1 room_1 Calls_1 rest_1 Pre_1 Post := by
  intro l hfl _ _ p e ha hc hk s m args below hf hA hF happ hP
  obtain ⟨hcalls, hrest, hpre⟩ := hP
  obtain ⟨-, -, -, hnamed, -, -, -, hat⟩ := (Spec.applies_iff hf).mp happ
  obtain ⟨hg, hn⟩ := and_e (Cond.before_iff.mp (show (Jvm.Cond.and given_1 narrow_1).before args s = true from hpre))
  obtain ⟨g1, g2⟩ := and_e hg
  obtain ⟨g3, g4⟩ := and_e g2
  obtain ⟨g5, g6⟩ := and_e g4
  obtain ⟨g7, g8⟩ := and_e g6
  obtain ⟨g9, g10⟩ := and_e g8
  obtain ⟨w0, w1, w2, w3, w4, rfl⟩ : ∃ w0 w1 w2 w3 w4 : Value, args = #[w0, w1, w2, w3, w4] := by
    have hs : args.size = 5 := by simpa [Cond.value, given_1] using g1
    obtain ⟨L⟩ := args
    match L, hs with
    | [w0, w1, w2, w3, w4], _ => exact ⟨w0, w1, w2, w3, w4, rfl⟩
  have hw := fun d (hd : d ∈ tables_1) => atoms_spec (ws := Jvm.Cond.code x code maxLocals ret :: tables_1) hat d (List.mem_cons_of_mem _ hd)
  have hfit : Fit s := fun {y c} hc i hi => by
    obtain ⟨ha, rfl⟩ := Array.getElem?_eq_some_iff.mp hc
    have q := List.all_eq_true.mp ((Array.all_eq_true_iff_forall_mem.mp hF) _ (Array.getElem_mem ha)) i (List.mem_range.mpr hi)
    simpa [Array.getElem?_eq_getElem hi] using q
  obtain ⟨hsets, hown0⟩ := atoms_of _ (rest_1_c_eq ▸ (show rest_1_c.before _ s = true from hrest))
  have hr0 := Cond.before_iff.mp hown0
  obtain ⟨i0, ei0⟩ := is_v g3
  obtain rfl : w0 = (.int i0) := Option.some.inj ei0
  obtain ⟨i1, ei1⟩ := is_v g5
  obtain rfl : w1 = (.int i1) := Option.some.inj ei1
  obtain ⟨i2, ei2⟩ := is_v g7
  obtain rfl : w2 = (.int i2) := Option.some.inj ei2
  obtain ⟨i3, ei3⟩ := is_v g9
  obtain rfl : w3 = (.int i3) := Option.some.inj ei3
  obtain ⟨i4, ei4⟩ := is_v g10
  obtain rfl : w4 = (.int i4) := Option.some.inj ei4
  have n3 := not_v (Cond.before_iff.mp (hsets _ (List.mem_of_getElem? (i := 2) rfl)))
  obtain ⟨cs, ecs⟩ := is_v (Cond.before_iff.mp (hsets _ (List.mem_of_getElem? (i := 1) rfl)))
  have hSC : Sta s s.heap "java/lang/String" "COMPACT_STRINGS" "Z" (.int cs) := Sta.start ecs (Or.inl (hsets _ (List.mem_of_getElem? (i := 0) rfl)))
  have hcs : ¬ (cs = (0 : Int32)) := gotF (Cond.eq_ints ecs (Term.int_eval (0))) n3
  have hCH0 : CHv s own_EL s.vm s.heap := CHv.start (own_ew hw) (fun p hp => hcalls.1 p hp) (hsets _ (List.mem_of_getElem? (i := 2) rfl)) (hw _ (List.mem_of_getElem? (i := 24) rfl)) (hw _ (List.mem_of_getElem? (i := 7) rfl))
  obtain ⟨n, o, h1, h2, h3, _, L, rfl, ⟨rfl, N⟩, -, hq⟩ := rm0 l s _ hw tables_1 i0 i1 i2 i3 i4 cs s.heap s.heap.size (Nat.le_refl _) hSC (Old.start s) hcs p e ha hc hk s m _ below hf ((Spec.applies_iff_loose hf).mp happ).1 ⟨rfl, State.Warmed39.refl s, rfl, hCH0⟩ trivial
  refine ⟨n, _, h1, h2, h3, hpost _ _ _ _ _ _ ⟨Cond.after_iff.mpr rfl, Cond.after_iff.mpr (eq_i res_at (Term.int_eval (1)) rfl), trivial⟩ ⟨hq.1, hq.2.1, hq.2.2.1, (hq.2.2.2.sift fun y hy => Or.inr (N y hy)).mono (by decide) (by decide)⟩⟩
theorem main_1_1 : Claimed_1_1 := comes_1 fun _ _ _ _ _ _ h hF => ⟨h.1, hF⟩
theorem main_1_2 : Claimed_1_2 := comes_1 fun _ _ _ _ _ _ h hF => ⟨h.2.1, hF⟩
end Jvm.Pilot.@@N@@
namespace Jvm.Pilot.@@N@@
open Jvm Jvm.ClassFile Sem Op Lib Jvm.Free Jvm.Stand Jvm.Pilot.@@N@@.Jvm.D
/-! MADE BY PROGRAM (witnessworld.py) out of the Statement's table words and the real class files: 20 classes; the members and pool entries that the words name. The judged class is class 1, her method 1. -/
namespace start1
open Jvm.ClassFile
def u (s : String) : CpInfo := .utf8 (stringToUtf16 s)
/-- a pool by its gaps: so many unusable entries, then the entry; so many at the end -/
def gap : Nat → List CpInfo → List CpInfo
  | 0, r => r
  | n + 1, r => .unusable :: gap n r
def poolList (es : List (Nat × CpInfo)) (last : Nat) : List CpInfo := es.foldr (fun e r => gap e.1 (e.2 :: r)) (gap last [])
def pool (es : List (Nat × CpInfo)) (last : Nat) : Array CpInfo := ⟨poolList es last⟩
def fileOf (pool : Array CpInfo) (this : Nat) (attrs : Array Attribute := #[]) (ms : Array MethodInfo := #[]) (fl : Nat := 33) (sup : Nat := 0) (ifs : Array Nat := #[]) (fds : Array FieldInfo := #[]) : ClassFile where
  minorVersion := 0
  majorVersion := 65
  constantPool := pool
  accessFlags := fl
  thisClass := this
  superClass := sup
  interfaces := ifs
  fields := fds
  methods := ms
  attributes := attrs
def plain (name : String) (sup : Option ClassId) : Class where
  name := name
  kind := .ordinary
  loader := none
  accessFlags := 33
  super := sup
  interfaces := #[]
  cf := none
  fields := #[]
  methods := #[]
  instanceTypes := #[]
  staticTypes := #[]
  resolved := #[]
  callSites := []
  init := .initialized
  statics := none
  mirror := none

def pool0 : Array CpInfo := pool [(5, u "<init>"), (0, u "()V"), (1, .class_ 10), (1, u "java/lang/Object")] 113

def k0c0 : Code := { maxStack := 0, maxLocals := 1, code := object_method_1_code, exceptionTable := #[], attributes := #[] }
def k0m0 : Method := { name := "<init>", desc := "()V", sig := { parameters := [], returnType := none }, accessFlags := 1, code := some k0c0 }
/-- java/lang/Object -/
def k0 : Class := { plain "java/lang/Object" none with
  accessFlags := 33
  interfaces := #[]
  cf := some (fileOf pool0 8 #[] #[{ accessFlags := 1, nameIndex := 5, descriptorIndex := 6, attributes := #[] }] 33 0 #[] #[])
  fields := #[]
  methods := #[k0m0]
  instanceTypes := #[]
  staticTypes := #[]
  resolved := Array.replicate 124 none
  statics := none }

def pool1 : Array CpInfo := pool [(2, .class_ 4), (1, u "java/lang/Object"), (0, u "<init>"), (0, u "()V"), (0, .integer 2147483647), (0, .methodref 9 10), (0, .class_ 11), (0, .nameAndType 12 13), (0, u "com/example/racelint/racelint/check/ChoiceEqualsPinLaw"), (0, u "make"), (0, u "(ICC)Ljava/lang/String;"), (0, .class_ 15), (0, u "com/example/racelint/racelint/check/Schedule$Choice"), (0, .methodref 14 17), (0, .nameAndType 5 18), (0, u "(ILjava/lang/String;)V"), (0, .methodref 14 20), (0, .nameAndType 21 22), (0, u "equals"), (0, u "(Ljava/lang/Object;)Z"), (0, .class_ 24), (0, u "java/lang/String"), (0, .methodref 23 26), (0, .nameAndType 5 27), (0, u "([C)V"), (2, u "law"), (0, u "(IIIII)Z")] 7

def k1m0 : Method := { name := "<init>", desc := "()V", sig := { parameters := [], returnType := none }, accessFlags := 1, code := none }
def k1c1 : Code := { maxStack := 4, maxLocals := 21, code := code, exceptionTable := #[], attributes := #[] }
def k1m1 : Method := { name := "law", desc := "(IIIII)Z", sig := { parameters := [.int, .int, .int, .int, .int], returnType := some .boolean }, accessFlags := 9, code := some k1c1 }
def k1c2 : Code := { maxStack := 3, maxLocals := 4, code := method_3_code, exceptionTable := #[], attributes := #[] }
def k1m2 : Method := { name := "make", desc := "(ICC)Ljava/lang/String;", sig := { parameters := [.int, .char, .char], returnType := some (.object "java/lang/String") }, accessFlags := 10, code := some k1c2 }
/-- com/example/racelint/racelint/check/ChoiceEqualsPinLaw -/
def k1 : Class := { plain "com/example/racelint/racelint/check/ChoiceEqualsPinLaw" (some 0) with
  accessFlags := 49
  interfaces := #[]
  cf := some (fileOf pool1 9 #[] #[{ accessFlags := 1, nameIndex := 5, descriptorIndex := 6, attributes := #[] }, { accessFlags := 9, nameIndex := 30, descriptorIndex := 31, attributes := #[] }, { accessFlags := 10, nameIndex := 12, descriptorIndex := 13, attributes := #[] }] 49 2 #[] #[])
  fields := #[]
  methods := #[k1m0, k1m1, k1m2]
  instanceTypes := #[]
  staticTypes := #[]
  resolved := Array.replicate 39 none
  statics := none }

def pool2 : Array CpInfo := pool [(1, .class_ 2), (0, u "java/io/Serializable"), (0, .class_ 4), (0, u "java/lang/Object")] 2

/-- java/io/Serializable -/
def k2 : Class := { plain "java/io/Serializable" (some 0) with
  accessFlags := 1537
  interfaces := #[]
  cf := some (fileOf pool2 1 #[] #[] 1537 3 #[] #[])
  fields := #[]
  methods := #[]
  instanceTypes := #[]
  staticTypes := #[]
  resolved := Array.replicate 7 none
  statics := none }

def pool3 : Array CpInfo := pool [(1, .class_ 2), (0, u "java/lang/Comparable"), (0, .class_ 4), (0, u "java/lang/Object")] 7

/-- java/lang/Comparable -/
def k3 : Class := { plain "java/lang/Comparable" (some 0) with
  accessFlags := 1537
  interfaces := #[]
  cf := some (fileOf pool3 1 #[] #[] 1537 3 #[] #[])
  fields := #[]
  methods := #[]
  instanceTypes := #[]
  staticTypes := #[]
  resolved := Array.replicate 12 none
  statics := none }

def pool4 : Array CpInfo := pool [(2, .class_ 4), (1, u "java/lang/CharSequence"), (42, .class_ 48), (0, u "java/lang/CharSequence$1CodePointIterator"), (10, .class_ 60), (0, u "java/lang/CharSequence$1CharIterator"), (5, .class_ 67), (0, u "java/lang/Object")] 63

/-- java/lang/CharSequence -/
def k4 : Class := { plain "java/lang/CharSequence" (some 0) with
  accessFlags := 1537
  interfaces := #[]
  cf := some (fileOf pool4 2 #[.nestMembers #[47, 59]] #[] 1537 66 #[] #[])
  fields := #[]
  methods := #[]
  instanceTypes := #[]
  staticTypes := #[]
  resolved := Array.replicate 131 none
  statics := none }

def pool5 : Array CpInfo := pool [(1, .class_ 2), (0, u "java/lang/constant/Constable"), (0, .class_ 4), (0, u "java/lang/Object")] 6

/-- java/lang/constant/Constable -/
def k5 : Class := { plain "java/lang/constant/Constable" (some 0) with
  accessFlags := 1537
  interfaces := #[]
  cf := some (fileOf pool5 1 #[] #[] 1537 3 #[] #[])
  fields := #[]
  methods := #[]
  instanceTypes := #[]
  staticTypes := #[]
  resolved := Array.replicate 11 none
  statics := none }

def pool6 : Array CpInfo := pool [(1, .class_ 2), (0, u "java/lang/constant/ConstantDesc"), (0, .class_ 4), (0, u "java/lang/Object")] 32

/-- java/lang/constant/ConstantDesc -/
def k6 : Class := { plain "java/lang/constant/ConstantDesc" (some 0) with
  accessFlags := 1537
  interfaces := #[]
  cf := some (fileOf pool6 1 #[] #[] 1537 3 #[] #[])
  fields := #[]
  methods := #[]
  instanceTypes := #[]
  staticTypes := #[]
  resolved := Array.replicate 37 none
  statics := none }

def pool7 : Array CpInfo := pool [(1, .methodref 2 3), (0, .class_ 4), (0, .nameAndType 5 6), (0, u "java/lang/Object"), (0, u "<init>"), (0, u "()V"), (0, .string 8), (0, u ""), (0, .fieldref 10 11), (0, .class_ 12), (0, .nameAndType 13 14), (0, u "java/lang/String"), (0, u "value"), (0, u "[B"), (0, .fieldref 10 16), (0, .nameAndType 17 18), (0, u "coder"), (0, u "B"), (2, u "hash"), (0, u "I"), (2, u "hashIsZero"), (0, u "Z"), (0, .methodref 10 28), (0, .nameAndType 5 29), (0, u "([CIILjava/lang/Void;)V"), (8, .fieldref 10 39), (0, .nameAndType 40 26), (0, u "COMPACT_STRINGS"), (1, .class_ 44), (1, u "java/lang/StringUTF16"), (0, u "compress"), (1, .methodref 42 48), (0, .nameAndType 49 50), (0, u "coderFromArrayLen"), (0, u "([BI)B"), (56, .class_ 109), (1, u "java/lang/StringLatin1"), (67, .methodref 42 178), (0, .nameAndType 45 179), (0, u "([CII)[B"), (361, .methodref 107 542), (0, .nameAndType 543 544), (0, u "equals"), (0, u "([B[B)Z"), (28, u "(Ljava/lang/Object;)Z"), (1, .class_ 576), (0, u "java/lang/CharSequence"), (22, u "CASE_INSENSITIVE_ORDER"), (0, u "Ljava/util/Comparator;"), (409, u "([C)V"), (90, u "serialPersistentFields"), (0, u "[Ljava/io/ObjectStreamField;"), (0, .class_ 1104), (0, u "java/lang/String$CaseInsensitiveComparator"), (1, .class_ 1107), (0, u "java/io/Serializable"), (0, .class_ 1109), (0, u "java/lang/Comparable"), (0, .class_ 1111), (0, u "java/lang/constant/Constable"), (0, .class_ 1113), (0, u "java/lang/constant/ConstantDesc"), (2, u "serialVersionUID"), (0, u "J"), (3, u "REPL"), (0, u "C"), (2, u "LATIN1"), (1, u "UTF16")] 323

def k7m0 : Method := { name := "<init>", desc := "()V", sig := { parameters := [], returnType := none }, accessFlags := 1, code := none }
def k7c1 : Code := { maxStack := 5, maxLocals := 2, code := jdk_42_method_3_code, exceptionTable := #[], attributes := #[] }
def k7m1 : Method := { name := "<init>", desc := "([C)V", sig := { parameters := [(.array .char)], returnType := none }, accessFlags := 1, code := some k7c1 }
def k7c2 : Code := { maxStack := 2, maxLocals := 3, code := jdk_42_method_66_code, exceptionTable := #[], attributes := #[] }
def k7m2 : Method := { name := "equals", desc := "(Ljava/lang/Object;)Z", sig := { parameters := [(.object "java/lang/Object")], returnType := some .boolean }, accessFlags := 1, code := some k7c2 }
def k7c3 : Code := { maxStack := 4, maxLocals := 6, code := jdk_42_method_149_code, exceptionTable := #[], attributes := #[] }
def k7m3 : Method := { name := "<init>", desc := "([CIILjava/lang/Void;)V", sig := { parameters := [(.array .char), .int, .int, (.object "java/lang/Void")], returnType := none }, accessFlags := 2, code := some k7c3 }
/-- java/lang/String -/
def k7 : Class := { plain "java/lang/String" (some 0) with
  accessFlags := 49
  interfaces := #[2, 3, 4, 5, 6]
  cf := some (fileOf pool7 10 #[.nestMembers #[1103]] #[{ accessFlags := 1, nameIndex := 5, descriptorIndex := 6, attributes := #[] }, { accessFlags := 1, nameIndex := 5, descriptorIndex := 1010, attributes := #[] }, { accessFlags := 1, nameIndex := 543, descriptorIndex := 573, attributes := #[] }, { accessFlags := 2, nameIndex := 5, descriptorIndex := 29, attributes := #[] }] 49 2 #[1106, 1108, 575, 1110, 1112] #[{ accessFlags := 18, nameIndex := 13, descriptorIndex := 14, attributes := #[] }, { accessFlags := 18, nameIndex := 17, descriptorIndex := 18, attributes := #[] }, { accessFlags := 2, nameIndex := 21, descriptorIndex := 22, attributes := #[] }, { accessFlags := 2, nameIndex := 25, descriptorIndex := 26, attributes := #[] }, { accessFlags := 26, nameIndex := 1116, descriptorIndex := 1117, attributes := #[] }, { accessFlags := 24, nameIndex := 40, descriptorIndex := 26, attributes := #[] }, { accessFlags := 26, nameIndex := 1101, descriptorIndex := 1102, attributes := #[] }, { accessFlags := 26, nameIndex := 1121, descriptorIndex := 1122, attributes := #[] }, { accessFlags := 25, nameIndex := 599, descriptorIndex := 600, attributes := #[] }, { accessFlags := 24, nameIndex := 1125, descriptorIndex := 18, attributes := #[] }, { accessFlags := 24, nameIndex := 1127, descriptorIndex := 18, attributes := #[] }])
  fields := #[{ name := "value", type := (.array .byte), accessFlags := 18, slot := 0, constantValue := 0 }, { name := "coder", type := .byte, accessFlags := 18, slot := 1, constantValue := 0 }, { name := "hash", type := .int, accessFlags := 2, slot := 2, constantValue := 0 }, { name := "hashIsZero", type := .boolean, accessFlags := 2, slot := 3, constantValue := 0 }, { name := "serialVersionUID", type := .long, accessFlags := 26, slot := 0, constantValue := 0 }, { name := "COMPACT_STRINGS", type := .boolean, accessFlags := 24, slot := 1, constantValue := 0 }, { name := "serialPersistentFields", type := (.array (.object "java/io/ObjectStreamField")), accessFlags := 26, slot := 2, constantValue := 0 }, { name := "REPL", type := .char, accessFlags := 26, slot := 3, constantValue := 0 }, { name := "CASE_INSENSITIVE_ORDER", type := (.object "java/util/Comparator"), accessFlags := 25, slot := 4, constantValue := 0 }, { name := "LATIN1", type := .byte, accessFlags := 24, slot := 5, constantValue := 0 }, { name := "UTF16", type := .byte, accessFlags := 24, slot := 6, constantValue := 0 }]
  methods := #[k7m0, k7m1, k7m2, k7m3]
  instanceTypes := #[(.array .byte), .byte, .int, .boolean]
  staticTypes := #[.long, .boolean, (.array (.object "java/io/ObjectStreamField")), .char, (.object "java/util/Comparator"), .byte, .byte]
  resolved := Array.replicate 1451 none
  statics := some 0 }

def pool8 : Array CpInfo := pool [(6, .class_ 8), (1, u "java/lang/Object"), (0, u "<init>"), (0, u "()V"), (1, .class_ 14), (1, u "java/lang/StringUTF16"), (31, u "$assertionsDisabled"), (0, u "Z"), (13, u "HI_BYTE_SHIFT"), (0, u "I"), (2, u "LO_BYTE_SHIFT"), (49, .methodref 12 116), (0, .nameAndType 117 118), (0, u "compress"), (0, u "([CI[BII)I"), (3, u "([CII)[B"), (138, u "coderFromArrayLen"), (0, u "([BI)B"), (106, .class_ 371), (1, u "java/lang/StringUTF16$LinesSpliterator"), (58, u "MAX_LENGTH"), (196, .class_ 628), (0, u "java/lang/StringUTF16$CodePointsSpliterator"), (0, .class_ 630), (0, u "java/lang/StringUTF16$CharsSpliterator")] 4

def k8m0 : Method := { name := "<init>", desc := "()V", sig := { parameters := [], returnType := none }, accessFlags := 0, code := none }
def k8c1 : Code := { maxStack := 2, maxLocals := 2, code := jdk_52_method_15_code, exceptionTable := #[], attributes := #[] }
def k8m1 : Method := { name := "coderFromArrayLen", desc := "([BI)B", sig := { parameters := [(.array .byte), .int], returnType := some .byte }, accessFlags := 8, code := some k8c1 }
def k8c2 : Code := { maxStack := 5, maxLocals := 6, code := jdk_52_method_16_code, exceptionTable := #[], attributes := #[] }
def k8m2 : Method := { name := "compress", desc := "([CII)[B", sig := { parameters := [(.array .char), .int, .int], returnType := some (.array .byte) }, accessFlags := 9, code := some k8c2 }
def k8c3 : Code := { maxStack := 3, maxLocals := 7, code := jdk_52_method_21_code, exceptionTable := #[], attributes := #[] }
def k8m3 : Method := { name := "compress", desc := "([CI[BII)I", sig := { parameters := [(.array .char), .int, (.array .byte), .int, .int], returnType := some .int }, accessFlags := 9, code := some k8c3 }
/-- java/lang/StringUTF16 -/
def k8 : Class := { plain "java/lang/StringUTF16" (some 0) with
  accessFlags := 48
  interfaces := #[]
  cf := some (fileOf pool8 12 #[.nestMembers #[627, 629, 369]] #[{ accessFlags := 0, nameIndex := 9, descriptorIndex := 10, attributes := #[] }, { accessFlags := 8, nameIndex := 261, descriptorIndex := 262, attributes := #[] }, { accessFlags := 9, nameIndex := 117, descriptorIndex := 122, attributes := #[] }, { accessFlags := 9, nameIndex := 117, descriptorIndex := 118, attributes := #[] }] 48 6 #[] #[{ accessFlags := 26, nameIndex := 61, descriptorIndex := 62, attributes := #[] }, { accessFlags := 26, nameIndex := 65, descriptorIndex := 62, attributes := #[] }, { accessFlags := 24, nameIndex := 430, descriptorIndex := 62, attributes := #[] }, { accessFlags := 4120, nameIndex := 46, descriptorIndex := 47, attributes := #[] }])
  fields := #[{ name := "HI_BYTE_SHIFT", type := .int, accessFlags := 26, slot := 0, constantValue := 0 }, { name := "LO_BYTE_SHIFT", type := .int, accessFlags := 26, slot := 1, constantValue := 0 }, { name := "MAX_LENGTH", type := .int, accessFlags := 24, slot := 2, constantValue := 0 }, { name := "$assertionsDisabled", type := .boolean, accessFlags := 4120, slot := 3, constantValue := 0 }]
  methods := #[k8m0, k8m1, k8m2, k8m3]
  instanceTypes := #[]
  staticTypes := #[.int, .int, .int, .boolean]
  resolved := Array.replicate 635 none
  statics := none }

def pool9 : Array CpInfo := pool [(1, .methodref 2 3), (0, .class_ 4), (0, .nameAndType 5 6), (0, u "java/lang/Object"), (0, u "<init>"), (0, u "()V"), (0, .fieldref 8 9), (0, .class_ 10), (0, .nameAndType 11 12), (0, u "com/example/racelint/racelint/check/Schedule$Choice"), (0, u "thread"), (0, u "I"), (0, .fieldref 8 14), (0, .nameAndType 15 16), (0, u "name"), (0, u "Ljava/lang/String;"), (4, .methodref 22 23), (0, .class_ 24), (0, .nameAndType 25 26), (0, u "java/lang/String"), (0, u "equals"), (0, u "(Ljava/lang/Object;)Z"), (12, u "(ILjava/lang/String;)V"), (10, .class_ 51), (0, u "com/example/racelint/racelint/check/Schedule")] 16

def k9c0 : Code := { maxStack := 2, maxLocals := 3, code := prog_14_method_1_code, exceptionTable := #[], attributes := #[] }
def k9m0 : Method := { name := "<init>", desc := "(ILjava/lang/String;)V", sig := { parameters := [.int, (.object "java/lang/String")], returnType := none }, accessFlags := 0, code := some k9c0 }
def k9c1 : Code := { maxStack := 2, maxLocals := 3, code := prog_14_method_5_code, exceptionTable := #[], attributes := #[] }
def k9m1 : Method := { name := "equals", desc := "(Ljava/lang/Object;)Z", sig := { parameters := [(.object "java/lang/Object")], returnType := some .boolean }, accessFlags := 1, code := some k9c1 }
/-- com/example/racelint/racelint/check/Schedule$Choice -/
def k9 : Class := { plain "com/example/racelint/racelint/check/Schedule$Choice" (some 0) with
  accessFlags := 49
  interfaces := #[]
  cf := some (fileOf pool9 8 #[.nestHost 50] #[{ accessFlags := 0, nameIndex := 5, descriptorIndex := 39, attributes := #[] }, { accessFlags := 1, nameIndex := 25, descriptorIndex := 26, attributes := #[] }] 49 2 #[] #[{ accessFlags := 18, nameIndex := 11, descriptorIndex := 12, attributes := #[] }, { accessFlags := 18, nameIndex := 15, descriptorIndex := 16, attributes := #[] }])
  fields := #[{ name := "thread", type := .int, accessFlags := 18, slot := 0, constantValue := 0 }, { name := "name", type := (.object "java/lang/String"), accessFlags := 18, slot := 1, constantValue := 0 }]
  methods := #[k9m0, k9m1]
  instanceTypes := #[.int, (.object "java/lang/String")]
  staticTypes := #[]
  resolved := Array.replicate 68 none
  statics := none }

def pool10 : Array CpInfo := pool [(4, .class_ 6), (1, u "java/lang/Object"), (0, u "<init>"), (0, u "()V"), (5, .class_ 16), (1, u "java/lang/StringLatin1"), (104, u "$assertionsDisabled"), (0, u "Z"), (98, .class_ 223), (1, u "java/lang/StringLatin1$LinesSpliterator"), (57, u "equals"), (0, u "([B[B)Z"), (107, .class_ 391), (0, u "java/lang/StringLatin1$CharsSpliterator")] 3

def k10m0 : Method := { name := "<init>", desc := "()V", sig := { parameters := [], returnType := none }, accessFlags := 0, code := none }
def k10c1 : Code := { maxStack := 3, maxLocals := 3, code := jdk_43_method_13_code, exceptionTable := #[], attributes := #[] }
def k10m1 : Method := { name := "equals", desc := "([B[B)Z", sig := { parameters := [(.array .byte), (.array .byte)], returnType := some .boolean }, accessFlags := 9, code := some k10c1 }
/-- java/lang/StringLatin1 -/
def k10 : Class := { plain "java/lang/StringLatin1" (some 0) with
  accessFlags := 48
  interfaces := #[]
  cf := some (fileOf pool10 14 #[.nestMembers #[390, 221]] #[{ accessFlags := 0, nameIndex := 7, descriptorIndex := 8, attributes := #[] }, { accessFlags := 9, nameIndex := 281, descriptorIndex := 282, attributes := #[] }] 48 4 #[] #[{ accessFlags := 4120, nameIndex := 121, descriptorIndex := 122, attributes := #[] }])
  fields := #[{ name := "$assertionsDisabled", type := .boolean, accessFlags := 4120, slot := 0, constantValue := 0 }]
  methods := #[k10m0, k10m1]
  instanceTypes := #[]
  staticTypes := #[.boolean]
  resolved := Array.replicate 395 none
  statics := none }

def pool11 : Array CpInfo := pool [(2, .class_ 4), (1, u "java/lang/Object"), (0, u "<init>"), (0, u "()V"), (17, .class_ 26), (1, u "jdk/internal/util/Preconditions"), (28, .class_ 56), (0, u "jdk/internal/util/Preconditions$4"), (57, .class_ 115), (0, u "jdk/internal/util/Preconditions$1"), (7, u "SIOOBE_FORMATTER"), (0, u "Ljava/util/function/BiFunction;"), (0, .class_ 126), (0, u "jdk/internal/util/Preconditions$2"), (3, u "AIOOBE_FORMATTER"), (0, .class_ 132), (0, u "jdk/internal/util/Preconditions$3"), (3, u "IOOBE_FORMATTER")] 57

def k11m0 : Method := { name := "<init>", desc := "()V", sig := { parameters := [], returnType := none }, accessFlags := 1, code := none }
/-- jdk/internal/util/Preconditions -/
def k11 : Class := { plain "jdk/internal/util/Preconditions" (some 0) with
  accessFlags := 33
  interfaces := #[]
  cf := some (fileOf pool11 24 #[.nestMembers #[55, 131, 125, 114]] #[{ accessFlags := 1, nameIndex := 5, descriptorIndex := 6, attributes := #[] }] 33 2 #[] #[{ accessFlags := 25, nameIndex := 123, descriptorIndex := 124, attributes := #[] }, { accessFlags := 25, nameIndex := 130, descriptorIndex := 124, attributes := #[] }, { accessFlags := 25, nameIndex := 136, descriptorIndex := 124, attributes := #[] }])
  fields := #[{ name := "SIOOBE_FORMATTER", type := (.object "java/util/function/BiFunction"), accessFlags := 25, slot := 0, constantValue := 0 }, { name := "AIOOBE_FORMATTER", type := (.object "java/util/function/BiFunction"), accessFlags := 25, slot := 1, constantValue := 0 }, { name := "IOOBE_FORMATTER", type := (.object "java/util/function/BiFunction"), accessFlags := 25, slot := 2, constantValue := 0 }]
  methods := #[k11m0]
  instanceTypes := #[]
  staticTypes := #[(.object "java/util/function/BiFunction"), (.object "java/util/function/BiFunction"), (.object "java/util/function/BiFunction")]
  resolved := Array.replicate 194 none
  statics := some 1 }

def pool12 : Array CpInfo := pool [(9, u "<init>"), (6, .class_ 18), (1, u "java/lang/Object"), (0, u "()V"), (1, .class_ 23), (1, u "jdk/internal/util/ArraysSupport"), (0, u "LOG2_ARRAY_LONG_INDEX_SCALE"), (0, u "I"), (2, u "U"), (0, u "Ljdk/internal/misc/Unsafe;"), (8, u "BIG_ENDIAN"), (0, u "Z"), (8, u "LOG2_BYTE_BIT_SIZE"), (4, u "LOG2_ARRAY_INT_INDEX_SCALE"), (54, u "JLA"), (0, u "Ljdk/internal/access/JavaLangAccess;"), (11, u "LOG2_ARRAY_BOOLEAN_INDEX_SCALE"), (9, u "LOG2_ARRAY_BYTE_INDEX_SCALE"), (5, u "LOG2_ARRAY_CHAR_INDEX_SCALE"), (5, u "LOG2_ARRAY_SHORT_INDEX_SCALE"), (18, u "LOG2_ARRAY_FLOAT_INDEX_SCALE"), (24, u "LOG2_ARRAY_DOUBLE_INDEX_SCALE"), (89, u "T_BOOLEAN"), (2, u "T_CHAR"), (1, u "T_FLOAT"), (1, u "T_DOUBLE"), (1, u "T_BYTE"), (1, u "T_SHORT"), (1, u "T_INT"), (1, u "T_LONG"), (1, u "SOFT_MAX_ARRAY_LENGTH")] 83

def k12m0 : Method := { name := "<init>", desc := "()V", sig := { parameters := [], returnType := none }, accessFlags := 2, code := none }
/-- jdk/internal/util/ArraysSupport -/
def k12 : Class := { plain "jdk/internal/util/ArraysSupport" (some 0) with
  accessFlags := 33
  interfaces := #[]
  cf := some (fileOf pool12 21 #[] #[{ accessFlags := 2, nameIndex := 9, descriptorIndex := 19, attributes := #[] }] 33 16 #[] #[{ accessFlags := 24, nameIndex := 28, descriptorIndex := 29, attributes := #[] }, { accessFlags := 26, nameIndex := 38, descriptorIndex := 39, attributes := #[] }, { accessFlags := 25, nameIndex := 121, descriptorIndex := 25, attributes := #[] }, { accessFlags := 25, nameIndex := 131, descriptorIndex := 25, attributes := #[] }, { accessFlags := 25, nameIndex := 137, descriptorIndex := 25, attributes := #[] }, { accessFlags := 25, nameIndex := 143, descriptorIndex := 25, attributes := #[] }, { accessFlags := 25, nameIndex := 53, descriptorIndex := 25, attributes := #[] }, { accessFlags := 25, nameIndex := 24, descriptorIndex := 25, attributes := #[] }, { accessFlags := 25, nameIndex := 162, descriptorIndex := 25, attributes := #[] }, { accessFlags := 25, nameIndex := 187, descriptorIndex := 25, attributes := #[] }, { accessFlags := 26, nameIndex := 48, descriptorIndex := 25, attributes := #[] }, { accessFlags := 25, nameIndex := 277, descriptorIndex := 25, attributes := #[] }, { accessFlags := 25, nameIndex := 280, descriptorIndex := 25, attributes := #[] }, { accessFlags := 25, nameIndex := 282, descriptorIndex := 25, attributes := #[] }, { accessFlags := 25, nameIndex := 284, descriptorIndex := 25, attributes := #[] }, { accessFlags := 25, nameIndex := 286, descriptorIndex := 25, attributes := #[] }, { accessFlags := 25, nameIndex := 288, descriptorIndex := 25, attributes := #[] }, { accessFlags := 25, nameIndex := 290, descriptorIndex := 25, attributes := #[] }, { accessFlags := 25, nameIndex := 292, descriptorIndex := 25, attributes := #[] }, { accessFlags := 26, nameIndex := 108, descriptorIndex := 109, attributes := #[] }, { accessFlags := 25, nameIndex := 294, descriptorIndex := 25, attributes := #[] }])
  fields := #[{ name := "U", type := (.object "jdk/internal/misc/Unsafe"), accessFlags := 24, slot := 0, constantValue := 0 }, { name := "BIG_ENDIAN", type := .boolean, accessFlags := 26, slot := 1, constantValue := 0 }, { name := "LOG2_ARRAY_BOOLEAN_INDEX_SCALE", type := .int, accessFlags := 25, slot := 2, constantValue := 0 }, { name := "LOG2_ARRAY_BYTE_INDEX_SCALE", type := .int, accessFlags := 25, slot := 3, constantValue := 0 }, { name := "LOG2_ARRAY_CHAR_INDEX_SCALE", type := .int, accessFlags := 25, slot := 4, constantValue := 0 }, { name := "LOG2_ARRAY_SHORT_INDEX_SCALE", type := .int, accessFlags := 25, slot := 5, constantValue := 0 }, { name := "LOG2_ARRAY_INT_INDEX_SCALE", type := .int, accessFlags := 25, slot := 6, constantValue := 0 }, { name := "LOG2_ARRAY_LONG_INDEX_SCALE", type := .int, accessFlags := 25, slot := 7, constantValue := 0 }, { name := "LOG2_ARRAY_FLOAT_INDEX_SCALE", type := .int, accessFlags := 25, slot := 8, constantValue := 0 }, { name := "LOG2_ARRAY_DOUBLE_INDEX_SCALE", type := .int, accessFlags := 25, slot := 9, constantValue := 0 }, { name := "LOG2_BYTE_BIT_SIZE", type := .int, accessFlags := 26, slot := 10, constantValue := 0 }, { name := "T_BOOLEAN", type := .int, accessFlags := 25, slot := 11, constantValue := 0 }, { name := "T_CHAR", type := .int, accessFlags := 25, slot := 12, constantValue := 0 }, { name := "T_FLOAT", type := .int, accessFlags := 25, slot := 13, constantValue := 0 }, { name := "T_DOUBLE", type := .int, accessFlags := 25, slot := 14, constantValue := 0 }, { name := "T_BYTE", type := .int, accessFlags := 25, slot := 15, constantValue := 0 }, { name := "T_SHORT", type := .int, accessFlags := 25, slot := 16, constantValue := 0 }, { name := "T_INT", type := .int, accessFlags := 25, slot := 17, constantValue := 0 }, { name := "T_LONG", type := .int, accessFlags := 25, slot := 18, constantValue := 0 }, { name := "JLA", type := (.object "jdk/internal/access/JavaLangAccess"), accessFlags := 26, slot := 19, constantValue := 0 }, { name := "SOFT_MAX_ARRAY_LENGTH", type := .int, accessFlags := 25, slot := 20, constantValue := 0 }]
  methods := #[k12m0]
  instanceTypes := #[]
  staticTypes := #[(.object "jdk/internal/misc/Unsafe"), .boolean, .int, .int, .int, .int, .int, .int, .int, .int, .int, .int, .int, .int, .int, .int, .int, .int, .int, (.object "jdk/internal/access/JavaLangAccess"), .int]
  resolved := Array.replicate 378 none
  statics := none }

def pool13 : Array CpInfo := pool [(1, u "java/lang/Cloneable"), (0, .class_ 1), (0, u "java/lang/Object"), (0, .class_ 3)] 3

/-- java/lang/Cloneable -/
def k13 : Class := { plain "java/lang/Cloneable" (some 0) with
  accessFlags := 1537
  interfaces := #[]
  cf := some (fileOf pool13 2 #[] #[] 1537 4 #[] #[])
  fields := #[]
  methods := #[]
  instanceTypes := #[]
  staticTypes := #[]
  resolved := Array.replicate 8 none
  statics := none }

/-- the primitive byte -/
def k14 : Class := { plain "byte" none with kind := .primitive 'B', accessFlags := 0x411 }
/-- [B -/
def k15 : Class := { plain "[B" (some 0) with kind := .array 14 .byte, interfaces := #[13, 2], accessFlags := 1041 }

/-- the primitive char -/
def k16 : Class := { plain "char" none with kind := .primitive 'C', accessFlags := 0x411 }
/-- [C -/
def k17 : Class := { plain "[C" (some 0) with kind := .array 16 .char, interfaces := #[13, 2], accessFlags := 1041 }

/-- the primitive int -/
def k18 : Class := { plain "int" none with kind := .primitive 'I', accessFlags := 0x411 }
/-- [I -/
def k19 : Class := { plain "[I" (some 0) with kind := .array 18 .int, interfaces := #[13, 2], accessFlags := 1041 }

def heap : Heap := #[{ cls := 7, slots := #[.long 0, .int 1, .null, .int 0, .null, .int 0, .int 0], vm := .statics 7 },
  { cls := 11, slots := #[.null, .null, .null], vm := .statics 11 }]
def classes : Array Class := #[k0, k1, k2, k3, k4, k5, k6, k7, k8, k9, k10, k11, k12, k13, k14, k15, k16, k17, k18, k19]
def interned : List (Array UInt16 × Addr) := []
def slotsUsed : Nat := 10
def theMethod : MethodId := ⟨1, 1⟩
def args0 : Array Value := #[.int 5, .int 7, .int 9, .int 3, .int 0]
def aboutOver (below : List Frame) : State where
  vm := { classes := classes, interned := interned.toArray }
  heap := heap
  slotsUsed := slotsUsed
  threads := #[{ frames := .invoking theMethod args0 :: below }]
def below0 : List Frame := [.native { method := ⟨0, 0⟩, args := #[] }]
def about1 : State := aboutOver below0
def p0 : Program := .bare "" "" ""
def e0 : Env := launch0.env 0 0 0
theorem w_frames : about1.frames = Frame.invoking theMethod args0 :: below0 := rfl
set_option maxRecDepth 65536 in
theorem w_args : argsFit about1.vm theMethod args0 = true := by decide +kernel
set_option maxRecDepth 65536 in
theorem w_heap : heapFits about1 = true := by decide +kernel
set_option maxRecDepth 65536 in
theorem w_runnable : about1.curStatus? = some .runnable := by decide +kernel
set_option maxRecDepth 65536 in
theorem w_alone : about1.alone = true := by decide +kernel
set_option maxRecDepth 65536 in
theorem w_named : about1.methodNamed? x = some theMethod := by decide +kernel
set_option maxRecDepth 65536 in
theorem w_hears : about1.hears theMethod below0 = true := by decide +kernel
set_option maxRecDepth 65536 in
theorem w_ripe : about1.ripe theMethod args0 below0 = true := by decide +kernel
theorem w_running : about1.status = .running := rfl
set_option maxRecDepth 65536 in
theorem w_room : about1.hasRoom e0.platform room_1 = true :=
  launch0.hasRoom_least _ room_1 (by decide +kernel) (by decide +kernel) (by decide +kernel) (by decide +kernel) (by decide +kernel) (by decide +kernel)
theorem allAtoms_all (ts : List Jvm.Cond) (a : Array Jvm.Value) (st : Jvm.State) : (allAtoms ts).before a st = ts.all (fun c => c.before a st) := by
  induction ts with
  | nil => rfl
  | cons c t ih =>
    show (Jvm.Cond.and c (allAtoms t)).before a st = _
    rw [Jvm.Cond.before_and, ih, List.all_cons]
def words1 : List Jvm.Cond := Jvm.Cond.code x code maxLocals ret :: tables_1
/-- a 'code' word, met by the world's own term for the bytes: nothing is compared byte by byte -/
theorem code_word {y : MethodName} {bytes : ByteArray} {mx : Nat} {rt : Option FieldType} {a : Array Value} {s : State} {m : MethodId} {meth : Method} {c : Code} (h1 : s.methodNamed? y = some m) (h2 : s.vm.method? m = some meth) (h3 : meth.code = some c) (h4 : c.code = bytes)
    (h5 : (c.maxLocals == mx && c.exceptionTable.isEmpty && decide (c.maxStack ≤ mostOperands) && decide (meth.sig.returnType = rt) && !meth.locks && decide (parseMethodDescriptor y.desc = some meth.sig)) = true) : (Jvm.Cond.code y bytes mx rt).before a s = true := by
  simp only [Bool.and_eq_true, beq_iff_eq, Bool.not_eq_true', decide_eq_true_eq] at h5
  obtain ⟨⟨⟨⟨⟨g1, g2⟩, g3⟩, g4⟩, g5⟩, g6⟩ := h5
  simp [Cond.before, Cond.holds, Cond.value, h1, h2, h3, h4, g1, g2, g3, g4, g5, g6]
def isCode : Jvm.Cond → Bool
  | .code _ _ _ _ => true
  | _ => false
theorem all_split {L : List Jvm.Cond} {P : Jvm.Cond → Bool} (h1 : L.all (fun c => isCode c || P c) = true) (h2 : ∀ c ∈ L.filter isCode, P c = true) : L.all P = true := by
  refine List.all_eq_true.mpr fun c hc => ?_
  have h := List.all_eq_true.mp h1 c hc
  rcases Bool.eq_false_or_eq_true (isCode c) with hi | hi
  · exact h2 c (List.mem_filter.mpr ⟨hc, hi⟩)
  · simpa [hi] using h
set_option maxRecDepth 65536 in
theorem w_c0 : (Jvm.Cond.code x code maxLocals ret).before args0 about1 = true := code_word (m := ⟨1, 1⟩) (meth := k1m1) (c := k1c1) (by decide +kernel) rfl rfl rfl (by decide +kernel)
set_option maxRecDepth 65536 in
theorem w_c1 : (Jvm.Cond.code ({ cls := "com/example/racelint/racelint/check/ChoiceEqualsPinLaw", name := "make", desc := "(ICC)Ljava/lang/String;" } : Jvm.MethodName) method_3_code (4 : Nat) (Option.some (Jvm.ClassFile.FieldType.object "java/lang/String"))).before args0 about1 = true := code_word (m := ⟨1, 2⟩) (meth := k1m2) (c := k1c2) (by decide +kernel) rfl rfl rfl (by decide +kernel)
set_option maxRecDepth 65536 in
theorem w_c2 : (Jvm.Cond.code ({ cls := "java/lang/String", name := "<init>", desc := "([C)V" } : Jvm.MethodName) jdk_42_method_3_code (2 : Nat) (Option.none : Option Jvm.ClassFile.FieldType)).before args0 about1 = true := code_word (m := ⟨7, 1⟩) (meth := k7m1) (c := k7c1) (by decide +kernel) rfl rfl rfl (by decide +kernel)
set_option maxRecDepth 65536 in
theorem w_c3 : (Jvm.Cond.code ({ cls := "java/lang/String", name := "<init>", desc := "([CIILjava/lang/Void;)V" } : Jvm.MethodName) jdk_42_method_149_code (6 : Nat) (Option.none : Option Jvm.ClassFile.FieldType)).before args0 about1 = true := code_word (m := ⟨7, 3⟩) (meth := k7m3) (c := k7c3) (by decide +kernel) rfl rfl rfl (by decide +kernel)
set_option maxRecDepth 65536 in
theorem w_c4 : (Jvm.Cond.code ({ cls := "java/lang/Object", name := "<init>", desc := "()V" } : Jvm.MethodName) object_method_1_code (1 : Nat) (Option.none : Option Jvm.ClassFile.FieldType)).before args0 about1 = true := code_word (m := ⟨0, 0⟩) (meth := k0m0) (c := k0c0) (by decide +kernel) rfl rfl rfl (by decide +kernel)
set_option maxRecDepth 65536 in
theorem w_c5 : (Jvm.Cond.code ({ cls := "java/lang/StringUTF16", name := "compress", desc := "([CII)[B" } : Jvm.MethodName) jdk_52_method_16_code (6 : Nat) (Option.some (Jvm.ClassFile.FieldType.array Jvm.ClassFile.FieldType.byte))).before args0 about1 = true := code_word (m := ⟨8, 2⟩) (meth := k8m2) (c := k8c2) (by decide +kernel) rfl rfl rfl (by decide +kernel)
set_option maxRecDepth 65536 in
theorem w_c6 : (Jvm.Cond.code ({ cls := "java/lang/StringUTF16", name := "compress", desc := "([CI[BII)I" } : Jvm.MethodName) jdk_52_method_21_code (7 : Nat) (Option.some Jvm.ClassFile.FieldType.int)).before args0 about1 = true := code_word (m := ⟨8, 3⟩) (meth := k8m3) (c := k8c3) (by decide +kernel) rfl rfl rfl (by decide +kernel)
set_option maxRecDepth 65536 in
theorem w_c7 : (Jvm.Cond.code ({ cls := "java/lang/StringUTF16", name := "coderFromArrayLen", desc := "([BI)B" } : Jvm.MethodName) jdk_52_method_15_code (2 : Nat) (Option.some Jvm.ClassFile.FieldType.byte)).before args0 about1 = true := code_word (m := ⟨8, 1⟩) (meth := k8m1) (c := k8c1) (by decide +kernel) rfl rfl rfl (by decide +kernel)
set_option maxRecDepth 65536 in
theorem w_c8 : (Jvm.Cond.code ({ cls := "com/example/racelint/racelint/check/Schedule$Choice", name := "<init>", desc := "(ILjava/lang/String;)V" } : Jvm.MethodName) prog_14_method_1_code (3 : Nat) (Option.none : Option Jvm.ClassFile.FieldType)).before args0 about1 = true := code_word (m := ⟨9, 0⟩) (meth := k9m0) (c := k9c0) (by decide +kernel) rfl rfl rfl (by decide +kernel)
set_option maxRecDepth 65536 in
theorem w_c9 : (Jvm.Cond.code ({ cls := "com/example/racelint/racelint/check/Schedule$Choice", name := "equals", desc := "(Ljava/lang/Object;)Z" } : Jvm.MethodName) prog_14_method_5_code (3 : Nat) (Option.some Jvm.ClassFile.FieldType.boolean)).before args0 about1 = true := code_word (m := ⟨9, 1⟩) (meth := k9m1) (c := k9c1) (by decide +kernel) rfl rfl rfl (by decide +kernel)
set_option maxRecDepth 65536 in
theorem w_c10 : (Jvm.Cond.code ({ cls := "java/lang/String", name := "equals", desc := "(Ljava/lang/Object;)Z" } : Jvm.MethodName) jdk_42_method_66_code (3 : Nat) (Option.some Jvm.ClassFile.FieldType.boolean)).before args0 about1 = true := code_word (m := ⟨7, 2⟩) (meth := k7m2) (c := k7c2) (by decide +kernel) rfl rfl rfl (by decide +kernel)
set_option maxRecDepth 65536 in
theorem w_c11 : (Jvm.Cond.code ({ cls := "java/lang/StringLatin1", name := "equals", desc := "([B[B)Z" } : Jvm.MethodName) jdk_43_method_13_code (3 : Nat) (Option.some Jvm.ClassFile.FieldType.boolean)).before args0 about1 = true := code_word (m := ⟨10, 1⟩) (meth := k10m1) (c := k10c1) (by decide +kernel) rfl rfl rfl (by decide +kernel)
def codes1 : List Jvm.Cond := [Jvm.Cond.code x code maxLocals ret, Jvm.Cond.code ({ cls := "com/example/racelint/racelint/check/ChoiceEqualsPinLaw", name := "make", desc := "(ICC)Ljava/lang/String;" } : Jvm.MethodName) method_3_code (4 : Nat) (Option.some (Jvm.ClassFile.FieldType.object "java/lang/String")), Jvm.Cond.code ({ cls := "java/lang/String", name := "<init>", desc := "([C)V" } : Jvm.MethodName) jdk_42_method_3_code (2 : Nat) (Option.none : Option Jvm.ClassFile.FieldType), Jvm.Cond.code ({ cls := "java/lang/String", name := "<init>", desc := "([CIILjava/lang/Void;)V" } : Jvm.MethodName) jdk_42_method_149_code (6 : Nat) (Option.none : Option Jvm.ClassFile.FieldType), Jvm.Cond.code ({ cls := "java/lang/Object", name := "<init>", desc := "()V" } : Jvm.MethodName) object_method_1_code (1 : Nat) (Option.none : Option Jvm.ClassFile.FieldType), Jvm.Cond.code ({ cls := "java/lang/StringUTF16", name := "compress", desc := "([CII)[B" } : Jvm.MethodName) jdk_52_method_16_code (6 : Nat) (Option.some (Jvm.ClassFile.FieldType.array Jvm.ClassFile.FieldType.byte)), Jvm.Cond.code ({ cls := "java/lang/StringUTF16", name := "compress", desc := "([CI[BII)I" } : Jvm.MethodName) jdk_52_method_21_code (7 : Nat) (Option.some Jvm.ClassFile.FieldType.int), Jvm.Cond.code ({ cls := "java/lang/StringUTF16", name := "coderFromArrayLen", desc := "([BI)B" } : Jvm.MethodName) jdk_52_method_15_code (2 : Nat) (Option.some Jvm.ClassFile.FieldType.byte), Jvm.Cond.code ({ cls := "com/example/racelint/racelint/check/Schedule$Choice", name := "<init>", desc := "(ILjava/lang/String;)V" } : Jvm.MethodName) prog_14_method_1_code (3 : Nat) (Option.none : Option Jvm.ClassFile.FieldType), Jvm.Cond.code ({ cls := "com/example/racelint/racelint/check/Schedule$Choice", name := "equals", desc := "(Ljava/lang/Object;)Z" } : Jvm.MethodName) prog_14_method_5_code (3 : Nat) (Option.some Jvm.ClassFile.FieldType.boolean), Jvm.Cond.code ({ cls := "java/lang/String", name := "equals", desc := "(Ljava/lang/Object;)Z" } : Jvm.MethodName) jdk_42_method_66_code (3 : Nat) (Option.some Jvm.ClassFile.FieldType.boolean), Jvm.Cond.code ({ cls := "java/lang/StringLatin1", name := "equals", desc := "([B[B)Z" } : Jvm.MethodName) jdk_43_method_13_code (3 : Nat) (Option.some Jvm.ClassFile.FieldType.boolean)]
set_option maxRecDepth 65536 in
theorem codes_eq : words1.filter isCode = codes1 := rfl
theorem w_codes : ∀ c ∈ words1.filter isCode, c.before args0 about1 = true := by
  rw [codes_eq]
  intro c hc
  simp only [codes1, List.mem_cons, List.not_mem_nil, or_false] at hc
  rcases hc with rfl | rfl | rfl | rfl | rfl | rfl | rfl | rfl | rfl | rfl | rfl | rfl
  · exact w_c0
  · exact w_c1
  · exact w_c2
  · exact w_c3
  · exact w_c4
  · exact w_c5
  · exact w_c6
  · exact w_c7
  · exact w_c8
  · exact w_c9
  · exact w_c10
  · exact w_c11
set_option maxRecDepth 65536 in
theorem w_t1 : (words1.take 24).all (fun c => isCode c || c.before args0 about1) = true := by decide +kernel
set_option maxRecDepth 65536 in
theorem w_t2 : ((words1.drop 24).take 24).all (fun c => isCode c || c.before args0 about1) = true := by decide +kernel
set_option maxRecDepth 65536 in
theorem w_t3 : ((words1.drop 24).drop 24).all (fun c => isCode c || c.before args0 about1) = true := by decide +kernel
theorem w_tables : (allAtoms (Jvm.Cond.code x code maxLocals ret :: tables_1)).before args0 about1 = true := by
  rw [allAtoms_all]
  show words1.all (fun c => c.before args0 about1) = true
  refine all_split ?_ w_codes
  rw [← List.take_append_drop 24 words1, List.all_append, w_t1, ← List.take_append_drop 24 (words1.drop 24), List.all_append, w_t2, w_t3]
  rfl
set_option maxRecDepth 65536 in
theorem w_rest : rest_1_c.before args0 about1 = true := by decide +kernel
set_option maxRecDepth 65536 in
theorem w_case : (Jvm.Cond.and given_1 narrow_1).before args0 about1 = true := by decide +kernel
set_option maxRecDepth 65536 in
theorem w_consts : constsHeld consts_1 about1 := Jvm.Lit.constsHeldB_iff.mp (by decide +kernel)
theorem w_applies : (headSpec (Jvm.Cond.code x code maxLocals ret :: tables_1) room_1).applies x e0.platform about1 = true :=
  (Spec.applies_iff w_frames).mpr ⟨w_running, w_runnable, w_alone, w_named, w_hears, w_ripe, w_room, w_tables⟩
theorem atStart : AtStart classFile x code maxLocals ret World_1 tables_1 room_1 Calls_1 rest_1 Pre_1 launch0 p0 e0 about1 theMethod args0 below0 :=
  ⟨lists_1, trivial, launch0.admits_env _ _ _, launch0.least_env, fairChoices_fair.cas, fairChoices_fair.clock, w_frames, w_args, w_heap, w_applies, ⟨w_consts, trivial⟩, w_rest, w_case⟩
end start1
theorem witness_1 : WitnessClaimed_1 := ⟨start1.p0, start1.e0, start1.about1, start1.theMethod, start1.args0, start1.below0, start1.atStart⟩
end Jvm.Pilot.@@N@@
