import JvmDerived
import JvmDerived.Pilot.@@N@@Statement
import JvmDerived.Pilot.@@N@@Code
set_option linter.unusedVariables false
set_option linter.unusedSimpArgs false
namespace Jvm.Pilot.@@N@@
open Jvm Jvm.ClassFile Sem Op Lib Jvm.Free Jvm.Stand Jvm.LawKit Jvm.RoadKit Bundle Jvm.Pilot.@@N@@.Jvm.D
/-- from A the run comes to B -/
abbrev Go (p : Program) (e : Env) (below : List Frame) (A B : State) : Prop := ∀ t, Steps p.tables e below B t → Steps p.tables e below A t
section Own
variable {p : Program} {l : Launch} {e : Env} {R : Room} {s : State} {m : MethodId} {args : Array Value} {below : List Frame} {meth : Method} {c : Code} {T : State} {locs : List Loc} {cells slots : Nat} {t : State} {A : ByteArray} {pc : Nat} {L : Array Slot} {S : List Value}
theorem o_iloadN (X : Stand p l e R s m args below meth c T locs cells slots) (hx : p.tables.exec = Jvm.exec) (hby : c.code = A) {k : Fin 4} {v : Int32} (hd : decode A pc = .ok (.iload_n k, 1)) (n : Nat) (hn : pc + 1 = n) (hl : L[k.val]? = some (.val (.int v))) (hr : Steps p.tables e below (T.setTop (mkF m n L (.int v :: S))) t) : Steps p.tables e below (T.setTop (mkF m pc L S)) t := by
  subst hn; exact XS.iloadN X.here hx rfl (hb hby hd) hl hr
theorem o_lloadN (X : Stand p l e R s m args below meth c T locs cells slots) (hx : p.tables.exec = Jvm.exec) (hby : c.code = A) {k : Fin 4} {v : Int64} (hd : decode A pc = .ok (.lload_n k, 1)) (n : Nat) (hn : pc + 1 = n) (hl : L[k.val]? = some (.val (.long v))) (hr : Steps p.tables e below (T.setTop (mkF m n L (.long v :: S))) t) : Steps p.tables e below (T.setTop (mkF m pc L S)) t := by
  subst hn; exact XS.lloadN X.here hx rfl (hb hby hd) hl hr
theorem o_aloadN (X : Stand p l e R s m args below meth c T locs cells slots) (hx : p.tables.exec = Jvm.exec) (hby : c.code = A) {k : Fin 4} {v : Value} (hd : decode A pc = .ok (.aload_n k, 1)) (n : Nat) (hn : pc + 1 = n) (hl : L[k.val]? = some (.val v)) (hv : v.isRef = true) (hr : Steps p.tables e below (T.setTop (mkF m n L (v :: S))) t) : Steps p.tables e below (T.setTop (mkF m pc L S)) t := by
  subst hn; exact XS.aloadN X.here hx rfl (hb hby hd) hl hv hr
theorem o_istoreN (X : Stand p l e R s m args below meth c T locs cells slots) (hx : p.tables.exec = Jvm.exec) (hby : c.code = A) {k : Fin 4} {v : Int32} {l' : Array Slot} (hd : decode A pc = .ok (.istore_n k, 1)) (n : Nat) (hn : pc + 1 = n) (hl : storeLocals L k.val (.int v) = some l') (hr : Steps p.tables e below (T.setTop (mkF m n l' S)) t) : Steps p.tables e below (T.setTop (mkF m pc L (.int v :: S))) t := by
  subst hn; exact XS.istoreN X.here hx rfl (hb hby hd) rfl hl hr
theorem o_lstoreN (X : Stand p l e R s m args below meth c T locs cells slots) (hx : p.tables.exec = Jvm.exec) (hby : c.code = A) {k : Fin 4} {v : Int64} {l' : Array Slot} (hd : decode A pc = .ok (.lstore_n k, 1)) (n : Nat) (hn : pc + 1 = n) (hl : storeLocals L k.val (.long v) = some l') (hr : Steps p.tables e below (T.setTop (mkF m n l' S)) t) : Steps p.tables e below (T.setTop (mkF m pc L (.long v :: S))) t := by
  subst hn; exact XS.lstoreN X.here hx rfl (hb hby hd) rfl hl hr
theorem o_astoreN (X : Stand p l e R s m args below meth c T locs cells slots) (hx : p.tables.exec = Jvm.exec) (hby : c.code = A) {k : Fin 4} {v : Value} {l' : Array Slot} (hd : decode A pc = .ok (.astore_n k, 1)) (n : Nat) (hn : pc + 1 = n) (hv : v.isRef = true) (hl : storeLocals L k.val v = some l') (hr : Steps p.tables e below (T.setTop (mkF m n l' S)) t) : Steps p.tables e below (T.setTop (mkF m pc L (v :: S))) t := by
  subst hn; exact XS.astoreN X.here hx rfl (hb hby hd) rfl hv hl hr
theorem o_iload (X : Stand p l e R s m args below meth c T locs cells slots) (hx : p.tables.exec = Jvm.exec) (hby : c.code = A) {k : Nat} {v : Int32} (hd : decode A pc = .ok (.iload k, 2)) (n : Nat) (hn : pc + 2 = n) (hl : L[k]? = some (.val (.int v))) (hr : Steps p.tables e below (T.setTop (mkF m n L (.int v :: S))) t) : Steps p.tables e below (T.setTop (mkF m pc L S)) t := by
  subst hn; exact XS.iload X.here hx rfl (hb hby hd) hl hr
theorem o_lload (X : Stand p l e R s m args below meth c T locs cells slots) (hx : p.tables.exec = Jvm.exec) (hby : c.code = A) {k : Nat} {v : Int64} (hd : decode A pc = .ok (.lload k, 2)) (n : Nat) (hn : pc + 2 = n) (hl : L[k]? = some (.val (.long v))) (hr : Steps p.tables e below (T.setTop (mkF m n L (.long v :: S))) t) : Steps p.tables e below (T.setTop (mkF m pc L S)) t := by
  subst hn; exact XS.lload X.here hx rfl (hb hby hd) hl hr
theorem o_aload (X : Stand p l e R s m args below meth c T locs cells slots) (hx : p.tables.exec = Jvm.exec) (hby : c.code = A) {k : Nat} {v : Value} (hd : decode A pc = .ok (.aload k, 2)) (n : Nat) (hn : pc + 2 = n) (hl : L[k]? = some (.val v)) (hv : v.isRef = true) (hr : Steps p.tables e below (T.setTop (mkF m n L (v :: S))) t) : Steps p.tables e below (T.setTop (mkF m pc L S)) t := by
  subst hn; exact XS.aload X.here hx rfl (hb hby hd) hl hv hr
theorem o_istore (X : Stand p l e R s m args below meth c T locs cells slots) (hx : p.tables.exec = Jvm.exec) (hby : c.code = A) {k : Nat} {v : Int32} {l' : Array Slot} (hd : decode A pc = .ok (.istore k, 2)) (n : Nat) (hn : pc + 2 = n) (hl : storeLocals L k (.int v) = some l') (hr : Steps p.tables e below (T.setTop (mkF m n l' S)) t) : Steps p.tables e below (T.setTop (mkF m pc L (.int v :: S))) t := by
  subst hn; exact XS.istore X.here hx rfl (hb hby hd) rfl hl hr
theorem o_lstore (X : Stand p l e R s m args below meth c T locs cells slots) (hx : p.tables.exec = Jvm.exec) (hby : c.code = A) {k : Nat} {v : Int64} {l' : Array Slot} (hd : decode A pc = .ok (.lstore k, 2)) (n : Nat) (hn : pc + 2 = n) (hl : storeLocals L k (.long v) = some l') (hr : Steps p.tables e below (T.setTop (mkF m n l' S)) t) : Steps p.tables e below (T.setTop (mkF m pc L (.long v :: S))) t := by
  subst hn; exact XS.lstore X.here hx rfl (hb hby hd) rfl hl hr
theorem o_astore (X : Stand p l e R s m args below meth c T locs cells slots) (hx : p.tables.exec = Jvm.exec) (hby : c.code = A) {k : Nat} {v : Value} {l' : Array Slot} (hd : decode A pc = .ok (.astore k, 2)) (n : Nat) (hn : pc + 2 = n) (hv : v.isRef = true) (hl : storeLocals L k v = some l') (hr : Steps p.tables e below (T.setTop (mkF m n l' S)) t) : Steps p.tables e below (T.setTop (mkF m pc L (v :: S))) t := by
  subst hn; exact XS.astore X.here hx rfl (hb hby hd) rfl hv hl hr
theorem o_iconst (X : Stand p l e R s m args below meth c T locs cells slots) (hx : p.tables.exec = Jvm.exec) (hby : c.code = A) {i : Int} (hd : decode A pc = .ok (.iconst i, 1)) (n : Nat) (hn : pc + 1 = n) {v : Int32} (hv : Int32.ofInt i = v) (hr : Steps p.tables e below (T.setTop (mkF m n L (.int v :: S))) t) : Steps p.tables e below (T.setTop (mkF m pc L S)) t := by
  subst hn; subst hv; exact XS.iconst X.here hx rfl (hb hby hd) hr
theorem o_bipush (X : Stand p l e R s m args below meth c T locs cells slots) (hx : p.tables.exec = Jvm.exec) (hby : c.code = A) {i : Int} (hd : decode A pc = .ok (.bipush i, 2)) (n : Nat) (hn : pc + 2 = n) {v : Int32} (hv : (Int8.ofInt i).toInt32 = v) (hr : Steps p.tables e below (T.setTop (mkF m n L (.int v :: S))) t) : Steps p.tables e below (T.setTop (mkF m pc L S)) t := by
  subst hn; subst hv; exact XS.bipush X.here hx rfl (hb hby hd) hr
theorem o_sipush (X : Stand p l e R s m args below meth c T locs cells slots) (hx : p.tables.exec = Jvm.exec) (hby : c.code = A) {i : Int} (hd : decode A pc = .ok (.sipush i, 3)) (n : Nat) (hn : pc + 3 = n) {v : Int32} (hv : (Int16.ofInt i).toInt32 = v) (hr : Steps p.tables e below (T.setTop (mkF m n L (.int v :: S))) t) : Steps p.tables e below (T.setTop (mkF m pc L S)) t := by
  subst hn; subst hv; exact XS.sipush X.here hx rfl (hb hby hd) hr
theorem o_lconst (X : Stand p l e R s m args below meth c T locs cells slots) (hx : p.tables.exec = Jvm.exec) (hby : c.code = A) {i : Fin 2} (hd : decode A pc = .ok (.lconst i, 1)) (n : Nat) (hn : pc + 1 = n) {v : Int64} (hv : Int64.ofNat i.val = v) (hr : Steps p.tables e below (T.setTop (mkF m n L (.long v :: S))) t) : Steps p.tables e below (T.setTop (mkF m pc L S)) t := by
  subst hn; subst hv; exact XS.lconst X.here hx rfl (hb hby hd) hr
theorem o_aconstNull (X : Stand p l e R s m args below meth c T locs cells slots) (hx : p.tables.exec = Jvm.exec) (hby : c.code = A) (hd : decode A pc = .ok (.aconst_null, 1)) (n : Nat) (hn : pc + 1 = n) (hr : Steps p.tables e below (T.setTop (mkF m n L (.null :: S))) t) : Steps p.tables e below (T.setTop (mkF m pc L S)) t := by
  subst hn; exact XS.aconstNull X.here hx rfl (hb hby hd) hr
theorem o_iadd (X : Stand p l e R s m args below meth c T locs cells slots) (hx : p.tables.exec = Jvm.exec) (hby : c.code = A) {x y : Int32} (hd : decode A pc = .ok (.iadd, 1)) (n : Nat) (hn : pc + 1 = n) (hr : Steps p.tables e below (T.setTop (mkF m n L (.int (x + y) :: S))) t) : Steps p.tables e below (T.setTop (mkF m pc L (.int y :: .int x :: S))) t := by
  subst hn; exact XS.iadd X.here hx rfl (hb hby hd) rfl hr
theorem o_ladd (X : Stand p l e R s m args below meth c T locs cells slots) (hx : p.tables.exec = Jvm.exec) (hby : c.code = A) {x y : Int64} (hd : decode A pc = .ok (.ladd, 1)) (n : Nat) (hn : pc + 1 = n) (hr : Steps p.tables e below (T.setTop (mkF m n L (.long (x + y) :: S))) t) : Steps p.tables e below (T.setTop (mkF m pc L (.long y :: .long x :: S))) t := by
  subst hn; exact XS.ladd X.here hx rfl (hb hby hd) rfl hr
theorem o_isub (X : Stand p l e R s m args below meth c T locs cells slots) (hx : p.tables.exec = Jvm.exec) (hby : c.code = A) {x y : Int32} (hd : decode A pc = .ok (.isub, 1)) (n : Nat) (hn : pc + 1 = n) (hr : Steps p.tables e below (T.setTop (mkF m n L (.int (x - y) :: S))) t) : Steps p.tables e below (T.setTop (mkF m pc L (.int y :: .int x :: S))) t := by
  subst hn; exact XS.isub X.here hx rfl (hb hby hd) rfl hr
theorem o_lsub (X : Stand p l e R s m args below meth c T locs cells slots) (hx : p.tables.exec = Jvm.exec) (hby : c.code = A) {x y : Int64} (hd : decode A pc = .ok (.lsub, 1)) (n : Nat) (hn : pc + 1 = n) (hr : Steps p.tables e below (T.setTop (mkF m n L (.long (x - y) :: S))) t) : Steps p.tables e below (T.setTop (mkF m pc L (.long y :: .long x :: S))) t := by
  subst hn; exact XS.lsub X.here hx rfl (hb hby hd) rfl hr
theorem o_imul (X : Stand p l e R s m args below meth c T locs cells slots) (hx : p.tables.exec = Jvm.exec) (hby : c.code = A) {x y : Int32} (hd : decode A pc = .ok (.imul, 1)) (n : Nat) (hn : pc + 1 = n) (hr : Steps p.tables e below (T.setTop (mkF m n L (.int (x * y) :: S))) t) : Steps p.tables e below (T.setTop (mkF m pc L (.int y :: .int x :: S))) t := by
  subst hn; exact XS.imul X.here hx rfl (hb hby hd) rfl hr
theorem o_lmul (X : Stand p l e R s m args below meth c T locs cells slots) (hx : p.tables.exec = Jvm.exec) (hby : c.code = A) {x y : Int64} (hd : decode A pc = .ok (.lmul, 1)) (n : Nat) (hn : pc + 1 = n) (hr : Steps p.tables e below (T.setTop (mkF m n L (.long (x * y) :: S))) t) : Steps p.tables e below (T.setTop (mkF m pc L (.long y :: .long x :: S))) t := by
  subst hn; exact XS.lmul X.here hx rfl (hb hby hd) rfl hr
theorem o_iand (X : Stand p l e R s m args below meth c T locs cells slots) (hx : p.tables.exec = Jvm.exec) (hby : c.code = A) {x y : Int32} (hd : decode A pc = .ok (.iand, 1)) (n : Nat) (hn : pc + 1 = n) (hr : Steps p.tables e below (T.setTop (mkF m n L (.int (x &&& y) :: S))) t) : Steps p.tables e below (T.setTop (mkF m pc L (.int y :: .int x :: S))) t := by
  subst hn; exact XS.iand X.here hx rfl (hb hby hd) rfl hr
theorem o_land (X : Stand p l e R s m args below meth c T locs cells slots) (hx : p.tables.exec = Jvm.exec) (hby : c.code = A) {x y : Int64} (hd : decode A pc = .ok (.land, 1)) (n : Nat) (hn : pc + 1 = n) (hr : Steps p.tables e below (T.setTop (mkF m n L (.long (x &&& y) :: S))) t) : Steps p.tables e below (T.setTop (mkF m pc L (.long y :: .long x :: S))) t := by
  subst hn; exact XS.land X.here hx rfl (hb hby hd) rfl hr
theorem o_ior (X : Stand p l e R s m args below meth c T locs cells slots) (hx : p.tables.exec = Jvm.exec) (hby : c.code = A) {x y : Int32} (hd : decode A pc = .ok (.ior, 1)) (n : Nat) (hn : pc + 1 = n) (hr : Steps p.tables e below (T.setTop (mkF m n L (.int (x ||| y) :: S))) t) : Steps p.tables e below (T.setTop (mkF m pc L (.int y :: .int x :: S))) t := by
  subst hn; exact XS.ior X.here hx rfl (hb hby hd) rfl hr
theorem o_lor (X : Stand p l e R s m args below meth c T locs cells slots) (hx : p.tables.exec = Jvm.exec) (hby : c.code = A) {x y : Int64} (hd : decode A pc = .ok (.lor, 1)) (n : Nat) (hn : pc + 1 = n) (hr : Steps p.tables e below (T.setTop (mkF m n L (.long (x ||| y) :: S))) t) : Steps p.tables e below (T.setTop (mkF m pc L (.long y :: .long x :: S))) t := by
  subst hn; exact XS.lor X.here hx rfl (hb hby hd) rfl hr
theorem o_ixor (X : Stand p l e R s m args below meth c T locs cells slots) (hx : p.tables.exec = Jvm.exec) (hby : c.code = A) {x y : Int32} (hd : decode A pc = .ok (.ixor, 1)) (n : Nat) (hn : pc + 1 = n) (hr : Steps p.tables e below (T.setTop (mkF m n L (.int (x ^^^ y) :: S))) t) : Steps p.tables e below (T.setTop (mkF m pc L (.int y :: .int x :: S))) t := by
  subst hn; exact XS.ixor X.here hx rfl (hb hby hd) rfl hr
theorem o_lxor (X : Stand p l e R s m args below meth c T locs cells slots) (hx : p.tables.exec = Jvm.exec) (hby : c.code = A) {x y : Int64} (hd : decode A pc = .ok (.lxor, 1)) (n : Nat) (hn : pc + 1 = n) (hr : Steps p.tables e below (T.setTop (mkF m n L (.long (x ^^^ y) :: S))) t) : Steps p.tables e below (T.setTop (mkF m pc L (.long y :: .long x :: S))) t := by
  subst hn; exact XS.lxor X.here hx rfl (hb hby hd) rfl hr
theorem o_idiv (X : Stand p l e R s m args below meth c T locs cells slots) (hx : p.tables.exec = Jvm.exec) (hby : c.code = A) {x y : Int32} (hd : decode A pc = .ok (.idiv, 1)) (n : Nat) (hn : pc + 1 = n) (hy : ¬ (y = 0)) (hr : Steps p.tables e below (T.setTop (mkF m n L (.int (x / y) :: S))) t) : Steps p.tables e below (T.setTop (mkF m pc L (.int y :: .int x :: S))) t := by
  subst hn; exact XS.idiv X.here hx rfl (hb hby hd) rfl hy hr
theorem o_ldiv (X : Stand p l e R s m args below meth c T locs cells slots) (hx : p.tables.exec = Jvm.exec) (hby : c.code = A) {x y : Int64} (hd : decode A pc = .ok (.ldiv, 1)) (n : Nat) (hn : pc + 1 = n) (hy : ¬ (y = 0)) (hr : Steps p.tables e below (T.setTop (mkF m n L (.long (x / y) :: S))) t) : Steps p.tables e below (T.setTop (mkF m pc L (.long y :: .long x :: S))) t := by
  subst hn; exact XS.ldiv X.here hx rfl (hb hby hd) rfl hy hr
theorem o_irem (X : Stand p l e R s m args below meth c T locs cells slots) (hx : p.tables.exec = Jvm.exec) (hby : c.code = A) {x y : Int32} (hd : decode A pc = .ok (.irem, 1)) (n : Nat) (hn : pc + 1 = n) (hy : ¬ (y = 0)) (hr : Steps p.tables e below (T.setTop (mkF m n L (.int (x % y) :: S))) t) : Steps p.tables e below (T.setTop (mkF m pc L (.int y :: .int x :: S))) t := by
  subst hn; exact XS.irem X.here hx rfl (hb hby hd) rfl hy (by rw [irem_eq_mod]; exact hr)
theorem o_lrem (X : Stand p l e R s m args below meth c T locs cells slots) (hx : p.tables.exec = Jvm.exec) (hby : c.code = A) {x y : Int64} (hd : decode A pc = .ok (.lrem, 1)) (n : Nat) (hn : pc + 1 = n) (hy : ¬ (y = 0)) (hr : Steps p.tables e below (T.setTop (mkF m n L (.long (x % y) :: S))) t) : Steps p.tables e below (T.setTop (mkF m pc L (.long y :: .long x :: S))) t := by
  subst hn; exact XS.lrem X.here hx rfl (hb hby hd) rfl hy (by rw [lrem_mod]; exact hr)
theorem o_ineg (X : Stand p l e R s m args below meth c T locs cells slots) (hx : p.tables.exec = Jvm.exec) (hby : c.code = A) {x : Int32} (hd : decode A pc = .ok (.ineg, 1)) (n : Nat) (hn : pc + 1 = n) (hr : Steps p.tables e below (T.setTop (mkF m n L (.int (-x) :: S))) t) : Steps p.tables e below (T.setTop (mkF m pc L (.int x :: S))) t := by
  subst hn; exact XS.ineg X.here hx rfl (hb hby hd) rfl hr
theorem o_lneg (X : Stand p l e R s m args below meth c T locs cells slots) (hx : p.tables.exec = Jvm.exec) (hby : c.code = A) {x : Int64} (hd : decode A pc = .ok (.lneg, 1)) (n : Nat) (hn : pc + 1 = n) (hr : Steps p.tables e below (T.setTop (mkF m n L (.long (-x) :: S))) t) : Steps p.tables e below (T.setTop (mkF m pc L (.long x :: S))) t := by
  subst hn; exact XS.lneg X.here hx rfl (hb hby hd) rfl hr
theorem o_i2l (X : Stand p l e R s m args below meth c T locs cells slots) (hx : p.tables.exec = Jvm.exec) (hby : c.code = A) {x : Int32} (hd : decode A pc = .ok (.i2l, 1)) (n : Nat) (hn : pc + 1 = n) (hr : Steps p.tables e below (T.setTop (mkF m n L (.long (x.toInt64) :: S))) t) : Steps p.tables e below (T.setTop (mkF m pc L (.int x :: S))) t := by
  subst hn; exact XS.i2l X.here hx rfl (hb hby hd) rfl hr
theorem o_l2i (X : Stand p l e R s m args below meth c T locs cells slots) (hx : p.tables.exec = Jvm.exec) (hby : c.code = A) {x : Int64} (hd : decode A pc = .ok (.l2i, 1)) (n : Nat) (hn : pc + 1 = n) (hr : Steps p.tables e below (T.setTop (mkF m n L (.int (x.toInt32) :: S))) t) : Steps p.tables e below (T.setTop (mkF m pc L (.long x :: S))) t := by
  subst hn; exact XS.l2i X.here hx rfl (hb hby hd) rfl hr
theorem o_i2b (X : Stand p l e R s m args below meth c T locs cells slots) (hx : p.tables.exec = Jvm.exec) (hby : c.code = A) {x : Int32} (hd : decode A pc = .ok (.i2b, 1)) (n : Nat) (hn : pc + 1 = n) (hr : Steps p.tables e below (T.setTop (mkF m n L (.int (x.toInt8.toInt32) :: S))) t) : Steps p.tables e below (T.setTop (mkF m pc L (.int x :: S))) t := by
  subst hn; exact XS.i2b X.here hx rfl (hb hby hd) rfl hr
theorem o_i2s (X : Stand p l e R s m args below meth c T locs cells slots) (hx : p.tables.exec = Jvm.exec) (hby : c.code = A) {x : Int32} (hd : decode A pc = .ok (.i2s, 1)) (n : Nat) (hn : pc + 1 = n) (hr : Steps p.tables e below (T.setTop (mkF m n L (.int (x.toInt16.toInt32) :: S))) t) : Steps p.tables e below (T.setTop (mkF m pc L (.int x :: S))) t := by
  subst hn; exact XS.i2s X.here hx rfl (hb hby hd) rfl hr
theorem o_i2c (X : Stand p l e R s m args below meth c T locs cells slots) (hx : p.tables.exec = Jvm.exec) (hby : c.code = A) {x : Int32} (hd : decode A pc = .ok (.i2c, 1)) (n : Nat) (hn : pc + 1 = n) (hr : Steps p.tables e below (T.setTop (mkF m n L (.int (x.toUInt32.toUInt16.toUInt32.toInt32) :: S))) t) : Steps p.tables e below (T.setTop (mkF m pc L (.int x :: S))) t := by
  subst hn; exact XS.i2c X.here hx rfl (hb hby hd) rfl hr
theorem o_ishl (X : Stand p l e R s m args below meth c T locs cells slots) (hx : p.tables.exec = Jvm.exec) (hby : c.code = A) {x y : Int32} (hd : decode A pc = .ok (.ishl, 1)) (n : Nat) (hn : pc + 1 = n) (hr : Steps p.tables e below (T.setTop (mkF m n L (.int (x <<< (y &&& 31)) :: S))) t) : Steps p.tables e below (T.setTop (mkF m pc L (.int y :: .int x :: S))) t := by
  subst hn; exact XS.ishl X.here hx rfl (hb hby hd) rfl hr
theorem o_ishr (X : Stand p l e R s m args below meth c T locs cells slots) (hx : p.tables.exec = Jvm.exec) (hby : c.code = A) {x y : Int32} (hd : decode A pc = .ok (.ishr, 1)) (n : Nat) (hn : pc + 1 = n) (hr : Steps p.tables e below (T.setTop (mkF m n L (.int (x >>> (y &&& 31)) :: S))) t) : Steps p.tables e below (T.setTop (mkF m pc L (.int y :: .int x :: S))) t := by
  subst hn; exact XS.ishr X.here hx rfl (hb hby hd) rfl hr
theorem o_iushr (X : Stand p l e R s m args below meth c T locs cells slots) (hx : p.tables.exec = Jvm.exec) (hby : c.code = A) {x y : Int32} (hd : decode A pc = .ok (.iushr, 1)) (n : Nat) (hn : pc + 1 = n) (hr : Steps p.tables e below (T.setTop (mkF m n L (.int ((x.toUInt32 >>> (y &&& 31).toUInt32).toInt32) :: S))) t) : Steps p.tables e below (T.setTop (mkF m pc L (.int y :: .int x :: S))) t := by
  subst hn; exact XS.iushr X.here hx rfl (hb hby hd) rfl hr
theorem o_lshl (X : Stand p l e R s m args below meth c T locs cells slots) (hx : p.tables.exec = Jvm.exec) (hby : c.code = A) {x : Int64} {y : Int32} (hd : decode A pc = .ok (.lshl, 1)) (n : Nat) (hn : pc + 1 = n) (hr : Steps p.tables e below (T.setTop (mkF m n L (.long (x <<< (y &&& 0x3f).toInt64) :: S))) t) : Steps p.tables e below (T.setTop (mkF m pc L (.int y :: .long x :: S))) t := by
  subst hn; exact XS.lshl X.here hx rfl (hb hby hd) rfl hr
theorem o_lshr (X : Stand p l e R s m args below meth c T locs cells slots) (hx : p.tables.exec = Jvm.exec) (hby : c.code = A) {x : Int64} {y : Int32} (hd : decode A pc = .ok (.lshr, 1)) (n : Nat) (hn : pc + 1 = n) (hr : Steps p.tables e below (T.setTop (mkF m n L (.long (x >>> (y &&& 0x3f).toInt64) :: S))) t) : Steps p.tables e below (T.setTop (mkF m pc L (.int y :: .long x :: S))) t := by
  subst hn; exact XS.lshr X.here hx rfl (hb hby hd) rfl hr
theorem o_lushr (X : Stand p l e R s m args below meth c T locs cells slots) (hx : p.tables.exec = Jvm.exec) (hby : c.code = A) {x : Int64} {y : Int32} (hd : decode A pc = .ok (.lushr, 1)) (n : Nat) (hn : pc + 1 = n) (hr : Steps p.tables e below (T.setTop (mkF m n L (.long ((x.toUInt64 >>> (y &&& 0x3f).toInt64.toUInt64).toInt64) :: S))) t) : Steps p.tables e below (T.setTop (mkF m pc L (.int y :: .long x :: S))) t := by
  subst hn; exact XS.lushr X.here hx rfl (hb hby hd) rfl hr
theorem o_lcmp (X : Stand p l e R s m args below meth c T locs cells slots) (hx : p.tables.exec = Jvm.exec) (hby : c.code = A) {x y : Int64} (hd : decode A pc = .ok (.lcmp, 1)) (n : Nat) (hn : pc + 1 = n) (hr : Steps p.tables e below (T.setTop (mkF m n L (.int (lcmpW x y) :: S))) t) : Steps p.tables e below (T.setTop (mkF m pc L (.long y :: .long x :: S))) t := by
  subst hn; exact XS.lcmp X.here hx rfl (hb hby hd) rfl hr
theorem o_dup (X : Stand p l e R s m args below meth c T locs cells slots) (hx : p.tables.exec = Jvm.exec) (hby : c.code = A) {x : Value} (hd : decode A pc = .ok (.dup, 1)) (n : Nat) (hn : pc + 1 = n) (hc : x.category = 1) (hr : Steps p.tables e below (T.setTop (mkF m n L (x :: x :: S))) t) : Steps p.tables e below (T.setTop (mkF m pc L (x :: S))) t := by
  subst hn; exact XS.dup X.here hx rfl (hb hby hd) rfl hc hr
theorem o_dupX1 (X : Stand p l e R s m args below meth c T locs cells slots) (hx : p.tables.exec = Jvm.exec) (hby : c.code = A) {x y : Value} (hd : decode A pc = .ok (.dup_x1, 1)) (n : Nat) (hn : pc + 1 = n) (hc : x.category = 1) (hc' : y.category = 1) (hr : Steps p.tables e below (T.setTop (mkF m n L (x :: y :: x :: S))) t) : Steps p.tables e below (T.setTop (mkF m pc L (x :: y :: S))) t := by
  subst hn; exact XT.dupX1 X.here hx rfl (hb hby hd) rfl hc hc' hr
theorem o_dup2 (X : Stand p l e R s m args below meth c T locs cells slots) (hx : p.tables.exec = Jvm.exec) (hby : c.code = A) {x y : Value} (hd : decode A pc = .ok (.dup2, 1)) (n : Nat) (hn : pc + 1 = n) (hc : x.category = 1) (hc' : y.category = 1) (hr : Steps p.tables e below (T.setTop (mkF m n L (x :: y :: x :: y :: S))) t) : Steps p.tables e below (T.setTop (mkF m pc L (x :: y :: S))) t := by
  subst hn; exact XT.dup2 X.here hx rfl (hb hby hd) rfl hc hc' hr
theorem o_iinc (X : Stand p l e R s m args below meth c T locs cells slots) (hx : p.tables.exec = Jvm.exec) (hby : c.code = A) {k : Nat} {cst : Int} {x : Int32} {l' : Array Slot} (hd : decode A pc = .ok (.iinc k cst, 3)) (n : Nat) (hn : pc + 3 = n) (hl : L[k]? = some (.val (.int x))) {i : Int32} (hi : Int32.ofInt cst = i) (hl' : storeLocals L k (.int (x + i)) = some l') (hr : Steps p.tables e below (T.setTop (mkF m n l' S)) t) : Steps p.tables e below (T.setTop (mkF m pc L S)) t := by
  subst hn; subst hi; exact XS.iinc X.here hx rfl (hb hby hd) hl hl' hr
theorem o_pop (X : Stand p l e R s m args below meth c T locs cells slots) (hx : p.tables.exec = Jvm.exec) (hby : c.code = A) {x : Value} (hd : decode A pc = .ok (.pop, 1)) (n : Nat) (hn : pc + 1 = n) (hc : x.category = 1) (hr : Steps p.tables e below (T.setTop (mkF m n L S)) t) : Steps p.tables e below (T.setTop (mkF m pc L (x :: S))) t := by
  subst hn; exact XT.pop X.here hx rfl (hb hby hd) rfl hc hr
theorem o_goto (X : Stand p l e R s m args below meth c T locs cells slots) (hx : p.tables.exec = Jvm.exec) (hby : c.code = A) {o : Int} (hd : decode A pc = .ok (.goto o, 3)) (n : Nat) (hn : (pc : Int) + o = (n : Int)) (hr : Steps p.tables e below (T.setTop (mkF m n L S)) t) : Steps p.tables e below (T.setTop (mkF m pc L S)) t :=
  XS.goto X.here hx rfl (pc0 := pc) (pc' := n) rfl (hb hby hd) (by omega) (by omega) hr
theorem o_ifY (X : Stand p l e R s m args below meth c T locs cells slots) (hx : p.tables.exec = Jvm.exec) (hby : c.code = A) {cd : ClassFile.Cond} {x : Int32} {o : Int} (hd : decode A pc = .ok (.ifCond cd o, 3)) (n : Nat) (hn : (pc : Int) + o = (n : Int)) (hc : if_icmp.holds cd x 0 = true) (hr : Steps p.tables e below (T.setTop (mkF m n L S)) t) : Steps p.tables e below (T.setTop (mkF m pc L (.int x :: S))) t :=
  XS.ifYes X.here hx rfl (pc0 := pc) (pc' := n) rfl (hb hby hd) rfl ((if0 _ _).trans hc) (by omega) (by omega) hr
theorem o_ifN (X : Stand p l e R s m args below meth c T locs cells slots) (hx : p.tables.exec = Jvm.exec) (hby : c.code = A) {cd : ClassFile.Cond} {x : Int32} {o : Int} (hd : decode A pc = .ok (.ifCond cd o, 3)) (n : Nat) (hn : pc + 3 = n) (hc : if_icmp.holds cd x 0 = false) (hr : Steps p.tables e below (T.setTop (mkF m n L S)) t) : Steps p.tables e below (T.setTop (mkF m pc L (.int x :: S))) t := by
  subst hn; exact XS.ifNo X.here hx rfl (hb hby hd) rfl ((if0 _ _).trans hc) hr
theorem o_icmpY (X : Stand p l e R s m args below meth c T locs cells slots) (hx : p.tables.exec = Jvm.exec) (hby : c.code = A) {cd : ClassFile.Cond} {x y : Int32} {o : Int} (hd : decode A pc = .ok (.if_icmp cd o, 3)) (n : Nat) (hn : (pc : Int) + o = (n : Int)) (hc : if_icmp.holds cd x y = true) (hr : Steps p.tables e below (T.setTop (mkF m n L S)) t) : Steps p.tables e below (T.setTop (mkF m pc L (.int y :: .int x :: S))) t :=
  XS.icmpYes X.here hx rfl (pc0 := pc) (pc' := n) rfl (hb hby hd) rfl hc (by omega) (by omega) hr
theorem o_icmpN (X : Stand p l e R s m args below meth c T locs cells slots) (hx : p.tables.exec = Jvm.exec) (hby : c.code = A) {cd : ClassFile.Cond} {x y : Int32} {o : Int} (hd : decode A pc = .ok (.if_icmp cd o, 3)) (n : Nat) (hn : pc + 3 = n) (hc : if_icmp.holds cd x y = false) (hr : Steps p.tables e below (T.setTop (mkF m n L S)) t) : Steps p.tables e below (T.setTop (mkF m pc L (.int y :: .int x :: S))) t := by
  subst hn; exact XS.icmpNo X.here hx rfl (hb hby hd) rfl hc hr
theorem o_ifnullY (X : Stand p l e R s m args below meth c T locs cells slots) (hx : p.tables.exec = Jvm.exec) (hby : c.code = A) {o : Int} (hd : decode A pc = .ok (.ifnull o, 3)) (n : Nat) (hn : (pc : Int) + o = (n : Int)) (hr : Steps p.tables e below (T.setTop (mkF m n L S)) t) : Steps p.tables e below (T.setTop (mkF m pc L (.null :: S))) t :=
  XS.ifnullYes X.here hx rfl (pc0 := pc) (pc' := n) rfl (hb hby hd) rfl (by omega) (by omega) hr
theorem o_ifnullN (X : Stand p l e R s m args below meth c T locs cells slots) (hx : p.tables.exec = Jvm.exec) (hby : c.code = A) {a : Addr} {o : Int} (hd : decode A pc = .ok (.ifnull o, 3)) (n : Nat) (hn : pc + 3 = n) (hr : Steps p.tables e below (T.setTop (mkF m n L S)) t) : Steps p.tables e below (T.setTop (mkF m pc L (.ref a :: S))) t := by
  subst hn; exact XS.ifnullNo X.here hx rfl (hb hby hd) rfl hr
theorem o_ifnonnullY (X : Stand p l e R s m args below meth c T locs cells slots) (hx : p.tables.exec = Jvm.exec) (hby : c.code = A) {a : Addr} {o : Int} (hd : decode A pc = .ok (.ifnonnull o, 3)) (n : Nat) (hn : (pc : Int) + o = (n : Int)) (hr : Steps p.tables e below (T.setTop (mkF m n L S)) t) : Steps p.tables e below (T.setTop (mkF m pc L (.ref a :: S))) t :=
  XS.ifnonnullYes X.here hx rfl (pc0 := pc) (pc' := n) rfl (hb hby hd) rfl (by omega) (by omega) hr
theorem o_ifnonnullN (X : Stand p l e R s m args below meth c T locs cells slots) (hx : p.tables.exec = Jvm.exec) (hby : c.code = A) {o : Int} (hd : decode A pc = .ok (.ifnonnull o, 3)) (n : Nat) (hn : pc + 3 = n) (hr : Steps p.tables e below (T.setTop (mkF m n L S)) t) : Steps p.tables e below (T.setTop (mkF m pc L (.null :: S))) t := by
  subst hn; exact XS.ifnonnullNo X.here hx rfl (hb hby hd) rfl hr
theorem o_acmp (X : Stand p l e R s m args below meth c T locs cells slots) (hx : p.tables.exec = Jvm.exec) (hby : c.code = A) {cd : ClassFile.ACond} {x y : Value} {o : Int} (hd : decode A pc = .ok (.if_acmp cd o, 3)) (n : Nat) {same : Bool} (h1 : x.isRef = true) (h2 : y.isRef = true) (hq : decide (x = y) = same) (ho : 0 ≤ (pc : Int) + o) (hp : n = if acV cd same = true then ((pc : Int) + o).toNat else pc + 3) (hr : Steps p.tables e below (T.setTop (mkF m n L S)) t) : Steps p.tables e below (T.setTop (mkF m pc L (y :: x :: S))) t :=
  Jvm.RoadKit.acmp X hx rfl h1 h2 (pc0 := pc) (pc' := n) rfl (hb hby hd) rfl hq ho hp hr
theorem o_ldcInt (X : Stand p l e R s m args below meth c T locs cells slots) (hx : p.tables.exec = Jvm.exec) (hby : c.code = A) {own : String} {i : Nat} {v : Int32} (hown : s.vm.findClass own = some m.cls) (hc : (Cond.constant own i v).before args s = true) (hd : decode A pc = .ok (.ldc i, 2)) (n : Nat) (hn : pc + 2 = n) (hr : Steps p.tables e below (T.setTop (mkF m n L (.int v :: S))) t) : Steps p.tables e below (T.setTop (mkF m pc L S)) t := by
  subst hn; exact X.ldcInt hx hown hc (g := mkF m pc L S) rfl (hb hby hd) t hr
theorem o_ldcwInt (X : Stand p l e R s m args below meth c T locs cells slots) (hx : p.tables.exec = Jvm.exec) (hby : c.code = A) {own : String} {i : Nat} {v : Int32} (hown : s.vm.findClass own = some m.cls) (hc : (Cond.constant own i v).before args s = true) (hd : decode A pc = .ok (.ldc_w i, 3)) (n : Nat) (hn : pc + 3 = n) (hr : Steps p.tables e below (T.setTop (mkF m n L (.int v :: S))) t) : Steps p.tables e below (T.setTop (mkF m pc L S)) t := by
  subst hn; exact X.ldcwInt hx hown hc (g := mkF m pc L S) rfl (hb hby hd) t hr
theorem o_ldc2Long (X : Stand p l e R s m args below meth c T locs cells slots) (hx : p.tables.exec = Jvm.exec) (hby : c.code = A) {own : String} {i : Nat} {v : Int64} (hown : s.vm.findClass own = some m.cls) (hc : (Cond.constantLong own i v).before args s = true) (hd : decode A pc = .ok (.ldc2_w i, 3)) (n : Nat) (hn : pc + 3 = n) (hr : Steps p.tables e below (T.setTop (mkF m n L (.long v :: S))) t) : Steps p.tables e below (T.setTop (mkF m pc L S)) t := by
  subst hn; exact X.ldc2Long hx hown hc (g := mkF m pc L S) rfl (hb hby hd) t hr
theorem o_b0 : narrow .boolean (.int (0 : Int32)) = .int (0 : Int32) := by decide
theorem o_b1 : narrow .boolean (.int (1 : Int32)) = .int (1 : Int32) := by decide
theorem o_b01 {z : Int32} (h : z = 0 ∨ z = 1) : narrow .boolean (.int z) = .int z := by rcases h with rfl | rfl <;> decide
theorem o_nf {z : Int32} (h : z = 0 ∨ z = 1) : narrow .boolean (.int z) = .int z ∧ fits .boolean (.int z) = true := by rcases h with rfl | rfl <;> decide
theorem o_retZ (X : Stand p l e R s m args below meth c T locs cells slots) (hx : p.tables.exec = Jvm.exec) {Ls : Array Slot} {z : Int32} {rest : List Value} (hret : meth.sig.returnType = some .boolean)
    (hd : decode c.code pc = .ok (.ireturn, 1)) (hz : z = 0 ∨ z = 1) {fs : List Frame} (hl : ∀ (f : JFrame) (acts : List Action), f.method = m → f.locked = none → f.entered = [] → (doReturn e (T.setTop f) acts (some (.int z))).1 = T.setFrames fs) :
    Steps p.tables e below (T.setTop (mkF m pc Ls (.int z :: rest))) (T.setFrames fs) :=
  retOut X hx hret (o_b01 hz) (Or.inl ⟨rfl, Or.inr (Or.inl rfl), z, rfl⟩) hd hl
theorem o_retI (X : Stand p l e R s m args below meth c T locs cells slots) (hx : p.tables.exec = Jvm.exec) {Ls : Array Slot} {z : Int32} {rest : List Value} (hret : meth.sig.returnType = some .int)
    (hd : decode c.code pc = .ok (.ireturn, 1)) {fs : List Frame} (hl : ∀ (f : JFrame) (acts : List Action), f.method = m → f.locked = none → f.entered = [] → (doReturn e (T.setTop f) acts (some (.int z))).1 = T.setFrames fs) :
    Steps p.tables e below (T.setTop (mkF m pc Ls (.int z :: rest))) (T.setFrames fs) :=
  retOut X hx hret rfl (Or.inl ⟨rfl, Or.inl rfl, z, rfl⟩) hd hl
theorem o_retB (X : Stand p l e R s m args below meth c T locs cells slots) (hx : p.tables.exec = Jvm.exec) {Ls : Array Slot} {z : Int32} {rest : List Value} (hret : meth.sig.returnType = some .byte)
    (hd : decode c.code pc = .ok (.ireturn, 1)) (hz : narrow .byte (.int z) = .int z) {fs : List Frame} (hl : ∀ (f : JFrame) (acts : List Action), f.method = m → f.locked = none → f.entered = [] → (doReturn e (T.setTop f) acts (some (.int z))).1 = T.setFrames fs) :
    Steps p.tables e below (T.setTop (mkF m pc Ls (.int z :: rest))) (T.setFrames fs) :=
  retOut X hx hret hz (Or.inl ⟨rfl, Or.inr (Or.inr (Or.inl rfl)), z, rfl⟩) hd hl
theorem o_retJ (X : Stand p l e R s m args below meth c T locs cells slots) (hx : p.tables.exec = Jvm.exec) {Ls : Array Slot} {z : Int64} {rest : List Value} (hret : meth.sig.returnType = some .long)
    (hd : decode c.code pc = .ok (.lreturn, 1)) {fs : List Frame} (hl : ∀ (f : JFrame) (acts : List Action), f.method = m → f.locked = none → f.entered = [] → (doReturn e (T.setTop f) acts (some (.long z))).1 = T.setFrames fs) :
    Steps p.tables e below (T.setTop (mkF m pc Ls (.long z :: rest))) (T.setFrames fs) :=
  retOut X hx hret rfl (Or.inr (Or.inl ⟨rfl, rfl, z, rfl⟩)) hd hl
theorem o_retR (X : Stand p l e R s m args below meth c T locs cells slots) (hx : p.tables.exec = Jvm.exec) {Ls : Array Slot} {w : Value} {ty : FieldType} {rest : List Value} (hret : meth.sig.returnType = some ty) (ht : ty.isReference = true)
    (hd : decode c.code pc = .ok (.areturn, 1)) (hw : w.isRef = true) (hn : narrow ty w = w) {fs : List Frame} (hl : ∀ (f : JFrame) (acts : List Action), f.method = m → f.locked = none → f.entered = [] → (doReturn e (T.setTop f) acts (some w)).1 = T.setFrames fs) :
    Steps p.tables e below (T.setTop (mkF m pc Ls (w :: rest))) (T.setFrames fs) :=
  retOut X hx hret hn (Or.inr (Or.inr (Or.inr (Or.inr ⟨rfl, ht, hw⟩)))) hd hl
end Own

theorem own_root {Z : State} {aw : Array Value} {O K : String} {n : Nat} (w : (Cond.noSuperclass O).before aw Z = true) (wk : (Cond.instantiable K n).before aw Z = true) (hn : O ≠ K) : NS Z O K := by
  obtain ⟨c, k, h1, h2, h3, -, -⟩ := Cond.noSuperclass_spec w
  obtain ⟨t, kt, g1, -⟩ := Cond.instantiable_spec wk
  have ne := ids_ne h1 g1 hn
  refine ⟨c, t, h1, g1, fun fuel => ?_⟩
  cases fuel with
  | zero => rfl
  | succ f => simp [Vm.isSubclassAux, ne, h2, h3]
theorem own_no {Z : State} {aw : Array Value} {C S K : String} {n : Nat} (w : (Cond.superclass C S).before aw Z = true) (wk : (Cond.instantiable K n).before aw Z = true) (q : NS Z C K) (hn : C ≠ K) : ∃ c t, Z.vm.findClass C = some c ∧ Z.vm.findClass K = some t ∧ Z.vm.assignable c t = false := by
  obtain ⟨c, t, h0, g0, n3⟩ := q
  obtain ⟨p, k, kp, h1, h2, h3, h4, h5, -, h7⟩ := Cond.superclass_spec h0 w
  obtain ⟨t', kt, g1, g2, g3, g4, -⟩ := Cond.instantiable_spec wk
  cases g0.symm.trans g1
  have ne := ids_ne h0 g0 hn
  have g5 : kt.isInterface = false := (Bool.or_eq_false_iff.mp g4).1
  refine ⟨c, t, h0, g0, ?_⟩
  show Z.vm.assignableAux (255 + 1) c t = false
  simp [Vm.assignableAux, ne, h2, g2, h5, g3, g5, Vm.isSubclass, n3]
theorem own_len {args : Array Value} {Z : State} {t : Term} {a : Addr} {cl : Cell} {z : Int32} (ht : t.eval args Z none [] Z = some (.ref a)) (ha : Z.arrayAt? a = some cl) (h : (Term.length t).eval args Z none [] Z = some (.int z)) : cl.slots.size < 2 ^ 31 ∧ cl.slots.size.toInt32 = z := by
  by_cases q : cl.slots.size < 2 ^ 31
  · rw [len_f ht ha q] at h; cases h; exact ⟨q, rfl⟩
  · simp [Term.eval, ht, ha, q] at h
theorem own_st {args : Array Value} {Z : State} {C n d : String} {v : Value} {idx : List Nat} (h : (Term.static C n d).eval args Z none [] Z = some v) : (Term.static C n d).eval args Z none idx Z = some v := by simpa [Term.eval] using h
theorem own_sub {args : Array Value} {Z : State} {idx : List Nat} {t : Term} {j : Int32} (h : t.eval args Z none idx Z = some (.int j)) : (Term.sub t (.int 128)).eval args Z none idx Z = some (.int (j - 128)) := by simp [Term.eval, h]
theorem d1_0 : decode prog_18_method_1_code 0 = .ok (.aload_n 0, 1) := by decide +kernel
theorem d1_1 : decode prog_18_method_1_code 1 = .ok (.invokespecial 1, 3) := by decide +kernel
theorem d1_4 : decode prog_18_method_1_code 4 = .ok (.aload_n 0, 1) := by decide +kernel
theorem d1_5 : decode prog_18_method_1_code 5 = .ok (.iload_n 1, 1) := by decide +kernel
theorem d1_6 : decode prog_18_method_1_code 6 = .ok (.putfield 7, 3) := by decide +kernel
theorem d1_9 : decode prog_18_method_1_code 9 = .ok (.aload_n 0, 1) := by decide +kernel
theorem d1_10 : decode prog_18_method_1_code 10 = .ok (.aload_n 2, 1) := by decide +kernel
theorem d1_11 : decode prog_18_method_1_code 11 = .ok (.putfield 13, 3) := by decide +kernel
theorem d1_14 : decode prog_18_method_1_code 14 = .ok (.aload_n 0, 1) := by decide +kernel
theorem d1_15 : decode prog_18_method_1_code 15 = .ok (.aload_n 3, 1) := by decide +kernel
theorem d1_16 : decode prog_18_method_1_code 16 = .ok (.putfield 17, 3) := by decide +kernel
theorem d1_19 : decode prog_18_method_1_code 19 = .ok (.return_, 1) := by decide +kernel
theorem pn_1 : plainName "com/example/calchas/calchas/check/Hypothesis$Standing" = true := by first | (simp [plainName, overriddenIn]; done) | decide +kernel
theorem ef_1 (m : MethodId) (x0 : Addr) (x1 : Int32) (x2 : Addr) (x3 : Addr) : entryFrame m #[(.ref x0), (.int x1), (.ref x2), (.ref x3)] 4 = mkF m 0 #[.val (.ref x0), .val (.int x1), .val (.ref x2), .val (.ref x3)] [] := by first | (simp [entryFrame, mkF, argsToLocals, Value.category]; done) | rfl
def Q1 (Z : State) (a0 : Addr) (p1 : Int32) (a2 : Addr) (a3 : Addr) (h0 : Heap) (n0 : Nat) (v : Option Value) (h : Heap) (L : List Loc) : Prop := v = none ∧ Fr n0 L ∧ Keep h0 h [a0] ∧ Fld Z h a0 "com/example/calchas/calchas/check/Hypothesis$Standing" "state" "I" (.int p1) ∧ Fld Z h a0 "com/example/calchas/calchas/check/Hypothesis$Standing" "variables" "[J" (.ref a2) ∧ Fld Z h a0 "com/example/calchas/calchas/check/Hypothesis$Standing" "matters" "[Z" (.ref a3) ∧ True
set_option maxRecDepth 65536 in
set_option maxHeartbeats 40000000 in
theorem rm1 (l : Launch) (Z : State) (aw : Array Value) (hw : ∀ d ∈ tables_1, d.before aw Z = true) (ws : List Jvm.Cond) (a0 : Addr) (p1 : Int32) (a2 : Addr) (a3 : Addr) (h0 : Heap) (n0 : Nat) (Z0 : n0 ≤ h0.size) (r0 : Exa Z h0 a0 "com/example/calchas/calchas/check/Hypothesis$Standing") (r1 : n0 ≤ a0) (r2 : Fld Z h0 a0 "com/example/calchas/calchas/check/Hypothesis$Standing" "state" "I" (.int (0 : Int32))) (r3 : Fld Z h0 a0 "com/example/calchas/calchas/check/Hypothesis$Standing" "variables" "[J" .null) (r4 : Fld Z h0 a0 "com/example/calchas/calchas/check/Hypothesis$Standing" "matters" "[Z" .null) :
    MetFree l (⟨"com/example/calchas/calchas/check/Hypothesis$Standing", "<init>", "(I[J[Z)V"⟩ : MethodName) (head1 (Jvm.Cond.code (⟨"com/example/calchas/calchas/check/Hypothesis$Standing", "<init>", "(I[J[Z)V"⟩ : MethodName) prog_18_method_1_code 4 none :: ws) ({ frames := 1, cells := 0, slots := 0, locals := 12 } : Room)) (fun a U => a = #[(.ref a0), (.int p1), (.ref a2), (.ref a3)] ∧ Z.Warmed39 U.vm ∧ U.heap = h0) (fun _ _ _ _ _ => True) (fun _ U o U' => ∃ v L, o = .returned v ∧ Q1 Z a0 p1 a2 a3 h0 n0 v U'.heap L ∧ FrameEnd U o U' L ({ frames := 1, cells := 0, slots := 0, locals := 12 } : Room).cells ({ frames := 1, cells := 0, slots := 0, locals := 12 } : Room).slots) := by
  refine MetFree.of_bodySF (plainFor_of_name pn_1) hisR ?_
  intro p e s m args below meth c s₁ Bd hml0 hP hK
  obtain ⟨rfl, hZ, hh⟩ := hP
  have hx := Bd.exec
  have hby := Bd.bytes
  have hml : c.maxLocals = 4 := hml0
  have hown : s.vm.findClass "com/example/calchas/calchas/check/Hypothesis$Standing" = some m.cls := findClass_of_methodNamed Bd.named
  have hnm := (name_of_methodNamed Bd.named Bd.method).1
  have X0 : Stand p l e ({ frames := 1, cells := 0, slots := 0, locals := 12 } : Room) s m #[(.ref a0), (.int p1), (.ref a2), (.ref a3)] below meth c s₁ [] 0 0 := Stand.of_body Bd
  have e0 : s₁.heap = h0 := by rw [← hh, Bd.state]; rfl
  have N0 := Fr.nil n0
  obtain ⟨A0, hA0⟩ : ∃ A0, A0 = s₁.setTop (entryFrame m #[(.ref a0), (.int p1), (.ref a2), (.ref a3)] 4) := ⟨_, rfl⟩
  have go0 : Go p e below A0 (s₁.setTop (mkF m 0 #[.val (.ref a0), .val (.int p1), .val (.ref a2), .val (.ref a3)] [])) := fun t k => by rw [hA0]; exact castTop (ef_1 m a0 p1 a2 a3) k
  obtain ⟨T1, X1, e1, st1⟩ := initO X0 hx hZ hown (hw _ (List.mem_of_getElem? (i := 8) rfl)) (hw _ (List.mem_of_getElem? (i := 9) rfl)) (hw _ (List.mem_of_getElem? (i := 10) rfl)) e0 (g := (mkF m 1 #[.val (.ref a0), .val (.int p1), .val (.ref a2), .val (.ref a3)] [(.ref a0)])) rfl (by rw [hml]; rfl) rfl (hb hby d1_1) (by decide) (W := 0) (by show 2 * 0 + _ ≤ _; exact Nat.le_of_eq rfl) (by decide)
  have go1 : Go p e below A0 (T1.setTop (mkF m 6 #[.val (.ref a0), .val (.int p1), .val (.ref a2), .val (.ref a3)] [(.int p1), (.ref a0)])) := by
    intro t k
    refine go0 t ?_
    refine o_aloadN X0 hx hby d1_0 1 rfl rfl rfl ?_
    refine st1 _ ?_
    refine o_aloadN X1 hx hby d1_4 5 rfl rfl rfl ?_
    refine o_iloadN X1 hx hby d1_5 6 rfl rfl ?_
    exact k
  obtain ⟨T2, h2, X2, e2, W2, st2⟩ := putF X1 hx hZ hown (host := "") (Or.inl (hw _ (List.mem_of_getElem? (i := 11) rfl))) Via.refl e1 r2 r0 (Or.inr ⟨(hw _ (List.mem_of_getElem? (i := 12) rfl)), rfl, hnm⟩) (hw _ (List.mem_of_getElem? (i := 3) rfl)) (ty := .int) (by decide) rfl rfl (g := (mkF m 6 #[.val (.ref a0), .val (.int p1), .val (.ref a2), .val (.ref a3)] [(.int p1), (.ref a0)])) rfl rfl (hb hby d1_6)
  have f1 : Exa Z h2 a0 "com/example/calchas/calchas/check/Hypothesis$Standing" := r0.wr W2
  have f2 : Fld Z h2 a0 "com/example/calchas/calchas/check/Hypothesis$Standing" "variables" "[J" .null := r3.other W2 (Or.inr (slot_ne (Or.inr (hw _ (List.mem_of_getElem? (i := 14) rfl))) (Or.inr (hw _ (List.mem_of_getElem? (i := 12) rfl))) (by decide) (t := (.array .long)) (t' := .int) (by decide) (by decide)))
  have f3 : Fld Z h2 a0 "com/example/calchas/calchas/check/Hypothesis$Standing" "matters" "[Z" .null := r4.other W2 (Or.inr (slot_ne (Or.inr (hw _ (List.mem_of_getElem? (i := 16) rfl))) (Or.inr (hw _ (List.mem_of_getElem? (i := 12) rfl))) (by decide) (t := (.array .boolean)) (t' := .int) (by decide) (by decide)))
  have Zp2 : n0 ≤ h2.size := Nat.le_trans Z0 (Keep.of_wr W2).1
  have K2 : Keep h0 h2 [a0] := (Keep.refl h0 [a0]).wr W2 (Or.inl (List.mem_of_getElem? (i := 0) rfl))
  have N2 := Fr.snoc X2 N0 r1
  have f4 : Fld Z h2 a0 "com/example/calchas/calchas/check/Hypothesis$Standing" "state" "I" (.int p1) := r2.same W2
  have go2 : Go p e below A0 (T2.setTop (mkF m 11 #[.val (.ref a0), .val (.int p1), .val (.ref a2), .val (.ref a3)] [(.ref a2), (.ref a0)])) := by
    intro t k
    refine go1 t ?_
    refine st2 _ ?_
    show Steps p.tables e below (T2.setTop (mkF m 9 #[.val (.ref a0), .val (.int p1), .val (.ref a2), .val (.ref a3)] [])) _
    refine o_aloadN X2 hx hby d1_9 10 rfl rfl rfl ?_
    refine o_aloadN X2 hx hby d1_10 11 rfl rfl rfl ?_
    exact k
  obtain ⟨T3, h3, X3, e3, W3, st3⟩ := putF X2 hx hZ hown (host := "") (Or.inl (hw _ (List.mem_of_getElem? (i := 13) rfl))) Via.refl e2 f2 f1 (Or.inr ⟨(hw _ (List.mem_of_getElem? (i := 14) rfl)), rfl, hnm⟩) (hw _ (List.mem_of_getElem? (i := 3) rfl)) (ty := (.array .long)) (by decide) rfl rfl (g := (mkF m 11 #[.val (.ref a0), .val (.int p1), .val (.ref a2), .val (.ref a3)] [(.ref a2), (.ref a0)])) rfl rfl (hb hby d1_11)
  have f5 : Exa Z h3 a0 "com/example/calchas/calchas/check/Hypothesis$Standing" := f1.wr W3
  have f6 : Fld Z h3 a0 "com/example/calchas/calchas/check/Hypothesis$Standing" "matters" "[Z" .null := f3.other W3 (Or.inr (slot_ne (Or.inr (hw _ (List.mem_of_getElem? (i := 16) rfl))) (Or.inr (hw _ (List.mem_of_getElem? (i := 14) rfl))) (by decide) (t := (.array .boolean)) (t' := (.array .long)) (by decide) (by decide)))
  have f7 : Fld Z h3 a0 "com/example/calchas/calchas/check/Hypothesis$Standing" "state" "I" (.int p1) := f4.other W3 (Or.inr (slot_ne (Or.inr (hw _ (List.mem_of_getElem? (i := 12) rfl))) (Or.inr (hw _ (List.mem_of_getElem? (i := 14) rfl))) (by decide) (t := .int) (t' := (.array .long)) (by decide) (by decide)))
  have Zp3 : n0 ≤ h3.size := Nat.le_trans Zp2 (Keep.of_wr W3).1
  have K3 : Keep h0 h3 [a0] := K2.wr W3 (Or.inl (List.mem_of_getElem? (i := 0) rfl))
  have N3 := Fr.snoc X3 N2 r1
  have f8 : Fld Z h3 a0 "com/example/calchas/calchas/check/Hypothesis$Standing" "variables" "[J" (.ref a2) := f2.same W3
  have go3 : Go p e below A0 (T3.setTop (mkF m 16 #[.val (.ref a0), .val (.int p1), .val (.ref a2), .val (.ref a3)] [(.ref a3), (.ref a0)])) := by
    intro t k
    refine go2 t ?_
    refine st3 _ ?_
    show Steps p.tables e below (T3.setTop (mkF m 14 #[.val (.ref a0), .val (.int p1), .val (.ref a2), .val (.ref a3)] [])) _
    refine o_aloadN X3 hx hby d1_14 15 rfl rfl rfl ?_
    refine o_aloadN X3 hx hby d1_15 16 rfl rfl rfl ?_
    exact k
  obtain ⟨T4, h4, X4, e4, W4, st4⟩ := putF X3 hx hZ hown (host := "") (Or.inl (hw _ (List.mem_of_getElem? (i := 15) rfl))) Via.refl e3 f6 f5 (Or.inr ⟨(hw _ (List.mem_of_getElem? (i := 16) rfl)), rfl, hnm⟩) (hw _ (List.mem_of_getElem? (i := 3) rfl)) (ty := (.array .boolean)) (by decide) rfl rfl (g := (mkF m 16 #[.val (.ref a0), .val (.int p1), .val (.ref a2), .val (.ref a3)] [(.ref a3), (.ref a0)])) rfl rfl (hb hby d1_16)
  have f9 : Exa Z h4 a0 "com/example/calchas/calchas/check/Hypothesis$Standing" := f5.wr W4
  have f10 : Fld Z h4 a0 "com/example/calchas/calchas/check/Hypothesis$Standing" "state" "I" (.int p1) := f7.other W4 (Or.inr (slot_ne (Or.inr (hw _ (List.mem_of_getElem? (i := 12) rfl))) (Or.inr (hw _ (List.mem_of_getElem? (i := 16) rfl))) (by decide) (t := .int) (t' := (.array .boolean)) (by decide) (by decide)))
  have f11 : Fld Z h4 a0 "com/example/calchas/calchas/check/Hypothesis$Standing" "variables" "[J" (.ref a2) := f8.other W4 (Or.inr (slot_ne (Or.inr (hw _ (List.mem_of_getElem? (i := 14) rfl))) (Or.inr (hw _ (List.mem_of_getElem? (i := 16) rfl))) (by decide) (t := (.array .long)) (t' := (.array .boolean)) (by decide) (by decide)))
  have Zp4 : n0 ≤ h4.size := Nat.le_trans Zp3 (Keep.of_wr W4).1
  have K4 : Keep h0 h4 [a0] := K3.wr W4 (Or.inl (List.mem_of_getElem? (i := 0) rfl))
  have N4 := Fr.snoc X4 N3 r1
  have f12 : Fld Z h4 a0 "com/example/calchas/calchas/check/Hypothesis$Standing" "matters" "[Z" (.ref a3) := f6.same W4
  have go4 : Go p e below A0 (T4.setTop (mkF m 19 #[.val (.ref a0), .val (.int p1), .val (.ref a2), .val (.ref a3)] [])) := by
    intro t k
    refine go3 t ?_
    refine st4 _ ?_
    show Steps p.tables e below (T4.setTop (mkF m 19 #[.val (.ref a0), .val (.int p1), .val (.ref a2), .val (.ref a3)] [])) _
    exact k
  subst hA0
  obtain ⟨fs, hr, hrun, hended, hW, hsame⟩ := X4.leave (v := none) (fun _ => rfl)
  refine ⟨_, _, go4 _ (X4.returnOut hx Bd.returns (hb hby d1_19) hr), hrun, hended, _, _, rfl, ?_, ⟨_, rfl⟩, hW, hsame.mono (by decide) (by decide)⟩
  show Q1 Z a0 p1 a2 a3 h0 n0 _ T4.heap _
  rw [e4]
  exact ⟨rfl, N4, K4, f10, f11, f12, trivial⟩
theorem d3_0 : decode prog_18_method_5_code 0 = .ok (.aload_n 1, 1) := by decide +kernel
theorem d3_1 : decode prog_18_method_5_code 1 = .ok (.instanceof 8, 3) := by decide +kernel
theorem d3_4 : decode prog_18_method_5_code 4 = .ok (.ifCond .eq 19, 3) := by decide +kernel
theorem d3_7 : decode prog_18_method_5_code 7 = .ok (.aload_n 1, 1) := by decide +kernel
theorem d3_8 : decode prog_18_method_5_code 8 = .ok (.checkcast 8, 3) := by decide +kernel
theorem d3_11 : decode prog_18_method_5_code 11 = .ok (.astore_n 2, 1) := by decide +kernel
theorem d3_12 : decode prog_18_method_5_code 12 = .ok (.aload_n 2, 1) := by decide +kernel
theorem d3_13 : decode prog_18_method_5_code 13 = .ok (.getfield 7, 3) := by decide +kernel
theorem d3_16 : decode prog_18_method_5_code 16 = .ok (.aload_n 0, 1) := by decide +kernel
theorem d3_17 : decode prog_18_method_5_code 17 = .ok (.getfield 7, 3) := by decide +kernel
theorem d3_20 : decode prog_18_method_5_code 20 = .ok (.if_icmp .eq 5, 3) := by decide +kernel
theorem d3_23 : decode prog_18_method_5_code 23 = .ok (.iconst 0, 1) := by decide +kernel
theorem d3_24 : decode prog_18_method_5_code 24 = .ok (.ireturn, 1) := by decide +kernel
theorem d3_25 : decode prog_18_method_5_code 25 = .ok (.iconst 0, 1) := by decide +kernel
theorem d3_26 : decode prog_18_method_5_code 26 = .ok (.istore_n 3, 1) := by decide +kernel
theorem d3_27 : decode prog_18_method_5_code 27 = .ok (.iload_n 3, 1) := by decide +kernel
theorem d3_28 : decode prog_18_method_5_code 28 = .ok (.aload_n 0, 1) := by decide +kernel
theorem d3_29 : decode prog_18_method_5_code 29 = .ok (.getfield 13, 3) := by decide +kernel
theorem d3_32 : decode prog_18_method_5_code 32 = .ok (.arraylength, 1) := by decide +kernel
theorem d3_33 : decode prog_18_method_5_code 33 = .ok (.if_icmp .ge 36, 3) := by decide +kernel
theorem d3_36 : decode prog_18_method_5_code 36 = .ok (.aload_n 0, 1) := by decide +kernel
theorem d3_37 : decode prog_18_method_5_code 37 = .ok (.getfield 17, 3) := by decide +kernel
theorem d3_40 : decode prog_18_method_5_code 40 = .ok (.iload_n 3, 1) := by decide +kernel
theorem d3_41 : decode prog_18_method_5_code 41 = .ok (.baload, 1) := by decide +kernel
theorem d3_42 : decode prog_18_method_5_code 42 = .ok (.ifCond .eq 21, 3) := by decide +kernel
theorem d3_45 : decode prog_18_method_5_code 45 = .ok (.aload_n 2, 1) := by decide +kernel
theorem d3_46 : decode prog_18_method_5_code 46 = .ok (.getfield 13, 3) := by decide +kernel
theorem d3_49 : decode prog_18_method_5_code 49 = .ok (.iload_n 3, 1) := by decide +kernel
theorem d3_50 : decode prog_18_method_5_code 50 = .ok (.laload, 1) := by decide +kernel
theorem d3_51 : decode prog_18_method_5_code 51 = .ok (.aload_n 0, 1) := by decide +kernel
theorem d3_52 : decode prog_18_method_5_code 52 = .ok (.getfield 13, 3) := by decide +kernel
theorem d3_55 : decode prog_18_method_5_code 55 = .ok (.iload_n 3, 1) := by decide +kernel
theorem d3_56 : decode prog_18_method_5_code 56 = .ok (.laload, 1) := by decide +kernel
theorem d3_57 : decode prog_18_method_5_code 57 = .ok (.lcmp, 1) := by decide +kernel
theorem d3_58 : decode prog_18_method_5_code 58 = .ok (.ifCond .eq 5, 3) := by decide +kernel
theorem d3_61 : decode prog_18_method_5_code 61 = .ok (.iconst 0, 1) := by decide +kernel
theorem d3_62 : decode prog_18_method_5_code 62 = .ok (.ireturn, 1) := by decide +kernel
theorem d3_63 : decode prog_18_method_5_code 63 = .ok (.iinc 3 1, 3) := by decide +kernel
theorem d3_66 : decode prog_18_method_5_code 66 = .ok (.goto (-39), 3) := by decide +kernel
theorem d3_69 : decode prog_18_method_5_code 69 = .ok (.iconst 1, 1) := by decide +kernel
theorem d3_70 : decode prog_18_method_5_code 70 = .ok (.ireturn, 1) := by decide +kernel
theorem ef_3s (m : MethodId) (x0 : Addr) (x1 : Addr) : entryFrame m #[(.ref x0), (.ref x1)] 4 = mkF m 0 #[.val (.ref x0), .val (.ref x1), .unset, .unset] [] := by first | (simp [entryFrame, mkF, argsToLocals, Value.category]; done) | rfl
def Feq (u0 : Int32) (u1 : Int32) (m0 : Int32) (m1 : Int32) (x0 : Int64) (x1 : Int64) (w0 : Int64) (w1 : Int64) : Int32 := let v7 : Int32 := (if u1 = u0 then (if m0 = (0 : Int32) then (if m1 = (0 : Int32) then (1 : Int32) else (if w1 = x1 then (1 : Int32) else (0 : Int32))) else (if w0 = x0 then (if m1 = (0 : Int32) then (1 : Int32) else (if w1 = x1 then (1 : Int32) else (0 : Int32))) else (0 : Int32))) else (0 : Int32)); v7
def Q3s (Z : State) (a0 : Addr) (a1 : Addr) (u0 : Int32) (u1 : Int32) (m0 : Int32) (m1 : Int32) (x0 : Int64) (x1 : Int64) (w0 : Int64) (w1 : Int64) (d0 : Addr) (d1 : Addr) (em0 : Addr) (kd0 : ClassId) (kd1 : ClassId) (kem0 : ClassId) (h0 : Heap) (n0 : Nat) (v : Option Value) (h : Heap) (L : List Loc) : Prop := v = some (.int (Feq u0 u1 m0 m1 x0 x1 w0 w1)) ∧ Fr n0 L ∧ h = h0
set_option maxRecDepth 65536 in
set_option maxHeartbeats 40000000 in
theorem rm3s (l : Launch) (Z : State) (aw : Array Value) (hw : ∀ d ∈ tables_1, d.before aw Z = true) (ws : List Jvm.Cond) (a0 : Addr) (a1 : Addr) (u0 : Int32) (u1 : Int32) (m0 : Int32) (m1 : Int32) (x0 : Int64) (x1 : Int64) (w0 : Int64) (w1 : Int64) (d0 : Addr) (d1 : Addr) (em0 : Addr) (kd0 : ClassId) (kd1 : ClassId) (kem0 : ClassId) (h0 : Heap) (n0 : Nat) (Z0 : n0 ≤ h0.size) (r0 : Exa Z h0 a1 "com/example/calchas/calchas/check/Hypothesis$Standing") (r1 : Fld Z h0 a1 "com/example/calchas/calchas/check/Hypothesis$Standing" "state" "I" (.int u1)) (r2 : Fld Z h0 a1 "com/example/calchas/calchas/check/Hypothesis$Standing" "variables" "[J" (.ref d1)) (r3 : Arv Z h0 d1 kd1 .long (2 : Int32) [(.long w0), (.long w1)] (.long (0 : Int64))) (r4 : Fld Z h0 a0 "com/example/calchas/calchas/check/Hypothesis$Standing" "state" "I" (.int u0)) (r5 : Fld Z h0 a0 "com/example/calchas/calchas/check/Hypothesis$Standing" "variables" "[J" (.ref d0)) (r6 : Arv Z h0 d0 kd0 .long (2 : Int32) [(.long x0), (.long x1)] (.long (0 : Int64))) (r7 : Fld Z h0 a0 "com/example/calchas/calchas/check/Hypothesis$Standing" "matters" "[Z" (.ref em0)) (r8 : Arv Z h0 em0 kem0 .boolean (2 : Int32) [(.int m0), (.int m1)] (.int (0 : Int32))) :
    MetFree l (⟨"com/example/calchas/calchas/check/Hypothesis$Standing", "equals", "(Ljava/lang/Object;)Z"⟩ : MethodName) (head1 (Jvm.Cond.code (⟨"com/example/calchas/calchas/check/Hypothesis$Standing", "equals", "(Ljava/lang/Object;)Z"⟩ : MethodName) prog_18_method_5_code 4 (some .boolean) :: ws) ({ frames := 0, cells := 0, slots := 0, locals := 0 } : Room)) (fun a U => a = #[(.ref a0), (.ref a1)] ∧ Z.Warmed39 U.vm ∧ U.heap = h0) (fun _ _ _ _ _ => True) (fun _ U o U' => ∃ v L, o = .returned v ∧ Q3s Z a0 a1 u0 u1 m0 m1 x0 x1 w0 w1 d0 d1 em0 kd0 kd1 kem0 h0 n0 v U'.heap L ∧ FrameEnd U o U' L ({ frames := 0, cells := 0, slots := 0, locals := 0 } : Room).cells ({ frames := 0, cells := 0, slots := 0, locals := 0 } : Room).slots) := by
  refine MetFree.of_bodySF (plainFor_of_name pn_1) hisR ?_
  intro p e s m args below meth c s₁ Bd hml0 hP hK
  obtain ⟨rfl, hZ, hh⟩ := hP
  have hx := Bd.exec
  have hby := Bd.bytes
  have hml : c.maxLocals = 4 := hml0
  have hown : s.vm.findClass "com/example/calchas/calchas/check/Hypothesis$Standing" = some m.cls := findClass_of_methodNamed Bd.named
  have hnm := (name_of_methodNamed Bd.named Bd.method).1
  have X0 : Stand p l e ({ frames := 0, cells := 0, slots := 0, locals := 0 } : Room) s m #[(.ref a0), (.ref a1)] below meth c s₁ [] 0 0 := Stand.of_body Bd
  have e0 : s₁.heap = h0 := by rw [← hh, Bd.state]; rfl
  have N0 := Fr.nil n0
  obtain ⟨A0, hA0⟩ : ∃ A0, A0 = s₁.setTop (entryFrame m #[(.ref a0), (.ref a1)] 4) := ⟨_, rfl⟩
  have go0 : Go p e below A0 (s₁.setTop (mkF m 0 #[.val (.ref a0), .val (.ref a1), .unset, .unset] [])) := fun t k => by rw [hA0]; exact castTop (ef_3s m a0 a1) k
  obtain ⟨T1, X1, e1, st1⟩ := instY X0 hx hZ hown (hw _ (List.mem_of_getElem? (i := 22) rfl)) e0 (Ins.self r0) (g := (mkF m 1 #[.val (.ref a0), .val (.ref a1), .unset, .unset] [(.ref a1)])) rfl rfl (hb hby d3_1)
  obtain ⟨T2, X2, e2, st2⟩ := castY X1 hx hZ hown (hw _ (List.mem_of_getElem? (i := 22) rfl)) e1 (Ins.self r0) (g := (mkF m 8 #[.val (.ref a0), .val (.ref a1), .unset, .unset] [(.ref a1)])) rfl rfl (hb hby d3_8)
  obtain ⟨T3, X3, e3, st3⟩ := getF X2 hx hZ hown (host := "") (Or.inl (hw _ (List.mem_of_getElem? (i := 11) rfl))) Via.refl e2 r1 (g := (mkF m 13 #[.val (.ref a0), .val (.ref a1), .val (.ref a1), .unset] [(.ref a1)])) rfl rfl (hb hby d3_13)
  obtain ⟨T4, X4, e4, st4⟩ := getF X3 hx hZ hown (host := "") (Or.inl (hw _ (List.mem_of_getElem? (i := 11) rfl))) Via.refl e3 r4 (g := (mkF m 17 #[.val (.ref a0), .val (.ref a1), .val (.ref a1), .unset] [(.ref a0), (.int u1)])) rfl rfl (hb hby d3_17)
  have go1 : Go p e below A0 (T4.setTop (mkF m 20 #[.val (.ref a0), .val (.ref a1), .val (.ref a1), .unset] [(.int u0), (.int u1)])) := by
    intro t k
    refine go0 t ?_
    refine o_aloadN X0 hx hby d3_0 1 rfl rfl rfl ?_
    refine st1 _ ?_
    show Steps p.tables e below (T1.setTop (mkF m 4 #[.val (.ref a0), .val (.ref a1), .unset, .unset] [(.int (1 : Int32))])) _
    refine o_ifN X1 hx hby d3_4 7 rfl (feq (by decide)).1 ?_
    refine o_aloadN X1 hx hby d3_7 8 rfl rfl rfl ?_
    refine st2 _ ?_
    show Steps p.tables e below (T2.setTop (mkF m 11 #[.val (.ref a0), .val (.ref a1), .unset, .unset] [(.ref a1)])) _
    refine o_astoreN X2 hx hby d3_11 12 rfl rfl (l' := #[.val (.ref a0), .val (.ref a1), .val (.ref a1), .unset]) rfl ?_
    refine o_aloadN X2 hx hby d3_12 13 rfl rfl rfl ?_
    refine st3 _ ?_
    show Steps p.tables e below (T3.setTop (mkF m 16 #[.val (.ref a0), .val (.ref a1), .val (.ref a1), .unset] [(.int u1)])) _
    refine o_aloadN X3 hx hby d3_16 17 rfl rfl rfl ?_
    refine st4 _ ?_
    show Steps p.tables e below (T4.setTop (mkF m 20 #[.val (.ref a0), .val (.ref a1), .val (.ref a1), .unset] [(.int u0), (.int u1)])) _
    exact k
  obtain ⟨T56, l56, v7, pcr57, Lr57, Sr57, X56, N56, e56, hv7, hd57, go22⟩ : ∃ (T56 : State) (l56 : List Loc) (v7 : Int32) (pcr57 : Nat) (Lr57 : Array Slot) (Sr57 : List Value), Stand p l e ({ frames := 0, cells := 0, slots := 0, locals := 0 } : Room) s m #[(.ref a0), (.ref a1)] below meth c T56 l56 0 0 ∧ Fr n0 l56 ∧ T56.heap = h0 ∧ v7 = (if u1 = u0 then (if m0 = (0 : Int32) then (if m1 = (0 : Int32) then (1 : Int32) else (if w1 = x1 then (1 : Int32) else (0 : Int32))) else (if w0 = x0 then (if m1 = (0 : Int32) then (1 : Int32) else (if w1 = x1 then (1 : Int32) else (0 : Int32))) else (0 : Int32))) else (0 : Int32)) ∧ decode c.code pcr57 = .ok (.ireturn, 1) ∧ Go p e below A0 (T56.setTop (mkF m pcr57 Lr57 ((.int v7) :: Sr57))) := by
    by_cases hc20_5 : u1 = u0
    · obtain ⟨T6, X6, e6, st6⟩ := getF X4 hx hZ hown (host := "") (Or.inl (hw _ (List.mem_of_getElem? (i := 13) rfl))) Via.refl e4 r5 (g := (mkF m 29 #[.val (.ref a0), .val (.ref a1), .val (.ref a1), .val (.int (0 : Int32))] [(.ref a0), (.int (0 : Int32))])) rfl rfl (hb hby d3_29)
      obtain ⟨cl7, Ar7, q7, S7, M7, H7, G7⟩ := id r6
      obtain ⟨T8, X8, e8, st8⟩ := getF X6 hx hZ hown (host := "") (Or.inl (hw _ (List.mem_of_getElem? (i := 15) rfl))) Via.refl e6 r7 (g := (mkF m 37 #[.val (.ref a0), .val (.ref a1), .val (.ref a1), .val (.int (0 : Int32))] [(.ref a0)])) rfl rfl (hb hby d3_37)
      obtain ⟨cl9, Ar9, q9, S9, M9, H9, G9⟩ := id r8
      have hin9 : ¬ ((0 : Int32) < 0 ∨ cl9.slots.size ≤ ((0 : Int32)).toNatClampNeg) := inb_of S9 ⟨by decide, by decide⟩
      have hat9 : cl9.slots[((0 : Int32)).toNatClampNeg]? = some (.int m0) := H9.at hin9 rfl
      have go2 : Go p e below A0 (T8.setTop (mkF m 42 #[.val (.ref a0), .val (.ref a1), .val (.ref a1), .val (.int (0 : Int32))] [(.int m0)])) := by
        intro t k
        refine go1 t ?_
        refine o_icmpY X4 hx hby d3_20 25 rfl (teq hc20_5).1 ?_
        refine o_iconst X4 hx hby d3_25 26 rfl (v := (0 : Int32)) rfl ?_
        refine o_istoreN X4 hx hby d3_26 27 rfl (l' := #[.val (.ref a0), .val (.ref a1), .val (.ref a1), .val (.int (0 : Int32))]) rfl ?_
        refine o_iloadN X4 hx hby d3_27 28 rfl rfl ?_
        refine o_aloadN X4 hx hby d3_28 29 rfl rfl rfl ?_
        refine st6 _ ?_
        show Steps p.tables e below (T6.setTop (mkF m 32 #[.val (.ref a0), .val (.ref a1), .val (.ref a1), .val (.int (0 : Int32))] [(.ref d0), (.int (0 : Int32))])) _
        refine X6.arraylength hx (by rw [e6]; exact Ar7.1) (State.isArrayOf_alike hZ.alike Ar7.2.1) (g := (mkF m 32 #[.val (.ref a0), .val (.ref a1), .val (.ref a1), .val (.int (0 : Int32))] [(.ref d0), (.int (0 : Int32))])) rfl rfl (hb hby d3_32) _ ?_
        rw [len_of S7 M7]
        show Steps p.tables e below (T6.setTop (mkF m 33 #[.val (.ref a0), .val (.ref a1), .val (.ref a1), .val (.int (0 : Int32))] [(.int (2 : Int32)), (.int (0 : Int32))])) _
        refine o_icmpN X6 hx hby d3_33 36 rfl (tlt (by decide)).2.1 ?_
        refine o_aloadN X6 hx hby d3_36 37 rfl rfl rfl ?_
        refine st8 _ ?_
        show Steps p.tables e below (T8.setTop (mkF m 40 #[.val (.ref a0), .val (.ref a1), .val (.ref a1), .val (.int (0 : Int32))] [(.ref em0)])) _
        refine o_iloadN X8 hx hby d3_40 41 rfl rfl ?_
        refine X8.baloadBooleans hx (j := (0 : Int32)) (v := (.int m0)) (by rw [e8]; exact Ar9.1) (State.isArrayOf_alike hZ.alike Ar9.2.1) Ar9.2.2 hin9 hat9 (g := (mkF m 41 #[.val (.ref a0), .val (.ref a1), .val (.ref a1), .val (.int (0 : Int32))] [(.int (0 : Int32)), (.ref em0)])) rfl rfl (hb hby d3_41) _ ?_
        show Steps p.tables e below (T8.setTop (mkF m 42 #[.val (.ref a0), .val (.ref a1), .val (.ref a1), .val (.int (0 : Int32))] [(.int m0)])) _
        exact k
      obtain ⟨T54, l54, v6, pcr55, Lr55, Sr55, X54, N54, e54, hv6, hd55, go20⟩ : ∃ (T54 : State) (l54 : List Loc) (v6 : Int32) (pcr55 : Nat) (Lr55 : Array Slot) (Sr55 : List Value), Stand p l e ({ frames := 0, cells := 0, slots := 0, locals := 0 } : Room) s m #[(.ref a0), (.ref a1)] below meth c T54 l54 0 0 ∧ Fr n0 l54 ∧ T54.heap = h0 ∧ v6 = (if m0 = (0 : Int32) then (if m1 = (0 : Int32) then (1 : Int32) else (if w1 = x1 then (1 : Int32) else (0 : Int32))) else (if w0 = x0 then (if m1 = (0 : Int32) then (1 : Int32) else (if w1 = x1 then (1 : Int32) else (0 : Int32))) else (0 : Int32))) ∧ decode c.code pcr55 = .ok (.ireturn, 1) ∧ Go p e below A0 (T54.setTop (mkF m pcr55 Lr55 ((.int v6) :: Sr55))) := by
        by_cases hc42_10 : m0 = (0 : Int32)
        · obtain ⟨T11, X11, e11, st11⟩ := getF X8 hx hZ hown (host := "") (Or.inl (hw _ (List.mem_of_getElem? (i := 13) rfl))) Via.refl e8 r5 (g := (mkF m 29 #[.val (.ref a0), .val (.ref a1), .val (.ref a1), .val (.int (1 : Int32))] [(.ref a0), (.int (1 : Int32))])) rfl rfl (hb hby d3_29)
          obtain ⟨cl12, Ar12, q12, S12, M12, H12, G12⟩ := id r6
          obtain ⟨T13, X13, e13, st13⟩ := getF X11 hx hZ hown (host := "") (Or.inl (hw _ (List.mem_of_getElem? (i := 15) rfl))) Via.refl e11 r7 (g := (mkF m 37 #[.val (.ref a0), .val (.ref a1), .val (.ref a1), .val (.int (1 : Int32))] [(.ref a0)])) rfl rfl (hb hby d3_37)
          obtain ⟨cl14, Ar14, q14, S14, M14, H14, G14⟩ := id r8
          have hin14 : ¬ ((1 : Int32) < 0 ∨ cl14.slots.size ≤ ((1 : Int32)).toNatClampNeg) := inb_of S14 ⟨by decide, by decide⟩
          have hat14 : cl14.slots[((1 : Int32)).toNatClampNeg]? = some (.int m1) := H14.at hin14 rfl
          have go3 : Go p e below A0 (T13.setTop (mkF m 42 #[.val (.ref a0), .val (.ref a1), .val (.ref a1), .val (.int (1 : Int32))] [(.int m1)])) := by
            intro t k
            refine go2 t ?_
            refine o_ifY X8 hx hby d3_42 63 rfl (teq hc42_10).1 ?_
            refine o_iinc X8 hx hby d3_63 66 rfl rfl (i := (1 : Int32)) rfl (l' := #[.val (.ref a0), .val (.ref a1), .val (.ref a1), .val (.int (1 : Int32))]) rfl ?_
            refine o_goto X8 hx hby d3_66 27 rfl ?_
            refine o_iloadN X8 hx hby d3_27 28 rfl rfl ?_
            refine o_aloadN X8 hx hby d3_28 29 rfl rfl rfl ?_
            refine st11 _ ?_
            show Steps p.tables e below (T11.setTop (mkF m 32 #[.val (.ref a0), .val (.ref a1), .val (.ref a1), .val (.int (1 : Int32))] [(.ref d0), (.int (1 : Int32))])) _
            refine X11.arraylength hx (by rw [e11]; exact Ar12.1) (State.isArrayOf_alike hZ.alike Ar12.2.1) (g := (mkF m 32 #[.val (.ref a0), .val (.ref a1), .val (.ref a1), .val (.int (1 : Int32))] [(.ref d0), (.int (1 : Int32))])) rfl rfl (hb hby d3_32) _ ?_
            rw [len_of S12 M12]
            show Steps p.tables e below (T11.setTop (mkF m 33 #[.val (.ref a0), .val (.ref a1), .val (.ref a1), .val (.int (1 : Int32))] [(.int (2 : Int32)), (.int (1 : Int32))])) _
            refine o_icmpN X11 hx hby d3_33 36 rfl (tlt (by decide)).2.1 ?_
            refine o_aloadN X11 hx hby d3_36 37 rfl rfl rfl ?_
            refine st13 _ ?_
            show Steps p.tables e below (T13.setTop (mkF m 40 #[.val (.ref a0), .val (.ref a1), .val (.ref a1), .val (.int (1 : Int32))] [(.ref em0)])) _
            refine o_iloadN X13 hx hby d3_40 41 rfl rfl ?_
            refine X13.baloadBooleans hx (j := (1 : Int32)) (v := (.int m1)) (by rw [e13]; exact Ar14.1) (State.isArrayOf_alike hZ.alike Ar14.2.1) Ar14.2.2 hin14 hat14 (g := (mkF m 41 #[.val (.ref a0), .val (.ref a1), .val (.ref a1), .val (.int (1 : Int32))] [(.int (1 : Int32)), (.ref em0)])) rfl rfl (hb hby d3_41) _ ?_
            show Steps p.tables e below (T13.setTop (mkF m 42 #[.val (.ref a0), .val (.ref a1), .val (.ref a1), .val (.int (1 : Int32))] [(.int m1)])) _
            exact k
          obtain ⟨T27, l27, v2, pcr28, Lr28, Sr28, X27, N27, e27, hv2, hd28, go9⟩ : ∃ (T27 : State) (l27 : List Loc) (v2 : Int32) (pcr28 : Nat) (Lr28 : Array Slot) (Sr28 : List Value), Stand p l e ({ frames := 0, cells := 0, slots := 0, locals := 0 } : Room) s m #[(.ref a0), (.ref a1)] below meth c T27 l27 0 0 ∧ Fr n0 l27 ∧ T27.heap = h0 ∧ v2 = (if m1 = (0 : Int32) then (1 : Int32) else (if w1 = x1 then (1 : Int32) else (0 : Int32))) ∧ decode c.code pcr28 = .ok (.ireturn, 1) ∧ Go p e below A0 (T27.setTop (mkF m pcr28 Lr28 ((.int v2) :: Sr28))) := by
            by_cases hc42_15 : m1 = (0 : Int32)
            · obtain ⟨T16, X16, e16, st16⟩ := getF X13 hx hZ hown (host := "") (Or.inl (hw _ (List.mem_of_getElem? (i := 13) rfl))) Via.refl e13 r5 (g := (mkF m 29 #[.val (.ref a0), .val (.ref a1), .val (.ref a1), .val (.int (2 : Int32))] [(.ref a0), (.int (2 : Int32))])) rfl rfl (hb hby d3_29)
              obtain ⟨cl17, Ar17, q17, S17, M17, H17, G17⟩ := id r6
              have go4 : Go p e below A0 (T16.setTop (mkF m 70 #[.val (.ref a0), .val (.ref a1), .val (.ref a1), .val (.int (2 : Int32))] [(.int (1 : Int32))])) := by
                intro t k
                refine go3 t ?_
                refine o_ifY X13 hx hby d3_42 63 rfl (teq hc42_15).1 ?_
                refine o_iinc X13 hx hby d3_63 66 rfl rfl (i := (1 : Int32)) rfl (l' := #[.val (.ref a0), .val (.ref a1), .val (.ref a1), .val (.int (2 : Int32))]) rfl ?_
                refine o_goto X13 hx hby d3_66 27 rfl ?_
                refine o_iloadN X13 hx hby d3_27 28 rfl rfl ?_
                refine o_aloadN X13 hx hby d3_28 29 rfl rfl rfl ?_
                refine st16 _ ?_
                show Steps p.tables e below (T16.setTop (mkF m 32 #[.val (.ref a0), .val (.ref a1), .val (.ref a1), .val (.int (2 : Int32))] [(.ref d0), (.int (2 : Int32))])) _
                refine X16.arraylength hx (by rw [e16]; exact Ar17.1) (State.isArrayOf_alike hZ.alike Ar17.2.1) (g := (mkF m 32 #[.val (.ref a0), .val (.ref a1), .val (.ref a1), .val (.int (2 : Int32))] [(.ref d0), (.int (2 : Int32))])) rfl rfl (hb hby d3_32) _ ?_
                rw [len_of S17 M17]
                show Steps p.tables e below (T16.setTop (mkF m 33 #[.val (.ref a0), .val (.ref a1), .val (.ref a1), .val (.int (2 : Int32))] [(.int (2 : Int32)), (.int (2 : Int32))])) _
                refine o_icmpY X16 hx hby d3_33 69 rfl (flt (by decide)).2.1 ?_
                refine o_iconst X16 hx hby d3_69 70 rfl (v := (1 : Int32)) rfl ?_
                exact k
              exact ⟨T16, _, (1 : Int32), _, _, _, X16, N0, e16, (if_pos hc42_15).symm, (hb hby d3_70), go4⟩
            · obtain ⟨T18, X18, e18, st18⟩ := getF X13 hx hZ hown (host := "") (Or.inl (hw _ (List.mem_of_getElem? (i := 13) rfl))) Via.refl e13 r2 (g := (mkF m 46 #[.val (.ref a0), .val (.ref a1), .val (.ref a1), .val (.int (1 : Int32))] [(.ref a1)])) rfl rfl (hb hby d3_46)
              obtain ⟨cl19, Ar19, q19, S19, M19, H19, G19⟩ := id r3
              have hin19 : ¬ ((1 : Int32) < 0 ∨ cl19.slots.size ≤ ((1 : Int32)).toNatClampNeg) := inb_of S19 ⟨by decide, by decide⟩
              have hat19 : cl19.slots[((1 : Int32)).toNatClampNeg]? = some (.long w1) := H19.at hin19 rfl
              obtain ⟨T20, X20, e20, st20⟩ := getF X18 hx hZ hown (host := "") (Or.inl (hw _ (List.mem_of_getElem? (i := 13) rfl))) Via.refl e18 r5 (g := (mkF m 52 #[.val (.ref a0), .val (.ref a1), .val (.ref a1), .val (.int (1 : Int32))] [(.ref a0), (.long w1)])) rfl rfl (hb hby d3_52)
              obtain ⟨cl21, Ar21, q21, S21, M21, H21, G21⟩ := id r6
              have hin21 : ¬ ((1 : Int32) < 0 ∨ cl21.slots.size ≤ ((1 : Int32)).toNatClampNeg) := inb_of S21 ⟨by decide, by decide⟩
              have hat21 : cl21.slots[((1 : Int32)).toNatClampNeg]? = some (.long x1) := H21.at hin21 rfl
              have go5 : Go p e below A0 (T20.setTop (mkF m 58 #[.val (.ref a0), .val (.ref a1), .val (.ref a1), .val (.int (1 : Int32))] [(.int (lcmpW w1 x1))])) := by
                intro t k
                refine go3 t ?_
                refine o_ifN X13 hx hby d3_42 45 rfl (feq hc42_15).1 ?_
                refine o_aloadN X13 hx hby d3_45 46 rfl rfl rfl ?_
                refine st18 _ ?_
                show Steps p.tables e below (T18.setTop (mkF m 49 #[.val (.ref a0), .val (.ref a1), .val (.ref a1), .val (.int (1 : Int32))] [(.ref d1)])) _
                refine o_iloadN X18 hx hby d3_49 50 rfl rfl ?_
                refine X18.laload hx (j := (1 : Int32)) (v := (.long w1)) (by rw [e18]; exact Ar19.1) (State.isArrayOf_alike hZ.alike Ar19.2.1) Ar19.2.2 hin19 hat19 (g := (mkF m 50 #[.val (.ref a0), .val (.ref a1), .val (.ref a1), .val (.int (1 : Int32))] [(.int (1 : Int32)), (.ref d1)])) rfl rfl (hb hby d3_50) _ ?_
                show Steps p.tables e below (T18.setTop (mkF m 51 #[.val (.ref a0), .val (.ref a1), .val (.ref a1), .val (.int (1 : Int32))] [(.long w1)])) _
                refine o_aloadN X18 hx hby d3_51 52 rfl rfl rfl ?_
                refine st20 _ ?_
                show Steps p.tables e below (T20.setTop (mkF m 55 #[.val (.ref a0), .val (.ref a1), .val (.ref a1), .val (.int (1 : Int32))] [(.ref d0), (.long w1)])) _
                refine o_iloadN X20 hx hby d3_55 56 rfl rfl ?_
                refine X20.laload hx (j := (1 : Int32)) (v := (.long x1)) (by rw [e20]; exact Ar21.1) (State.isArrayOf_alike hZ.alike Ar21.2.1) Ar21.2.2 hin21 hat21 (g := (mkF m 56 #[.val (.ref a0), .val (.ref a1), .val (.ref a1), .val (.int (1 : Int32))] [(.int (1 : Int32)), (.ref d0), (.long w1)])) rfl rfl (hb hby d3_56) _ ?_
                show Steps p.tables e below (T20.setTop (mkF m 57 #[.val (.ref a0), .val (.ref a1), .val (.ref a1), .val (.int (1 : Int32))] [(.long x1), (.long w1)])) _
                refine o_lcmp X20 hx hby d3_57 58 rfl ?_
                exact k
              obtain ⟨T25, l25, v1, pcr26, Lr26, Sr26, X25, N25, e25, hv1, hd26, go8⟩ : ∃ (T25 : State) (l25 : List Loc) (v1 : Int32) (pcr26 : Nat) (Lr26 : Array Slot) (Sr26 : List Value), Stand p l e ({ frames := 0, cells := 0, slots := 0, locals := 0 } : Room) s m #[(.ref a0), (.ref a1)] below meth c T25 l25 0 0 ∧ Fr n0 l25 ∧ T25.heap = h0 ∧ v1 = (if w1 = x1 then (1 : Int32) else (0 : Int32)) ∧ decode c.code pcr26 = .ok (.ireturn, 1) ∧ Go p e below A0 (T25.setTop (mkF m pcr26 Lr26 ((.int v1) :: Sr26))) := by
                by_cases hc58_22 : w1 = x1
                · obtain ⟨T23, X23, e23, st23⟩ := getF X20 hx hZ hown (host := "") (Or.inl (hw _ (List.mem_of_getElem? (i := 13) rfl))) Via.refl e20 r5 (g := (mkF m 29 #[.val (.ref a0), .val (.ref a1), .val (.ref a1), .val (.int (2 : Int32))] [(.ref a0), (.int (2 : Int32))])) rfl rfl (hb hby d3_29)
                  obtain ⟨cl24, Ar24, q24, S24, M24, H24, G24⟩ := id r6
                  have go6 : Go p e below A0 (T23.setTop (mkF m 70 #[.val (.ref a0), .val (.ref a1), .val (.ref a1), .val (.int (2 : Int32))] [(.int (1 : Int32))])) := by
                    intro t k
                    refine go5 t ?_
                    refine o_ifY X20 hx hby d3_58 63 rfl (teq ((lw_eq w1 x1).mpr hc58_22)).1 ?_
                    refine o_iinc X20 hx hby d3_63 66 rfl rfl (i := (1 : Int32)) rfl (l' := #[.val (.ref a0), .val (.ref a1), .val (.ref a1), .val (.int (2 : Int32))]) rfl ?_
                    refine o_goto X20 hx hby d3_66 27 rfl ?_
                    refine o_iloadN X20 hx hby d3_27 28 rfl rfl ?_
                    refine o_aloadN X20 hx hby d3_28 29 rfl rfl rfl ?_
                    refine st23 _ ?_
                    show Steps p.tables e below (T23.setTop (mkF m 32 #[.val (.ref a0), .val (.ref a1), .val (.ref a1), .val (.int (2 : Int32))] [(.ref d0), (.int (2 : Int32))])) _
                    refine X23.arraylength hx (by rw [e23]; exact Ar24.1) (State.isArrayOf_alike hZ.alike Ar24.2.1) (g := (mkF m 32 #[.val (.ref a0), .val (.ref a1), .val (.ref a1), .val (.int (2 : Int32))] [(.ref d0), (.int (2 : Int32))])) rfl rfl (hb hby d3_32) _ ?_
                    rw [len_of S24 M24]
                    show Steps p.tables e below (T23.setTop (mkF m 33 #[.val (.ref a0), .val (.ref a1), .val (.ref a1), .val (.int (2 : Int32))] [(.int (2 : Int32)), (.int (2 : Int32))])) _
                    refine o_icmpY X23 hx hby d3_33 69 rfl (flt (by decide)).2.1 ?_
                    refine o_iconst X23 hx hby d3_69 70 rfl (v := (1 : Int32)) rfl ?_
                    exact k
                  exact ⟨T23, _, (1 : Int32), _, _, _, X23, N0, e23, (if_pos hc58_22).symm, (hb hby d3_70), go6⟩
                · have go7 : Go p e below A0 (T20.setTop (mkF m 62 #[.val (.ref a0), .val (.ref a1), .val (.ref a1), .val (.int (1 : Int32))] [(.int (0 : Int32))])) := by
                    intro t k
                    refine go5 t ?_
                    refine o_ifN X20 hx hby d3_58 61 rfl (feq (fun q => hc58_22 ((lw_eq w1 x1).mp q))).1 ?_
                    refine o_iconst X20 hx hby d3_61 62 rfl (v := (0 : Int32)) rfl ?_
                    exact k
                  exact ⟨T20, _, (0 : Int32), _, _, _, X20, N0, e20, (if_neg hc58_22).symm, (hb hby d3_62), go7⟩
              subst hv1
              exact ⟨T25, _, (if w1 = x1 then (1 : Int32) else (0 : Int32)), _, _, _, X25, N25, e25, (if_neg hc42_15).symm, hd26, go8⟩
          subst hv2
          exact ⟨T27, _, (if m1 = (0 : Int32) then (1 : Int32) else (if w1 = x1 then (1 : Int32) else (0 : Int32))), _, _, _, X27, N27, e27, (if_pos hc42_10).symm, hd28, go9⟩
        · obtain ⟨T29, X29, e29, st29⟩ := getF X8 hx hZ hown (host := "") (Or.inl (hw _ (List.mem_of_getElem? (i := 13) rfl))) Via.refl e8 r2 (g := (mkF m 46 #[.val (.ref a0), .val (.ref a1), .val (.ref a1), .val (.int (0 : Int32))] [(.ref a1)])) rfl rfl (hb hby d3_46)
          obtain ⟨cl30, Ar30, q30, S30, M30, H30, G30⟩ := id r3
          have hin30 : ¬ ((0 : Int32) < 0 ∨ cl30.slots.size ≤ ((0 : Int32)).toNatClampNeg) := inb_of S30 ⟨by decide, by decide⟩
          have hat30 : cl30.slots[((0 : Int32)).toNatClampNeg]? = some (.long w0) := H30.at hin30 rfl
          obtain ⟨T31, X31, e31, st31⟩ := getF X29 hx hZ hown (host := "") (Or.inl (hw _ (List.mem_of_getElem? (i := 13) rfl))) Via.refl e29 r5 (g := (mkF m 52 #[.val (.ref a0), .val (.ref a1), .val (.ref a1), .val (.int (0 : Int32))] [(.ref a0), (.long w0)])) rfl rfl (hb hby d3_52)
          obtain ⟨cl32, Ar32, q32, S32, M32, H32, G32⟩ := id r6
          have hin32 : ¬ ((0 : Int32) < 0 ∨ cl32.slots.size ≤ ((0 : Int32)).toNatClampNeg) := inb_of S32 ⟨by decide, by decide⟩
          have hat32 : cl32.slots[((0 : Int32)).toNatClampNeg]? = some (.long x0) := H32.at hin32 rfl
          have go10 : Go p e below A0 (T31.setTop (mkF m 58 #[.val (.ref a0), .val (.ref a1), .val (.ref a1), .val (.int (0 : Int32))] [(.int (lcmpW w0 x0))])) := by
            intro t k
            refine go2 t ?_
            refine o_ifN X8 hx hby d3_42 45 rfl (feq hc42_10).1 ?_
            refine o_aloadN X8 hx hby d3_45 46 rfl rfl rfl ?_
            refine st29 _ ?_
            show Steps p.tables e below (T29.setTop (mkF m 49 #[.val (.ref a0), .val (.ref a1), .val (.ref a1), .val (.int (0 : Int32))] [(.ref d1)])) _
            refine o_iloadN X29 hx hby d3_49 50 rfl rfl ?_
            refine X29.laload hx (j := (0 : Int32)) (v := (.long w0)) (by rw [e29]; exact Ar30.1) (State.isArrayOf_alike hZ.alike Ar30.2.1) Ar30.2.2 hin30 hat30 (g := (mkF m 50 #[.val (.ref a0), .val (.ref a1), .val (.ref a1), .val (.int (0 : Int32))] [(.int (0 : Int32)), (.ref d1)])) rfl rfl (hb hby d3_50) _ ?_
            show Steps p.tables e below (T29.setTop (mkF m 51 #[.val (.ref a0), .val (.ref a1), .val (.ref a1), .val (.int (0 : Int32))] [(.long w0)])) _
            refine o_aloadN X29 hx hby d3_51 52 rfl rfl rfl ?_
            refine st31 _ ?_
            show Steps p.tables e below (T31.setTop (mkF m 55 #[.val (.ref a0), .val (.ref a1), .val (.ref a1), .val (.int (0 : Int32))] [(.ref d0), (.long w0)])) _
            refine o_iloadN X31 hx hby d3_55 56 rfl rfl ?_
            refine X31.laload hx (j := (0 : Int32)) (v := (.long x0)) (by rw [e31]; exact Ar32.1) (State.isArrayOf_alike hZ.alike Ar32.2.1) Ar32.2.2 hin32 hat32 (g := (mkF m 56 #[.val (.ref a0), .val (.ref a1), .val (.ref a1), .val (.int (0 : Int32))] [(.int (0 : Int32)), (.ref d0), (.long w0)])) rfl rfl (hb hby d3_56) _ ?_
            show Steps p.tables e below (T31.setTop (mkF m 57 #[.val (.ref a0), .val (.ref a1), .val (.ref a1), .val (.int (0 : Int32))] [(.long x0), (.long w0)])) _
            refine o_lcmp X31 hx hby d3_57 58 rfl ?_
            exact k
          obtain ⟨T52, l52, v5, pcr53, Lr53, Sr53, X52, N52, e52, hv5, hd53, go19⟩ : ∃ (T52 : State) (l52 : List Loc) (v5 : Int32) (pcr53 : Nat) (Lr53 : Array Slot) (Sr53 : List Value), Stand p l e ({ frames := 0, cells := 0, slots := 0, locals := 0 } : Room) s m #[(.ref a0), (.ref a1)] below meth c T52 l52 0 0 ∧ Fr n0 l52 ∧ T52.heap = h0 ∧ v5 = (if w0 = x0 then (if m1 = (0 : Int32) then (1 : Int32) else (if w1 = x1 then (1 : Int32) else (0 : Int32))) else (0 : Int32)) ∧ decode c.code pcr53 = .ok (.ireturn, 1) ∧ Go p e below A0 (T52.setTop (mkF m pcr53 Lr53 ((.int v5) :: Sr53))) := by
            by_cases hc58_33 : w0 = x0
            · obtain ⟨T34, X34, e34, st34⟩ := getF X31 hx hZ hown (host := "") (Or.inl (hw _ (List.mem_of_getElem? (i := 13) rfl))) Via.refl e31 r5 (g := (mkF m 29 #[.val (.ref a0), .val (.ref a1), .val (.ref a1), .val (.int (1 : Int32))] [(.ref a0), (.int (1 : Int32))])) rfl rfl (hb hby d3_29)
              obtain ⟨cl35, Ar35, q35, S35, M35, H35, G35⟩ := id r6
              obtain ⟨T36, X36, e36, st36⟩ := getF X34 hx hZ hown (host := "") (Or.inl (hw _ (List.mem_of_getElem? (i := 15) rfl))) Via.refl e34 r7 (g := (mkF m 37 #[.val (.ref a0), .val (.ref a1), .val (.ref a1), .val (.int (1 : Int32))] [(.ref a0)])) rfl rfl (hb hby d3_37)
              obtain ⟨cl37, Ar37, q37, S37, M37, H37, G37⟩ := id r8
              have hin37 : ¬ ((1 : Int32) < 0 ∨ cl37.slots.size ≤ ((1 : Int32)).toNatClampNeg) := inb_of S37 ⟨by decide, by decide⟩
              have hat37 : cl37.slots[((1 : Int32)).toNatClampNeg]? = some (.int m1) := H37.at hin37 rfl
              have go11 : Go p e below A0 (T36.setTop (mkF m 42 #[.val (.ref a0), .val (.ref a1), .val (.ref a1), .val (.int (1 : Int32))] [(.int m1)])) := by
                intro t k
                refine go10 t ?_
                refine o_ifY X31 hx hby d3_58 63 rfl (teq ((lw_eq w0 x0).mpr hc58_33)).1 ?_
                refine o_iinc X31 hx hby d3_63 66 rfl rfl (i := (1 : Int32)) rfl (l' := #[.val (.ref a0), .val (.ref a1), .val (.ref a1), .val (.int (1 : Int32))]) rfl ?_
                refine o_goto X31 hx hby d3_66 27 rfl ?_
                refine o_iloadN X31 hx hby d3_27 28 rfl rfl ?_
                refine o_aloadN X31 hx hby d3_28 29 rfl rfl rfl ?_
                refine st34 _ ?_
                show Steps p.tables e below (T34.setTop (mkF m 32 #[.val (.ref a0), .val (.ref a1), .val (.ref a1), .val (.int (1 : Int32))] [(.ref d0), (.int (1 : Int32))])) _
                refine X34.arraylength hx (by rw [e34]; exact Ar35.1) (State.isArrayOf_alike hZ.alike Ar35.2.1) (g := (mkF m 32 #[.val (.ref a0), .val (.ref a1), .val (.ref a1), .val (.int (1 : Int32))] [(.ref d0), (.int (1 : Int32))])) rfl rfl (hb hby d3_32) _ ?_
                rw [len_of S35 M35]
                show Steps p.tables e below (T34.setTop (mkF m 33 #[.val (.ref a0), .val (.ref a1), .val (.ref a1), .val (.int (1 : Int32))] [(.int (2 : Int32)), (.int (1 : Int32))])) _
                refine o_icmpN X34 hx hby d3_33 36 rfl (tlt (by decide)).2.1 ?_
                refine o_aloadN X34 hx hby d3_36 37 rfl rfl rfl ?_
                refine st36 _ ?_
                show Steps p.tables e below (T36.setTop (mkF m 40 #[.val (.ref a0), .val (.ref a1), .val (.ref a1), .val (.int (1 : Int32))] [(.ref em0)])) _
                refine o_iloadN X36 hx hby d3_40 41 rfl rfl ?_
                refine X36.baloadBooleans hx (j := (1 : Int32)) (v := (.int m1)) (by rw [e36]; exact Ar37.1) (State.isArrayOf_alike hZ.alike Ar37.2.1) Ar37.2.2 hin37 hat37 (g := (mkF m 41 #[.val (.ref a0), .val (.ref a1), .val (.ref a1), .val (.int (1 : Int32))] [(.int (1 : Int32)), (.ref em0)])) rfl rfl (hb hby d3_41) _ ?_
                show Steps p.tables e below (T36.setTop (mkF m 42 #[.val (.ref a0), .val (.ref a1), .val (.ref a1), .val (.int (1 : Int32))] [(.int m1)])) _
                exact k
              obtain ⟨T50, l50, v4, pcr51, Lr51, Sr51, X50, N50, e50, hv4, hd51, go17⟩ : ∃ (T50 : State) (l50 : List Loc) (v4 : Int32) (pcr51 : Nat) (Lr51 : Array Slot) (Sr51 : List Value), Stand p l e ({ frames := 0, cells := 0, slots := 0, locals := 0 } : Room) s m #[(.ref a0), (.ref a1)] below meth c T50 l50 0 0 ∧ Fr n0 l50 ∧ T50.heap = h0 ∧ v4 = (if m1 = (0 : Int32) then (1 : Int32) else (if w1 = x1 then (1 : Int32) else (0 : Int32))) ∧ decode c.code pcr51 = .ok (.ireturn, 1) ∧ Go p e below A0 (T50.setTop (mkF m pcr51 Lr51 ((.int v4) :: Sr51))) := by
                by_cases hc42_38 : m1 = (0 : Int32)
                · obtain ⟨T39, X39, e39, st39⟩ := getF X36 hx hZ hown (host := "") (Or.inl (hw _ (List.mem_of_getElem? (i := 13) rfl))) Via.refl e36 r5 (g := (mkF m 29 #[.val (.ref a0), .val (.ref a1), .val (.ref a1), .val (.int (2 : Int32))] [(.ref a0), (.int (2 : Int32))])) rfl rfl (hb hby d3_29)
                  obtain ⟨cl40, Ar40, q40, S40, M40, H40, G40⟩ := id r6
                  have go12 : Go p e below A0 (T39.setTop (mkF m 70 #[.val (.ref a0), .val (.ref a1), .val (.ref a1), .val (.int (2 : Int32))] [(.int (1 : Int32))])) := by
                    intro t k
                    refine go11 t ?_
                    refine o_ifY X36 hx hby d3_42 63 rfl (teq hc42_38).1 ?_
                    refine o_iinc X36 hx hby d3_63 66 rfl rfl (i := (1 : Int32)) rfl (l' := #[.val (.ref a0), .val (.ref a1), .val (.ref a1), .val (.int (2 : Int32))]) rfl ?_
                    refine o_goto X36 hx hby d3_66 27 rfl ?_
                    refine o_iloadN X36 hx hby d3_27 28 rfl rfl ?_
                    refine o_aloadN X36 hx hby d3_28 29 rfl rfl rfl ?_
                    refine st39 _ ?_
                    show Steps p.tables e below (T39.setTop (mkF m 32 #[.val (.ref a0), .val (.ref a1), .val (.ref a1), .val (.int (2 : Int32))] [(.ref d0), (.int (2 : Int32))])) _
                    refine X39.arraylength hx (by rw [e39]; exact Ar40.1) (State.isArrayOf_alike hZ.alike Ar40.2.1) (g := (mkF m 32 #[.val (.ref a0), .val (.ref a1), .val (.ref a1), .val (.int (2 : Int32))] [(.ref d0), (.int (2 : Int32))])) rfl rfl (hb hby d3_32) _ ?_
                    rw [len_of S40 M40]
                    show Steps p.tables e below (T39.setTop (mkF m 33 #[.val (.ref a0), .val (.ref a1), .val (.ref a1), .val (.int (2 : Int32))] [(.int (2 : Int32)), (.int (2 : Int32))])) _
                    refine o_icmpY X39 hx hby d3_33 69 rfl (flt (by decide)).2.1 ?_
                    refine o_iconst X39 hx hby d3_69 70 rfl (v := (1 : Int32)) rfl ?_
                    exact k
                  exact ⟨T39, _, (1 : Int32), _, _, _, X39, N0, e39, (if_pos hc42_38).symm, (hb hby d3_70), go12⟩
                · obtain ⟨T41, X41, e41, st41⟩ := getF X36 hx hZ hown (host := "") (Or.inl (hw _ (List.mem_of_getElem? (i := 13) rfl))) Via.refl e36 r2 (g := (mkF m 46 #[.val (.ref a0), .val (.ref a1), .val (.ref a1), .val (.int (1 : Int32))] [(.ref a1)])) rfl rfl (hb hby d3_46)
                  obtain ⟨cl42, Ar42, q42, S42, M42, H42, G42⟩ := id r3
                  have hin42 : ¬ ((1 : Int32) < 0 ∨ cl42.slots.size ≤ ((1 : Int32)).toNatClampNeg) := inb_of S42 ⟨by decide, by decide⟩
                  have hat42 : cl42.slots[((1 : Int32)).toNatClampNeg]? = some (.long w1) := H42.at hin42 rfl
                  obtain ⟨T43, X43, e43, st43⟩ := getF X41 hx hZ hown (host := "") (Or.inl (hw _ (List.mem_of_getElem? (i := 13) rfl))) Via.refl e41 r5 (g := (mkF m 52 #[.val (.ref a0), .val (.ref a1), .val (.ref a1), .val (.int (1 : Int32))] [(.ref a0), (.long w1)])) rfl rfl (hb hby d3_52)
                  obtain ⟨cl44, Ar44, q44, S44, M44, H44, G44⟩ := id r6
                  have hin44 : ¬ ((1 : Int32) < 0 ∨ cl44.slots.size ≤ ((1 : Int32)).toNatClampNeg) := inb_of S44 ⟨by decide, by decide⟩
                  have hat44 : cl44.slots[((1 : Int32)).toNatClampNeg]? = some (.long x1) := H44.at hin44 rfl
                  have go13 : Go p e below A0 (T43.setTop (mkF m 58 #[.val (.ref a0), .val (.ref a1), .val (.ref a1), .val (.int (1 : Int32))] [(.int (lcmpW w1 x1))])) := by
                    intro t k
                    refine go11 t ?_
                    refine o_ifN X36 hx hby d3_42 45 rfl (feq hc42_38).1 ?_
                    refine o_aloadN X36 hx hby d3_45 46 rfl rfl rfl ?_
                    refine st41 _ ?_
                    show Steps p.tables e below (T41.setTop (mkF m 49 #[.val (.ref a0), .val (.ref a1), .val (.ref a1), .val (.int (1 : Int32))] [(.ref d1)])) _
                    refine o_iloadN X41 hx hby d3_49 50 rfl rfl ?_
                    refine X41.laload hx (j := (1 : Int32)) (v := (.long w1)) (by rw [e41]; exact Ar42.1) (State.isArrayOf_alike hZ.alike Ar42.2.1) Ar42.2.2 hin42 hat42 (g := (mkF m 50 #[.val (.ref a0), .val (.ref a1), .val (.ref a1), .val (.int (1 : Int32))] [(.int (1 : Int32)), (.ref d1)])) rfl rfl (hb hby d3_50) _ ?_
                    show Steps p.tables e below (T41.setTop (mkF m 51 #[.val (.ref a0), .val (.ref a1), .val (.ref a1), .val (.int (1 : Int32))] [(.long w1)])) _
                    refine o_aloadN X41 hx hby d3_51 52 rfl rfl rfl ?_
                    refine st43 _ ?_
                    show Steps p.tables e below (T43.setTop (mkF m 55 #[.val (.ref a0), .val (.ref a1), .val (.ref a1), .val (.int (1 : Int32))] [(.ref d0), (.long w1)])) _
                    refine o_iloadN X43 hx hby d3_55 56 rfl rfl ?_
                    refine X43.laload hx (j := (1 : Int32)) (v := (.long x1)) (by rw [e43]; exact Ar44.1) (State.isArrayOf_alike hZ.alike Ar44.2.1) Ar44.2.2 hin44 hat44 (g := (mkF m 56 #[.val (.ref a0), .val (.ref a1), .val (.ref a1), .val (.int (1 : Int32))] [(.int (1 : Int32)), (.ref d0), (.long w1)])) rfl rfl (hb hby d3_56) _ ?_
                    show Steps p.tables e below (T43.setTop (mkF m 57 #[.val (.ref a0), .val (.ref a1), .val (.ref a1), .val (.int (1 : Int32))] [(.long x1), (.long w1)])) _
                    refine o_lcmp X43 hx hby d3_57 58 rfl ?_
                    exact k
                  obtain ⟨T48, l48, v3, pcr49, Lr49, Sr49, X48, N48, e48, hv3, hd49, go16⟩ : ∃ (T48 : State) (l48 : List Loc) (v3 : Int32) (pcr49 : Nat) (Lr49 : Array Slot) (Sr49 : List Value), Stand p l e ({ frames := 0, cells := 0, slots := 0, locals := 0 } : Room) s m #[(.ref a0), (.ref a1)] below meth c T48 l48 0 0 ∧ Fr n0 l48 ∧ T48.heap = h0 ∧ v3 = (if w1 = x1 then (1 : Int32) else (0 : Int32)) ∧ decode c.code pcr49 = .ok (.ireturn, 1) ∧ Go p e below A0 (T48.setTop (mkF m pcr49 Lr49 ((.int v3) :: Sr49))) := by
                    by_cases hc58_45 : w1 = x1
                    · obtain ⟨T46, X46, e46, st46⟩ := getF X43 hx hZ hown (host := "") (Or.inl (hw _ (List.mem_of_getElem? (i := 13) rfl))) Via.refl e43 r5 (g := (mkF m 29 #[.val (.ref a0), .val (.ref a1), .val (.ref a1), .val (.int (2 : Int32))] [(.ref a0), (.int (2 : Int32))])) rfl rfl (hb hby d3_29)
                      obtain ⟨cl47, Ar47, q47, S47, M47, H47, G47⟩ := id r6
                      have go14 : Go p e below A0 (T46.setTop (mkF m 70 #[.val (.ref a0), .val (.ref a1), .val (.ref a1), .val (.int (2 : Int32))] [(.int (1 : Int32))])) := by
                        intro t k
                        refine go13 t ?_
                        refine o_ifY X43 hx hby d3_58 63 rfl (teq ((lw_eq w1 x1).mpr hc58_45)).1 ?_
                        refine o_iinc X43 hx hby d3_63 66 rfl rfl (i := (1 : Int32)) rfl (l' := #[.val (.ref a0), .val (.ref a1), .val (.ref a1), .val (.int (2 : Int32))]) rfl ?_
                        refine o_goto X43 hx hby d3_66 27 rfl ?_
                        refine o_iloadN X43 hx hby d3_27 28 rfl rfl ?_
                        refine o_aloadN X43 hx hby d3_28 29 rfl rfl rfl ?_
                        refine st46 _ ?_
                        show Steps p.tables e below (T46.setTop (mkF m 32 #[.val (.ref a0), .val (.ref a1), .val (.ref a1), .val (.int (2 : Int32))] [(.ref d0), (.int (2 : Int32))])) _
                        refine X46.arraylength hx (by rw [e46]; exact Ar47.1) (State.isArrayOf_alike hZ.alike Ar47.2.1) (g := (mkF m 32 #[.val (.ref a0), .val (.ref a1), .val (.ref a1), .val (.int (2 : Int32))] [(.ref d0), (.int (2 : Int32))])) rfl rfl (hb hby d3_32) _ ?_
                        rw [len_of S47 M47]
                        show Steps p.tables e below (T46.setTop (mkF m 33 #[.val (.ref a0), .val (.ref a1), .val (.ref a1), .val (.int (2 : Int32))] [(.int (2 : Int32)), (.int (2 : Int32))])) _
                        refine o_icmpY X46 hx hby d3_33 69 rfl (flt (by decide)).2.1 ?_
                        refine o_iconst X46 hx hby d3_69 70 rfl (v := (1 : Int32)) rfl ?_
                        exact k
                      exact ⟨T46, _, (1 : Int32), _, _, _, X46, N0, e46, (if_pos hc58_45).symm, (hb hby d3_70), go14⟩
                    · have go15 : Go p e below A0 (T43.setTop (mkF m 62 #[.val (.ref a0), .val (.ref a1), .val (.ref a1), .val (.int (1 : Int32))] [(.int (0 : Int32))])) := by
                        intro t k
                        refine go13 t ?_
                        refine o_ifN X43 hx hby d3_58 61 rfl (feq (fun q => hc58_45 ((lw_eq w1 x1).mp q))).1 ?_
                        refine o_iconst X43 hx hby d3_61 62 rfl (v := (0 : Int32)) rfl ?_
                        exact k
                      exact ⟨T43, _, (0 : Int32), _, _, _, X43, N0, e43, (if_neg hc58_45).symm, (hb hby d3_62), go15⟩
                  subst hv3
                  exact ⟨T48, _, (if w1 = x1 then (1 : Int32) else (0 : Int32)), _, _, _, X48, N48, e48, (if_neg hc42_38).symm, hd49, go16⟩
              subst hv4
              exact ⟨T50, _, (if m1 = (0 : Int32) then (1 : Int32) else (if w1 = x1 then (1 : Int32) else (0 : Int32))), _, _, _, X50, N50, e50, (if_pos hc58_33).symm, hd51, go17⟩
            · have go18 : Go p e below A0 (T31.setTop (mkF m 62 #[.val (.ref a0), .val (.ref a1), .val (.ref a1), .val (.int (0 : Int32))] [(.int (0 : Int32))])) := by
                intro t k
                refine go10 t ?_
                refine o_ifN X31 hx hby d3_58 61 rfl (feq (fun q => hc58_33 ((lw_eq w0 x0).mp q))).1 ?_
                refine o_iconst X31 hx hby d3_61 62 rfl (v := (0 : Int32)) rfl ?_
                exact k
              exact ⟨T31, _, (0 : Int32), _, _, _, X31, N0, e31, (if_neg hc58_33).symm, (hb hby d3_62), go18⟩
          subst hv5
          exact ⟨T52, _, (if w0 = x0 then (if m1 = (0 : Int32) then (1 : Int32) else (if w1 = x1 then (1 : Int32) else (0 : Int32))) else (0 : Int32)), _, _, _, X52, N52, e52, (if_neg hc42_10).symm, hd53, go19⟩
      subst hv6
      exact ⟨T54, _, (if m0 = (0 : Int32) then (if m1 = (0 : Int32) then (1 : Int32) else (if w1 = x1 then (1 : Int32) else (0 : Int32))) else (if w0 = x0 then (if m1 = (0 : Int32) then (1 : Int32) else (if w1 = x1 then (1 : Int32) else (0 : Int32))) else (0 : Int32))), _, _, _, X54, N54, e54, (if_pos hc20_5).symm, hd55, go20⟩
    · have go21 : Go p e below A0 (T4.setTop (mkF m 24 #[.val (.ref a0), .val (.ref a1), .val (.ref a1), .unset] [(.int (0 : Int32))])) := by
        intro t k
        refine go1 t ?_
        refine o_icmpN X4 hx hby d3_20 23 rfl (feq hc20_5).1 ?_
        refine o_iconst X4 hx hby d3_23 24 rfl (v := (0 : Int32)) rfl ?_
        exact k
      exact ⟨T4, _, (0 : Int32), _, _, _, X4, N0, e4, (if_neg hc20_5).symm, (hb hby d3_24), go21⟩
  have hF : v7 = (Feq u0 u1 m0 m1 x0 x1 w0 w1) := by subst hv7; rfl
  subst hA0
  obtain ⟨fs, hr, hrun, hended, hW, hsame⟩ := X56.leave (v := some (.int v7)) (fun h => by rw [Bd.returns] at h; cases h)
  refine ⟨_, _, go22 _ (o_retZ X56 hx Bd.returns hd57 (by rw [hv7]; repeat' (first | exact Or.inl rfl | exact Or.inr rfl | split)) hr), hrun, hended, _, _, rfl, ?_, ⟨_, rfl⟩, hW, hsame.mono (by decide) (by decide)⟩
  show Q3s Z a0 a1 u0 u1 m0 m1 x0 x1 w0 w1 d0 d1 em0 kd0 kd1 kem0 h0 n0 _ T56.heap _
  rw [e56]
  exact ⟨congrArg (fun z => some (Value.int z)) hF, N56, rfl⟩
theorem ef_3n (m : MethodId) (x0 : Addr) : entryFrame m #[(.ref x0), .null] 4 = mkF m 0 #[.val (.ref x0), .val .null, .unset, .unset] [] := by first | (simp [entryFrame, mkF, argsToLocals, Value.category]; done) | rfl
def Q3n (Z : State) (a0 : Addr) (h0 : Heap) (n0 : Nat) (v : Option Value) (h : Heap) (L : List Loc) : Prop := v = some (.int (0 : Int32)) ∧ Fr n0 L ∧ h = h0
set_option maxRecDepth 65536 in
set_option maxHeartbeats 40000000 in
theorem rm3n (l : Launch) (Z : State) (aw : Array Value) (hw : ∀ d ∈ tables_1, d.before aw Z = true) (ws : List Jvm.Cond) (a0 : Addr) (h0 : Heap) (n0 : Nat) (Z0 : n0 ≤ h0.size) :
    MetFree l (⟨"com/example/calchas/calchas/check/Hypothesis$Standing", "equals", "(Ljava/lang/Object;)Z"⟩ : MethodName) (head1 (Jvm.Cond.code (⟨"com/example/calchas/calchas/check/Hypothesis$Standing", "equals", "(Ljava/lang/Object;)Z"⟩ : MethodName) prog_18_method_5_code 4 (some .boolean) :: ws) ({ frames := 0, cells := 0, slots := 0, locals := 0 } : Room)) (fun a U => a = #[(.ref a0), .null] ∧ Z.Warmed39 U.vm ∧ U.heap = h0) (fun _ _ _ _ _ => True) (fun _ U o U' => ∃ v L, o = .returned v ∧ Q3n Z a0 h0 n0 v U'.heap L ∧ FrameEnd U o U' L ({ frames := 0, cells := 0, slots := 0, locals := 0 } : Room).cells ({ frames := 0, cells := 0, slots := 0, locals := 0 } : Room).slots) := by
  refine MetFree.of_bodySF (plainFor_of_name pn_1) hisR ?_
  intro p e s m args below meth c s₁ Bd hml0 hP hK
  obtain ⟨rfl, hZ, hh⟩ := hP
  have hx := Bd.exec
  have hby := Bd.bytes
  have hml : c.maxLocals = 4 := hml0
  have hown : s.vm.findClass "com/example/calchas/calchas/check/Hypothesis$Standing" = some m.cls := findClass_of_methodNamed Bd.named
  have hnm := (name_of_methodNamed Bd.named Bd.method).1
  have X0 : Stand p l e ({ frames := 0, cells := 0, slots := 0, locals := 0 } : Room) s m #[(.ref a0), .null] below meth c s₁ [] 0 0 := Stand.of_body Bd
  have e0 : s₁.heap = h0 := by rw [← hh, Bd.state]; rfl
  have N0 := Fr.nil n0
  obtain ⟨A0, hA0⟩ : ∃ A0, A0 = s₁.setTop (entryFrame m #[(.ref a0), .null] 4) := ⟨_, rfl⟩
  have go0 : Go p e below A0 (s₁.setTop (mkF m 0 #[.val (.ref a0), .val .null, .unset, .unset] [])) := fun t k => by rw [hA0]; exact castTop (ef_3n m a0) k
  have go1 : Go p e below A0 (s₁.setTop (mkF m 24 #[.val (.ref a0), .val .null, .unset, .unset] [(.int (0 : Int32))])) := by
    intro t k
    refine go0 t ?_
    refine o_aloadN X0 hx hby d3_0 1 rfl rfl rfl ?_
    refine X0.instanceofNull hx (g := (mkF m 1 #[.val (.ref a0), .val .null, .unset, .unset] [.null])) rfl rfl (hb hby d3_1) _ ?_
    show Steps p.tables e below (s₁.setTop (mkF m 4 #[.val (.ref a0), .val .null, .unset, .unset] [(.int (0 : Int32))])) _
    refine o_ifY X0 hx hby d3_4 23 rfl (teq (by decide)).1 ?_
    refine o_iconst X0 hx hby d3_23 24 rfl (v := (0 : Int32)) rfl ?_
    exact k
  have hF : (0 : Int32) = (0 : Int32) := by first | rfl | simp only [*]
  subst hA0
  obtain ⟨fs, hr, hrun, hended, hW, hsame⟩ := X0.leave (v := some (.int (0 : Int32))) (fun h => by rw [Bd.returns] at h; cases h)
  refine ⟨_, _, go1 _ (o_retZ X0 hx Bd.returns (hb hby d3_24) (Or.inl rfl) hr), hrun, hended, _, _, rfl, ?_, ⟨_, rfl⟩, hW, hsame.mono (by decide) (by decide)⟩
  show Q3n Z a0 h0 n0 _ s₁.heap _
  rw [e0]
  exact ⟨congrArg (fun z => some (Value.int z)) hF, N0, rfl⟩
theorem ef_3i (m : MethodId) (x0 : Addr) (x1 : Addr) : entryFrame m #[(.ref x0), (.ref x1)] 4 = mkF m 0 #[.val (.ref x0), .val (.ref x1), .unset, .unset] [] := by first | (simp [entryFrame, mkF, argsToLocals, Value.category]; done) | rfl
def Q3i (Z : State) (a0 : Addr) (a1 : Addr) (h0 : Heap) (n0 : Nat) (v : Option Value) (h : Heap) (L : List Loc) : Prop := v = some (.int (0 : Int32)) ∧ Fr n0 L ∧ h = h0
set_option maxRecDepth 65536 in
set_option maxHeartbeats 40000000 in
theorem rm3i (l : Launch) (Z : State) (aw : Array Value) (hw : ∀ d ∈ tables_1, d.before aw Z = true) (ws : List Jvm.Cond) (a0 : Addr) (a1 : Addr) (h0 : Heap) (n0 : Nat) (Z0 : n0 ≤ h0.size) (r0 : Exa Z h0 a1 "java/lang/Integer") :
    MetFree l (⟨"com/example/calchas/calchas/check/Hypothesis$Standing", "equals", "(Ljava/lang/Object;)Z"⟩ : MethodName) (head1 (Jvm.Cond.code (⟨"com/example/calchas/calchas/check/Hypothesis$Standing", "equals", "(Ljava/lang/Object;)Z"⟩ : MethodName) prog_18_method_5_code 4 (some .boolean) :: ws) ({ frames := 0, cells := 0, slots := 0, locals := 0 } : Room)) (fun a U => a = #[(.ref a0), (.ref a1)] ∧ Z.Warmed39 U.vm ∧ U.heap = h0) (fun _ _ _ _ _ => True) (fun _ U o U' => ∃ v L, o = .returned v ∧ Q3i Z a0 a1 h0 n0 v U'.heap L ∧ FrameEnd U o U' L ({ frames := 0, cells := 0, slots := 0, locals := 0 } : Room).cells ({ frames := 0, cells := 0, slots := 0, locals := 0 } : Room).slots) := by
  refine MetFree.of_bodySF (plainFor_of_name pn_1) hisR ?_
  intro p e s m args below meth c s₁ Bd hml0 hP hK
  obtain ⟨rfl, hZ, hh⟩ := hP
  have hx := Bd.exec
  have hby := Bd.bytes
  have hml : c.maxLocals = 4 := hml0
  have hown : s.vm.findClass "com/example/calchas/calchas/check/Hypothesis$Standing" = some m.cls := findClass_of_methodNamed Bd.named
  have hnm := (name_of_methodNamed Bd.named Bd.method).1
  have X0 : Stand p l e ({ frames := 0, cells := 0, slots := 0, locals := 0 } : Room) s m #[(.ref a0), (.ref a1)] below meth c s₁ [] 0 0 := Stand.of_body Bd
  have e0 : s₁.heap = h0 := by rw [← hh, Bd.state]; rfl
  have N0 := Fr.nil n0
  obtain ⟨A0, hA0⟩ : ∃ A0, A0 = s₁.setTop (entryFrame m #[(.ref a0), (.ref a1)] 4) := ⟨_, rfl⟩
  have go0 : Go p e below A0 (s₁.setTop (mkF m 0 #[.val (.ref a0), .val (.ref a1), .unset, .unset] [])) := fun t k => by rw [hA0]; exact castTop (ef_3i m a0 a1) k
  obtain ⟨T1, X1, e1, st1⟩ := instNo X0 hx hZ hown (hw _ (List.mem_of_getElem? (i := 22) rfl)) e0 r0 (own_no (n := 3) (hw _ (List.mem_of_getElem? (i := 43) rfl)) (hw _ (List.mem_of_getElem? (i := 3) rfl)) (NS.step (hw _ (List.mem_of_getElem? (i := 43) rfl)) (NS.step (hw _ (List.mem_of_getElem? (i := 44) rfl)) (own_root (n := 3) (hw _ (List.mem_of_getElem? (i := 45) rfl)) (hw _ (List.mem_of_getElem? (i := 3) rfl)) (by decide)) (by decide)) (by decide)) (by decide)) (g := (mkF m 1 #[.val (.ref a0), .val (.ref a1), .unset, .unset] [(.ref a1)])) rfl rfl (hb hby d3_1)
  have go1 : Go p e below A0 (T1.setTop (mkF m 24 #[.val (.ref a0), .val (.ref a1), .unset, .unset] [(.int (0 : Int32))])) := by
    intro t k
    refine go0 t ?_
    refine o_aloadN X0 hx hby d3_0 1 rfl rfl rfl ?_
    refine st1 _ ?_
    show Steps p.tables e below (T1.setTop (mkF m 4 #[.val (.ref a0), .val (.ref a1), .unset, .unset] [(.int (0 : Int32))])) _
    refine o_ifY X1 hx hby d3_4 23 rfl (teq (by decide)).1 ?_
    refine o_iconst X1 hx hby d3_23 24 rfl (v := (0 : Int32)) rfl ?_
    exact k
  have hF : (0 : Int32) = (0 : Int32) := by first | rfl | simp only [*]
  subst hA0
  obtain ⟨fs, hr, hrun, hended, hW, hsame⟩ := X1.leave (v := some (.int (0 : Int32))) (fun h => by rw [Bd.returns] at h; cases h)
  refine ⟨_, _, go1 _ (o_retZ X1 hx Bd.returns (hb hby d3_24) (Or.inl rfl) hr), hrun, hended, _, _, rfl, ?_, ⟨_, rfl⟩, hW, hsame.mono (by decide) (by decide)⟩
  show Q3i Z a0 a1 h0 n0 _ T1.heap _
  rw [e1]
  exact ⟨congrArg (fun z => some (Value.int z)) hF, N0, rfl⟩
theorem d6_0 : decode jdk_18_method_1_code 0 = .ok (.aload_n 0, 1) := by decide +kernel
theorem d6_1 : decode jdk_18_method_1_code 1 = .ok (.invokespecial 1, 3) := by decide +kernel
theorem d6_4 : decode jdk_18_method_1_code 4 = .ok (.return_, 1) := by decide +kernel
theorem pn_6 : plainName "java/lang/Number" = true := by first | (simp [plainName, overriddenIn]; done) | decide +kernel
theorem ef_6 (m : MethodId) (x0 : Addr) : entryFrame m #[(.ref x0)] 1 = mkF m 0 #[.val (.ref x0)] [] := by first | (simp [entryFrame, mkF, argsToLocals, Value.category]; done) | rfl
def Q6 (Z : State) (a0 : Addr) (h0 : Heap) (n0 : Nat) (v : Option Value) (h : Heap) (L : List Loc) : Prop := v = none ∧ Fr n0 L ∧ h = h0
set_option maxRecDepth 65536 in
set_option maxHeartbeats 40000000 in
theorem rm6 (l : Launch) (Z : State) (aw : Array Value) (hw : ∀ d ∈ tables_1, d.before aw Z = true) (ws : List Jvm.Cond) (a0 : Addr) (h0 : Heap) (n0 : Nat) (Z0 : n0 ≤ h0.size) :
    MetFree l (⟨"java/lang/Number", "<init>", "()V"⟩ : MethodName) (head1 (Jvm.Cond.code (⟨"java/lang/Number", "<init>", "()V"⟩ : MethodName) jdk_18_method_1_code 1 none :: ws) ({ frames := 1, cells := 0, slots := 0, locals := 12 } : Room)) (fun a U => a = #[(.ref a0)] ∧ Z.Warmed39 U.vm ∧ U.heap = h0) (fun _ _ _ _ _ => True) (fun _ U o U' => ∃ v L, o = .returned v ∧ Q6 Z a0 h0 n0 v U'.heap L ∧ FrameEnd U o U' L ({ frames := 1, cells := 0, slots := 0, locals := 12 } : Room).cells ({ frames := 1, cells := 0, slots := 0, locals := 12 } : Room).slots) := by
  refine MetFree.of_bodySF (plainFor_of_name pn_6) hisR ?_
  intro p e s m args below meth c s₁ Bd hml0 hP hK
  obtain ⟨rfl, hZ, hh⟩ := hP
  have hx := Bd.exec
  have hby := Bd.bytes
  have hml : c.maxLocals = 1 := hml0
  have hown : s.vm.findClass "java/lang/Number" = some m.cls := findClass_of_methodNamed Bd.named
  have hnm := (name_of_methodNamed Bd.named Bd.method).1
  have X0 : Stand p l e ({ frames := 1, cells := 0, slots := 0, locals := 12 } : Room) s m #[(.ref a0)] below meth c s₁ [] 0 0 := Stand.of_body Bd
  have e0 : s₁.heap = h0 := by rw [← hh, Bd.state]; rfl
  have N0 := Fr.nil n0
  obtain ⟨A0, hA0⟩ : ∃ A0, A0 = s₁.setTop (entryFrame m #[(.ref a0)] 1) := ⟨_, rfl⟩
  have go0 : Go p e below A0 (s₁.setTop (mkF m 0 #[.val (.ref a0)] [])) := fun t k => by rw [hA0]; exact castTop (ef_6 m a0) k
  obtain ⟨T1, X1, e1, st1⟩ := initO X0 hx hZ hown (hw _ (List.mem_of_getElem? (i := 40) rfl)) (hw _ (List.mem_of_getElem? (i := 9) rfl)) (hw _ (List.mem_of_getElem? (i := 10) rfl)) e0 (g := (mkF m 1 #[.val (.ref a0)] [(.ref a0)])) rfl (by rw [hml]; rfl) rfl (hb hby d6_1) (by decide) (W := 0) (by show 2 * 0 + _ ≤ _; exact Nat.le_of_eq rfl) (by decide)
  have go1 : Go p e below A0 (T1.setTop (mkF m 4 #[.val (.ref a0)] [])) := by
    intro t k
    refine go0 t ?_
    refine o_aloadN X0 hx hby d6_0 1 rfl rfl rfl ?_
    refine st1 _ ?_
    exact k
  subst hA0
  obtain ⟨fs, hr, hrun, hended, hW, hsame⟩ := X1.leave (v := none) (fun _ => rfl)
  refine ⟨_, _, go1 _ (X1.returnOut hx Bd.returns (hb hby d6_4) hr), hrun, hended, _, _, rfl, ?_, ⟨_, rfl⟩, hW, hsame.mono (by decide) (by decide)⟩
  show Q6 Z a0 h0 n0 _ T1.heap _
  rw [e1]
  exact ⟨rfl, N0, rfl⟩
theorem d5_0 : decode jdk_33_method_23_code 0 = .ok (.aload_n 0, 1) := by decide +kernel
theorem d5_1 : decode jdk_33_method_23_code 1 = .ok (.invokespecial 202, 3) := by decide +kernel
theorem d5_4 : decode jdk_33_method_23_code 4 = .ok (.aload_n 0, 1) := by decide +kernel
theorem d5_5 : decode jdk_33_method_23_code 5 = .ok (.iload_n 1, 1) := by decide +kernel
theorem d5_6 : decode jdk_33_method_23_code 6 = .ok (.putfield 205, 3) := by decide +kernel
theorem d5_9 : decode jdk_33_method_23_code 9 = .ok (.return_, 1) := by decide +kernel
theorem pn_5 : plainName "java/lang/Integer" = true := by first | (simp [plainName, overriddenIn]; done) | decide +kernel
theorem pd_3 : parseMethodDescriptor "()V" = some ⟨[], none⟩ := by decide +kernel
theorem ef_5 (m : MethodId) (x0 : Addr) (x1 : Int32) : entryFrame m #[(.ref x0), (.int x1)] 2 = mkF m 0 #[.val (.ref x0), .val (.int x1)] [] := by first | (simp [entryFrame, mkF, argsToLocals, Value.category]; done) | rfl
def Q5 (Z : State) (a0 : Addr) (p1 : Int32) (h0 : Heap) (n0 : Nat) (v : Option Value) (h : Heap) (L : List Loc) : Prop := v = none ∧ Fr n0 L ∧ Keep h0 h [a0] ∧ Fld Z h a0 "java/lang/Integer" "value" "I" (.int p1) ∧ True
set_option maxRecDepth 65536 in
set_option maxHeartbeats 40000000 in
theorem rm5 (l : Launch) (Z : State) (aw : Array Value) (hw : ∀ d ∈ tables_1, d.before aw Z = true) (ws : List Jvm.Cond) (a0 : Addr) (p1 : Int32) (h0 : Heap) (n0 : Nat) (Z0 : n0 ≤ h0.size) (r0 : Exa Z h0 a0 "java/lang/Integer") (r1 : n0 ≤ a0) (r2 : Fld Z h0 a0 "java/lang/Integer" "value" "I" (.int (0 : Int32))) :
    MetFree l (⟨"java/lang/Integer", "<init>", "(I)V"⟩ : MethodName) (head1 (Jvm.Cond.code (⟨"java/lang/Integer", "<init>", "(I)V"⟩ : MethodName) jdk_33_method_23_code 2 none :: ws) ({ frames := 2, cells := 0, slots := 0, locals := 24 } : Room)) (fun a U => a = #[(.ref a0), (.int p1)] ∧ Z.Warmed39 U.vm ∧ U.heap = h0) (fun _ _ _ _ _ => True) (fun _ U o U' => ∃ v L, o = .returned v ∧ Q5 Z a0 p1 h0 n0 v U'.heap L ∧ FrameEnd U o U' L ({ frames := 2, cells := 0, slots := 0, locals := 24 } : Room).cells ({ frames := 2, cells := 0, slots := 0, locals := 24 } : Room).slots) := by
  refine MetFree.of_bodySF (plainFor_of_name pn_5) hisR ?_
  intro p e s m args below meth c s₁ Bd hml0 hP hK
  obtain ⟨rfl, hZ, hh⟩ := hP
  have hx := Bd.exec
  have hby := Bd.bytes
  have hml : c.maxLocals = 2 := hml0
  have hown : s.vm.findClass "java/lang/Integer" = some m.cls := findClass_of_methodNamed Bd.named
  have hnm := (name_of_methodNamed Bd.named Bd.method).1
  have X0 : Stand p l e ({ frames := 2, cells := 0, slots := 0, locals := 24 } : Room) s m #[(.ref a0), (.int p1)] below meth c s₁ [] 0 0 := Stand.of_body Bd
  have e0 : s₁.heap = h0 := by rw [← hh, Bd.state]; rfl
  have N0 := Fr.nil n0
  obtain ⟨A0, hA0⟩ : ∃ A0, A0 = s₁.setTop (entryFrame m #[(.ref a0), (.int p1)] 2) := ⟨_, rfl⟩
  have go0 : Go p e below A0 (s₁.setTop (mkF m 0 #[.val (.ref a0), .val (.int p1)] [])) := fun t k => by rw [hA0]; exact castTop (ef_5 m a0 p1) k
  obtain ⟨_, _, ⟨T1, L1, k1, n1⟩, -, X1, ⟨Lc1, hQ1, l1, y1, z1⟩, st1⟩ := X0.specialBack hx (y := (⟨"java/lang/Number", "<init>", "()V"⟩ : MethodName)) rfl hown (mvT hZ (hw _ (List.mem_of_getElem? (i := 34) rfl))) (mvT hZ (hw _ (List.mem_of_getElem? (i := 35) rfl))) (mvT hZ (hw _ (List.mem_of_getElem? (i := 39) rfl))) (by decide) (backOf (W := 0) (rm6 l Z aw hw [] a0 h0 n0 Z0 ) hZ (hw _ (List.mem_of_getElem? (i := 39) rfl)) (hw _ (List.mem_of_getElem? (i := 38) rfl)) (by decide) (by decide)) (g := (mkF m 1 #[.val (.ref a0), .val (.int p1)] [(.ref a0)])) rfl (by rw [hml]; rfl) (Steps.refl _) (a := a0) (argsL := []) (rest := []) (lenOf pd_3 rfl) rfl (by show 2 * 0 + _ ≤ _; exact Nat.le_of_eq rfl) (hb hby d5_1) (fun _ _ => ⟨rfl, e0, (by decide : 0 + 0 ≤ _), (by decide : 0 + 0 ≤ _)⟩)
  dsimp only [Pt.U, Pt.locs, Pt.cells, Pt.slots] at X1 l1 y1 z1 st1 hQ1
  subst l1 y1 z1
  obtain ⟨rfl, N1q, e1⟩ := hQ1
  have N1 := Fr.app N0 N1q
  have go1 : Go p e below A0 (T1.setTop (mkF m 6 #[.val (.ref a0), .val (.int p1)] [(.int p1), (.ref a0)])) := by
    intro t k
    refine go0 t ?_
    refine o_aloadN X0 hx hby d5_0 1 rfl rfl rfl ?_
    refine st1.trans ?_
    show Steps p.tables e below (T1.setTop (mkF m 4 #[.val (.ref a0), .val (.int p1)] [])) _
    refine o_aloadN X1 hx hby d5_4 5 rfl rfl rfl ?_
    refine o_iloadN X1 hx hby d5_5 6 rfl rfl ?_
    exact k
  obtain ⟨T2, h2, X2, e2, W2, st2⟩ := putF X1 hx hZ hown (host := "") (Or.inl (hw _ (List.mem_of_getElem? (i := 41) rfl))) Via.refl e1 r2 r0 (Or.inr ⟨(hw _ (List.mem_of_getElem? (i := 42) rfl)), rfl, hnm⟩) (hw _ (List.mem_of_getElem? (i := 29) rfl)) (ty := .int) (by decide) rfl rfl (g := (mkF m 6 #[.val (.ref a0), .val (.int p1)] [(.int p1), (.ref a0)])) rfl rfl (hb hby d5_6)
  have f1 : Exa Z h2 a0 "java/lang/Integer" := r0.wr W2
  have Zp2 : n0 ≤ h2.size := Nat.le_trans Z0 (Keep.of_wr W2).1
  have K2 : Keep h0 h2 [a0] := (Keep.refl h0 [a0]).wr W2 (Or.inl (List.mem_of_getElem? (i := 0) rfl))
  have N2 := Fr.snoc X2 N1 r1
  have f2 : Fld Z h2 a0 "java/lang/Integer" "value" "I" (.int p1) := r2.same W2
  have go2 : Go p e below A0 (T2.setTop (mkF m 9 #[.val (.ref a0), .val (.int p1)] [])) := by
    intro t k
    refine go1 t ?_
    refine st2 _ ?_
    show Steps p.tables e below (T2.setTop (mkF m 9 #[.val (.ref a0), .val (.int p1)] [])) _
    exact k
  subst hA0
  obtain ⟨fs, hr, hrun, hended, hW, hsame⟩ := X2.leave (v := none) (fun _ => rfl)
  refine ⟨_, _, go2 _ (X2.returnOut hx Bd.returns (hb hby d5_9) hr), hrun, hended, _, _, rfl, ?_, ⟨_, rfl⟩, hW, hsame.mono (by decide) (by decide)⟩
  show Q5 Z a0 p1 h0 n0 _ T2.heap _
  rw [e2]
  exact ⟨rfl, N2, K2, f2, trivial⟩
theorem d4_0 : decode jdk_33_method_22_code 0 = .ok (.iload_n 0, 1) := by decide +kernel
theorem d4_1 : decode jdk_33_method_22_code 1 = .ok (.bipush (-128), 2) := by decide +kernel
theorem d4_3 : decode jdk_33_method_22_code 3 = .ok (.if_icmp .lt 20, 3) := by decide +kernel
theorem d4_6 : decode jdk_33_method_22_code 6 = .ok (.iload_n 0, 1) := by decide +kernel
theorem d4_7 : decode jdk_33_method_22_code 7 = .ok (.getstatic 191, 3) := by decide +kernel
theorem d4_10 : decode jdk_33_method_22_code 10 = .ok (.if_icmp .gt 13, 3) := by decide +kernel
theorem d4_13 : decode jdk_33_method_22_code 13 = .ok (.getstatic 195, 3) := by decide +kernel
theorem d4_16 : decode jdk_33_method_22_code 16 = .ok (.iload_n 0, 1) := by decide +kernel
theorem d4_17 : decode jdk_33_method_22_code 17 = .ok (.sipush 128, 3) := by decide +kernel
theorem d4_20 : decode jdk_33_method_22_code 20 = .ok (.iadd, 1) := by decide +kernel
theorem d4_21 : decode jdk_33_method_22_code 21 = .ok (.aaload, 1) := by decide +kernel
theorem d4_22 : decode jdk_33_method_22_code 22 = .ok (.areturn, 1) := by decide +kernel
theorem d4_23 : decode jdk_33_method_22_code 23 = .ok (.new 1, 3) := by decide +kernel
theorem d4_26 : decode jdk_33_method_22_code 26 = .ok (.dup, 1) := by decide +kernel
theorem d4_27 : decode jdk_33_method_22_code 27 = .ok (.iload_n 0, 1) := by decide +kernel
theorem d4_28 : decode jdk_33_method_22_code 28 = .ok (.invokespecial 199, 3) := by decide +kernel
theorem d4_31 : decode jdk_33_method_22_code 31 = .ok (.areturn, 1) := by decide +kernel
theorem pd_4 : parseMethodDescriptor "(I)V" = some ⟨[.int], none⟩ := by decide +kernel
theorem ef_4 (m : MethodId) (x0 : Int32) : entryFrame m #[(.int x0)] 1 = mkF m 0 #[.val (.int x0)] [] := by first | (simp [entryFrame, mkF, argsToLocals, Value.category]; done) | rfl
set_option maxRecDepth 65536 in
set_option maxHeartbeats 4000000 in
theorem pf4_in_0 (p0 : Int32) (ca : Addr) (cc : Cell) (vl : Int32 → Value) (hc3_1 : ¬ (p0 < (-128 : Int32))) (hc10_5 : ¬ ((127 : Int32) < p0)) : ¬ ((p0 + (128 : Int32))) < 0 ∧ ((p0 + (128 : Int32))) < 256 := by
  have k := c_iadd p0 128; have r := rng32 (p0 + 128); have r' := rng32 p0
  rw [Int32.lt_iff_toInt_lt] at hc3_1; simp only [Int32.reduceToInt] at hc3_1
  rw [Int32.lt_iff_toInt_lt] at hc10_5; simp only [Int32.reduceToInt] at hc10_5
  simp only [Int32.reduceToInt] at k
  rw [Int32.lt_iff_toInt_lt, Int32.lt_iff_toInt_lt]; simp only [Int32.reduceToInt]
  omega
def Q4 (Z : State) (p0 : Int32) (ca : Addr) (cc : Cell) (vl : Int32 → Value) (h0 : Heap) (n0 : Nat) (v : Option Value) (h : Heap) (L : List Loc) : Prop := ∃ r : Addr, v = some (.ref r) ∧ Fr n0 L ∧ Keep h0 h [] ∧ Exa Z h r "java/lang/Integer" ∧ True
set_option maxRecDepth 65536 in
set_option maxHeartbeats 40000000 in
theorem rm4 (l : Launch) (Z : State) (aw : Array Value) (hw : ∀ d ∈ tables_1, d.before aw Z = true) (ws : List Jvm.Cond) (p0 : Int32) (ca : Addr) (cc : Cell) (vl : Int32 → Value) (h0 : Heap) (n0 : Nat) (Z0 : n0 ≤ h0.size) (r0 : Sta Z Z.heap "java/lang/Integer$IntegerCache" "high" "I" (.int (127 : Int32))) (r1 : Sta Z Z.heap "java/lang/Integer$IntegerCache" "cache" "[Ljava/lang/Integer;" (.ref ca)) (r2 : Old Z n0 h0) (hB : Bxs Z ca cc "java/lang/Integer" "I" (256 : Int32) vl) :
    MetFree l (⟨"java/lang/Integer", "valueOf", "(I)Ljava/lang/Integer;"⟩ : MethodName) (head1 (Jvm.Cond.code (⟨"java/lang/Integer", "valueOf", "(I)Ljava/lang/Integer;"⟩ : MethodName) jdk_33_method_22_code 1 (some (.object "java/lang/Integer")) :: ws) ({ frames := 3, cells := 1, slots := 1, locals := 38 } : Room)) (fun a U => a = #[(.int p0)] ∧ Z.Warmed39 U.vm ∧ U.heap = h0) (fun _ _ _ _ _ => True) (fun _ U o U' => ∃ v L, o = .returned v ∧ Q4 Z p0 ca cc vl h0 n0 v U'.heap L ∧ FrameEnd U o U' L ({ frames := 3, cells := 1, slots := 1, locals := 38 } : Room).cells ({ frames := 3, cells := 1, slots := 1, locals := 38 } : Room).slots) := by
  refine MetFree.of_bodySF (plainFor_of_name pn_5) hisR ?_
  intro p e s m args below meth c s₁ Bd hml0 hP hK
  obtain ⟨rfl, hZ, hh⟩ := hP
  have hx := Bd.exec
  have hby := Bd.bytes
  have hml : c.maxLocals = 1 := hml0
  have hown : s.vm.findClass "java/lang/Integer" = some m.cls := findClass_of_methodNamed Bd.named
  have hnm := (name_of_methodNamed Bd.named Bd.method).1
  have X0 : Stand p l e ({ frames := 3, cells := 1, slots := 1, locals := 38 } : Room) s m #[(.int p0)] below meth c s₁ [] 0 0 := Stand.of_body Bd
  have e0 : s₁.heap = h0 := by rw [← hh, Bd.state]; rfl
  have N0 := Fr.nil n0
  obtain ⟨A0, hA0⟩ : ∃ A0, A0 = s₁.setTop (entryFrame m #[(.int p0)] 1) := ⟨_, rfl⟩
  have go0 : Go p e below A0 (s₁.setTop (mkF m 0 #[.val (.int p0)] [])) := fun t k => by rw [hA0]; exact castTop (ef_4 m p0) k
  have go1 : Go p e below A0 (s₁.setTop (mkF m 3 #[.val (.int p0)] [(.int (-128 : Int32)), (.int p0)])) := by
    intro t k
    refine go0 t ?_
    refine o_iloadN X0 hx hby d4_0 1 rfl rfl ?_
    refine o_bipush X0 hx hby d4_1 3 rfl (v := (-128 : Int32)) rfl ?_
    exact k
  by_cases hc3_1 : p0 < (-128 : Int32)
  · obtain ⟨T2, h2, X2, e2, E2, A2, D2, -, st2⟩ := newO X0 hx hZ hown (hw _ (List.mem_of_getElem? (i := 28) rfl)) (hw _ (List.mem_of_getElem? (i := 29) rfl)) (hw _ (List.mem_of_getElem? (i := 26) rfl)) e0 (g := (mkF m 23 #[.val (.int p0)] [])) rfl (hb hby d4_23) (by decide) (by decide)
    obtain ⟨b2, g2⟩ : ∃ z, z = h0.size := ⟨_, rfl⟩
    rw [← g2] at A2 D2 st2
    have g_b2 : n0 ≤ b2 := Nat.le_trans Z0 (Nat.le_of_eq g2.symm)
    have sz_b2 : h0.size ≤ b2 := Nat.le_trans (Keep.refl h0 []).1 (Nat.le_of_eq g2.symm)
    have f1 : Old Z n0 h2 := r2.ext E2
    have Zp2 : n0 ≤ h2.size := Nat.le_trans Z0 E2.1
    have K2 : Keep h0 h2 [] := (Keep.refl h0 []).ext E2
    have f2 : Exa Z h2 b2 "java/lang/Integer" := A2
    have f3 : Fld Z h2 b2 "java/lang/Integer" "value" "I" (.int (0 : Int32)) := D2 (Or.inr (hw _ (List.mem_of_getElem? (i := 42) rfl))) (ty := .int) (by decide)
    have go2 : Go p e below A0 (T2.setTop (mkF m 28 #[.val (.int p0)] [(.int p0), (.ref b2), (.ref b2)])) := by
      intro t k
      refine go1 t ?_
      refine o_icmpY X0 hx hby d4_3 23 rfl (tlt hc3_1).1 ?_
      refine st2 _ ?_
      show Steps p.tables e below (T2.setTop (mkF m 26 #[.val (.int p0)] [(.ref b2)])) _
      refine o_dup X2 hx hby d4_26 27 rfl rfl ?_
      refine o_iloadN X2 hx hby d4_27 28 rfl rfl ?_
      exact k
    obtain ⟨_, _, ⟨T3, L3, k3, n3⟩, -, X3, ⟨Lc3, hQ3, l3, y3, z3⟩, st3⟩ := X2.specialBack hx (y := (⟨"java/lang/Integer", "<init>", "(I)V"⟩ : MethodName)) rfl hown (mvT hZ (hw _ (List.mem_of_getElem? (i := 30) rfl))) (mvT hZ (hw _ (List.mem_of_getElem? (i := 31) rfl))) (mvT hZ (hw _ (List.mem_of_getElem? (i := 33) rfl))) (by decide) (backOf (W := 1) (rm5 l Z aw hw [] b2 p0 h2 n0 Zp2 (f2) (g_b2) (f3)) hZ (hw _ (List.mem_of_getElem? (i := 33) rfl)) (hw _ (List.mem_of_getElem? (i := 26) rfl)) (by decide) (by decide)) (g := (mkF m 28 #[.val (.int p0)] [(.int p0), (.ref b2), (.ref b2)])) rfl (by rw [hml]; rfl) (Steps.refl _) (a := b2) (argsL := [(.int p0)]) (rest := [(.ref b2)]) (lenOf pd_4 rfl) rfl (by show 2 * 0 + _ ≤ _; exact Nat.le_of_eq rfl) (hb hby d4_28) (fun _ _ => ⟨rfl, e2, (by decide : 1 + 0 ≤ _), (by decide : 1 + 0 ≤ _)⟩)
    dsimp only [Pt.U, Pt.locs, Pt.cells, Pt.slots] at X3 l3 y3 z3 st3 hQ3
    subst l3 y3 z3
    obtain ⟨rfl, N3q, K3q, qf3_0, -⟩ := hQ3
    have f4 : Old Z n0 T3.heap := f1.keep K3q (allS g_b2 all0)
    have f5 : Exa Z T3.heap b2 "java/lang/Integer" := f2.keep K3q
    have Zp3 : n0 ≤ T3.heap.size := Nat.le_trans Zp2 K3q.1
    have K3 : Keep h0 T3.heap [] := Keep.trans K2 K3q (allS (P := fun x => x ∈ ([] : List Addr) ∨ h0.size ≤ x) (Or.inr sz_b2) all0)
    have f6 : Fld Z T3.heap b2 "java/lang/Integer" "value" "I" (.int p0) := qf3_0
    have N3 := Fr.app N0 N3q
    have go3 : Go p e below A0 (T3.setTop (mkF m 31 #[.val (.int p0)] [(.ref b2)])) := by
      intro t k
      refine go2 t ?_
      refine st3.trans ?_
      show Steps p.tables e below (T3.setTop (mkF m 31 #[.val (.int p0)] [(.ref b2)])) _
      exact k
    subst hA0
    obtain ⟨fs, hr, hrun, hended, hW, hsame⟩ := X3.leave (v := some (.ref b2)) (fun h => by rw [Bd.returns] at h; cases h)
    refine ⟨_, _, go3 _ (o_retR X3 hx Bd.returns rfl (hb hby d4_31) rfl rfl hr), hrun, hended, _, _, rfl, ?_, ⟨_, rfl⟩, hW, hsame.mono (by decide) (by decide)⟩
    show Q4 Z p0 ca cc vl h0 n0 _ T3.heap _
    exact ⟨b2, rfl, N3, K3, f5, trivial⟩
  · obtain ⟨T4, X4, e4, st4⟩ := getS2 X0 hx hZ hown (host := "") (Or.inl (hw _ (List.mem_of_getElem? (i := 46) rfl))) Via.refl e0 (r0.ext r2.2) (g := (mkF m 7 #[.val (.int p0)] [(.int p0)])) rfl (hb hby d4_7)
    have go4 : Go p e below A0 (T4.setTop (mkF m 10 #[.val (.int p0)] [(.int (127 : Int32)), (.int p0)])) := by
      intro t k
      refine go1 t ?_
      refine o_icmpN X0 hx hby d4_3 6 rfl (flt hc3_1).1 ?_
      refine o_iloadN X0 hx hby d4_6 7 rfl rfl ?_
      refine st4 _ ?_
      show Steps p.tables e below (T4.setTop (mkF m 10 #[.val (.int p0)] [(.int (127 : Int32)), (.int p0)])) _
      exact k
    by_cases hc10_5 : (127 : Int32) < p0
    · obtain ⟨T6, h6, X6, e6, E6, A6, D6, -, st6⟩ := newO X4 hx hZ hown (hw _ (List.mem_of_getElem? (i := 28) rfl)) (hw _ (List.mem_of_getElem? (i := 29) rfl)) (hw _ (List.mem_of_getElem? (i := 26) rfl)) e4 (g := (mkF m 23 #[.val (.int p0)] [])) rfl (hb hby d4_23) (by decide) (by decide)
      obtain ⟨b6, g6⟩ : ∃ z, z = h0.size := ⟨_, rfl⟩
      rw [← g6] at A6 D6 st6
      have g_b6 : n0 ≤ b6 := Nat.le_trans Z0 (Nat.le_of_eq g6.symm)
      have sz_b6 : h0.size ≤ b6 := Nat.le_trans (Keep.refl h0 []).1 (Nat.le_of_eq g6.symm)
      have f7 : Old Z n0 h6 := r2.ext E6
      have Zp6 : n0 ≤ h6.size := Nat.le_trans Z0 E6.1
      have K6 : Keep h0 h6 [] := (Keep.refl h0 []).ext E6
      have f8 : Exa Z h6 b6 "java/lang/Integer" := A6
      have f9 : Fld Z h6 b6 "java/lang/Integer" "value" "I" (.int (0 : Int32)) := D6 (Or.inr (hw _ (List.mem_of_getElem? (i := 42) rfl))) (ty := .int) (by decide)
      have go5 : Go p e below A0 (T6.setTop (mkF m 28 #[.val (.int p0)] [(.int p0), (.ref b6), (.ref b6)])) := by
        intro t k
        refine go4 t ?_
        refine o_icmpY X4 hx hby d4_10 23 rfl (tlt hc10_5).2.2.1 ?_
        refine st6 _ ?_
        show Steps p.tables e below (T6.setTop (mkF m 26 #[.val (.int p0)] [(.ref b6)])) _
        refine o_dup X6 hx hby d4_26 27 rfl rfl ?_
        refine o_iloadN X6 hx hby d4_27 28 rfl rfl ?_
        exact k
      obtain ⟨_, _, ⟨T7, L7, k7, n7⟩, -, X7, ⟨Lc7, hQ7, l7, y7, z7⟩, st7⟩ := X6.specialBack hx (y := (⟨"java/lang/Integer", "<init>", "(I)V"⟩ : MethodName)) rfl hown (mvT hZ (hw _ (List.mem_of_getElem? (i := 30) rfl))) (mvT hZ (hw _ (List.mem_of_getElem? (i := 31) rfl))) (mvT hZ (hw _ (List.mem_of_getElem? (i := 33) rfl))) (by decide) (backOf (W := 1) (rm5 l Z aw hw [] b6 p0 h6 n0 Zp6 (f8) (g_b6) (f9)) hZ (hw _ (List.mem_of_getElem? (i := 33) rfl)) (hw _ (List.mem_of_getElem? (i := 26) rfl)) (by decide) (by decide)) (g := (mkF m 28 #[.val (.int p0)] [(.int p0), (.ref b6), (.ref b6)])) rfl (by rw [hml]; rfl) (Steps.refl _) (a := b6) (argsL := [(.int p0)]) (rest := [(.ref b6)]) (lenOf pd_4 rfl) rfl (by show 2 * 0 + _ ≤ _; exact Nat.le_of_eq rfl) (hb hby d4_28) (fun _ _ => ⟨rfl, e6, (by decide : 1 + 0 ≤ _), (by decide : 1 + 0 ≤ _)⟩)
      dsimp only [Pt.U, Pt.locs, Pt.cells, Pt.slots] at X7 l7 y7 z7 st7 hQ7
      subst l7 y7 z7
      obtain ⟨rfl, N7q, K7q, qf7_0, -⟩ := hQ7
      have f10 : Old Z n0 T7.heap := f7.keep K7q (allS g_b6 all0)
      have f11 : Exa Z T7.heap b6 "java/lang/Integer" := f8.keep K7q
      have Zp7 : n0 ≤ T7.heap.size := Nat.le_trans Zp6 K7q.1
      have K7 : Keep h0 T7.heap [] := Keep.trans K6 K7q (allS (P := fun x => x ∈ ([] : List Addr) ∨ h0.size ≤ x) (Or.inr sz_b6) all0)
      have f12 : Fld Z T7.heap b6 "java/lang/Integer" "value" "I" (.int p0) := qf7_0
      have N7 := Fr.app N0 N7q
      have go6 : Go p e below A0 (T7.setTop (mkF m 31 #[.val (.int p0)] [(.ref b6)])) := by
        intro t k
        refine go5 t ?_
        refine st7.trans ?_
        show Steps p.tables e below (T7.setTop (mkF m 31 #[.val (.int p0)] [(.ref b6)])) _
        exact k
      subst hA0
      obtain ⟨fs, hr, hrun, hended, hW, hsame⟩ := X7.leave (v := some (.ref b6)) (fun h => by rw [Bd.returns] at h; cases h)
      refine ⟨_, _, go6 _ (o_retR X7 hx Bd.returns rfl (hb hby d4_31) rfl rfl hr), hrun, hended, _, _, rfl, ?_, ⟨_, rfl⟩, hW, hsame.mono (by decide) (by decide)⟩
      show Q4 Z p0 ca cc vl h0 n0 _ T7.heap _
      exact ⟨b6, rfl, N7, K7, f11, trivial⟩
    · obtain ⟨T8, X8, e8, st8⟩ := getS2 X4 hx hZ hown (host := "") (Or.inl (hw _ (List.mem_of_getElem? (i := 48) rfl))) Via.refl e4 (r1.ext r2.2) (g := (mkF m 13 #[.val (.int p0)] [])) rfl (hb hby d4_13)
      obtain ⟨Ar9, S9, M9⟩ := hB.ext r2.2
      have go7 : Go p e below A0 (T8.setTop (mkF m 21 #[.val (.int p0)] [(.int (p0 + (128 : Int32))), (.ref ca)])) := by
        intro t k
        refine go4 t ?_
        refine o_icmpN X4 hx hby d4_10 13 rfl (flt hc10_5).2.2.1 ?_
        refine st8 _ ?_
        show Steps p.tables e below (T8.setTop (mkF m 16 #[.val (.int p0)] [(.ref ca)])) _
        refine o_iloadN X8 hx hby d4_16 17 rfl rfl ?_
        refine o_sipush X8 hx hby d4_17 20 rfl (v := (128 : Int32)) rfl ?_
        refine o_iadd X8 hx hby d4_20 21 rfl ?_
        exact k
      have f_in_1 : ¬ ((p0 + (128 : Int32))) < 0 ∧ ((p0 + (128 : Int32))) < 256 := pf4_in_0 p0 ca cc vl hc3_1 hc10_5
      have hin9 : ¬ ((p0 + (128 : Int32)) < 0 ∨ cc.slots.size ≤ ((p0 + (128 : Int32))).toNatClampNeg) := inb_of S9 f_in_1
      obtain ⟨bx9, hat9, xa9, -⟩ := hB.2.2.2 _ hin9
      have f13 : Exa Z h0 bx9 "java/lang/Integer" := xa9.ext r2.2
      have go8 : Go p e below A0 (T8.setTop (mkF m 22 #[.val (.int p0)] [(.ref bx9)])) := by
        intro t k
        refine go7 t ?_
        refine X8.aaload hx (j := (p0 + (128 : Int32))) (v := (.ref bx9)) (by rw [e8]; exact Ar9.1) (State.isArrayOf_alike hZ.alike Ar9.2.1) rfl Ar9.2.2 hin9 hat9 (g := (mkF m 21 #[.val (.int p0)] [(.int (p0 + (128 : Int32))), (.ref ca)])) rfl rfl (hb hby d4_21) _ ?_
        show Steps p.tables e below (T8.setTop (mkF m 22 #[.val (.int p0)] [(.ref bx9)])) _
        exact k
      subst hA0
      obtain ⟨fs, hr, hrun, hended, hW, hsame⟩ := X8.leave (v := some (.ref bx9)) (fun h => by rw [Bd.returns] at h; cases h)
      refine ⟨_, _, go8 _ (o_retR X8 hx Bd.returns rfl (hb hby d4_22) rfl rfl hr), hrun, hended, _, _, rfl, ?_, ⟨_, rfl⟩, hW, hsame.mono (by decide) (by decide)⟩
      show Q4 Z p0 ca cc vl h0 n0 _ T8.heap _
      rw [e8]
      exact ⟨bx9, rfl, N0, (Keep.refl h0 []), f13, trivial⟩
theorem pn_0 : plainName "com/example/calchas/calchas/check/StandingEqualsPinLaw" = true := by first | (simp [plainName, overriddenIn]; done) | decide +kernel
theorem pd_6 : parseMethodDescriptor "(I[J[Z)V" = some ⟨[.int, (.array .long), (.array .boolean)], none⟩ := by decide +kernel
theorem pd_7 : parseMethodDescriptor "(I)Ljava/lang/Integer;" = some ⟨[.int], some (.object "java/lang/Integer")⟩ := by decide +kernel
theorem pd_8 : parseMethodDescriptor "(Ljava/lang/Object;)Z" = some ⟨[(.object "java/lang/Object")], some .boolean⟩ := by decide +kernel
theorem ef_0 (m : MethodId) (x0 : Int32) (x1 : Int32) (x2 : Int64) (x3 : Int64) (x4 : Int64) (x5 : Int64) : entryFrame m #[(.int x0), (.int x1), (.long x2), (.long x3), (.long x4), (.long x5)] maxLocals = mkF m 0 #[.val (.int x0), .val (.int x1), .val (.long x2), .second, .val (.long x3), .second, .val (.long x4), .second, .val (.long x5), .second, .unset, .unset, .unset, .unset, .unset, .unset, .unset, .unset, .unset, .unset, .unset, .unset, .unset, .unset, .unset] [] := by first | (simp [entryFrame, mkF, argsToLocals, Value.category, maxLocals]; done) | rfl
set_option maxRecDepth 65536 in
set_option maxHeartbeats 4000000 in
theorem pl_0_0 (p0 : Int32) (p1 : Int32) (q2 : Int64) (q3 : Int64) (q4 : Int64) (q5 : Int64) (ca : Addr) (cc : Cell) (vl : Int32 → Value) (v1 : Int32) (v2 : Int32) (v3 : Int32) (v4 : Int64) (v5 : Int64) (v6 : Int32) (v14 : Int32) (v15 : Int32) (hv1 : v1 = (if (p1 &&& (1 : Int32)) = (0 : Int32) then (0 : Int32) else (1 : Int32))) (hv2 : v2 = (if (p1 &&& (2 : Int32)) = (0 : Int32) then (0 : Int32) else (1 : Int32))) (hv3 : v3 = (if (p1 &&& (4 : Int32)) = (0 : Int32) then p1 else p0)) (hv4 : v4 = (if (p1 &&& (8 : Int32)) = (0 : Int32) then q4 else q2)) (hv5 : v5 = (if (p1 &&& (16 : Int32)) = (0 : Int32) then q5 else q3)) (hv6 : v6 = (((p1.toUInt32 >>> ((5 : Int32) &&& 31).toUInt32).toInt32) &&& (3 : Int32))) (hv14 : v14 = (if v6 < (2 : Int32) then (if p0 = v3 then (if v1 = (0 : Int32) then (if v2 = (0 : Int32) then (1 : Int32) else (if q3 = v5 then (1 : Int32) else (0 : Int32))) else (if q2 = v4 then (if v2 = (0 : Int32) then (1 : Int32) else (if q3 = v5 then (1 : Int32) else (0 : Int32))) else (0 : Int32))) else (0 : Int32)) else (0 : Int32))) (hv15 : v15 = (if (0 : Int32) = v14 then (1 : Int32) else (0 : Int32))) (hc153_20 : v6 = (2 : Int32)) : v15 = (1 : Int32) := by
  rw [hc153_20, if_neg (by decide)] at hv14
  rw [hv15, hv14]; decide
set_option maxRecDepth 65536 in
set_option maxHeartbeats 4000000 in
theorem pl_0_1 (p0 : Int32) (p1 : Int32) (q2 : Int64) (q3 : Int64) (q4 : Int64) (q5 : Int64) (ca : Addr) (cc : Cell) (vl : Int32 → Value) (v1 : Int32) (v2 : Int32) (v3 : Int32) (v4 : Int64) (v5 : Int64) (v6 : Int32) (v23 : Int32) (v24 : Int32) (hv1 : v1 = (if (p1 &&& (1 : Int32)) = (0 : Int32) then (0 : Int32) else (1 : Int32))) (hv2 : v2 = (if (p1 &&& (2 : Int32)) = (0 : Int32) then (0 : Int32) else (1 : Int32))) (hv3 : v3 = (if (p1 &&& (4 : Int32)) = (0 : Int32) then p1 else p0)) (hv4 : v4 = (if (p1 &&& (8 : Int32)) = (0 : Int32) then q4 else q2)) (hv5 : v5 = (if (p1 &&& (16 : Int32)) = (0 : Int32) then q5 else q3)) (hv6 : v6 = (((p1.toUInt32 >>> ((5 : Int32) &&& 31).toUInt32).toInt32) &&& (3 : Int32))) (hv23 : v23 = (if v6 < (2 : Int32) then (if p0 = v3 then (if v1 = (0 : Int32) then (if v2 = (0 : Int32) then (1 : Int32) else (if q3 = v5 then (1 : Int32) else (0 : Int32))) else (if q2 = v4 then (if v2 = (0 : Int32) then (1 : Int32) else (if q3 = v5 then (1 : Int32) else (0 : Int32))) else (0 : Int32))) else (0 : Int32)) else (0 : Int32))) (hv24 : v24 = (if (0 : Int32) = v23 then (1 : Int32) else (0 : Int32))) (hc153_20 : ¬ (v6 = (2 : Int32))) (hc168_32 : v6 = (3 : Int32)) : v24 = (1 : Int32) := by
  rw [hc168_32, if_neg (by decide)] at hv23
  rw [hv24, hv23]; decide
set_option maxRecDepth 65536 in
set_option maxHeartbeats 4000000 in
theorem pl_0_2 (p0 : Int32) (p1 : Int32) (q2 : Int64) (q3 : Int64) (q4 : Int64) (q5 : Int64) (ca : Addr) (cc : Cell) (vl : Int32 → Value) (v1 : Int32) (v2 : Int32) (v3 : Int32) (v4 : Int64) (v5 : Int64) (v6 : Int32) (v32 : Int32) (v33 : Int32) (v34 : Int32) (hv1 : v1 = (if (p1 &&& (1 : Int32)) = (0 : Int32) then (0 : Int32) else (1 : Int32))) (hv2 : v2 = (if (p1 &&& (2 : Int32)) = (0 : Int32) then (0 : Int32) else (1 : Int32))) (hv3 : v3 = (if (p1 &&& (4 : Int32)) = (0 : Int32) then p1 else p0)) (hv4 : v4 = (if (p1 &&& (8 : Int32)) = (0 : Int32) then q4 else q2)) (hv5 : v5 = (if (p1 &&& (16 : Int32)) = (0 : Int32) then q5 else q3)) (hv6 : v6 = (((p1.toUInt32 >>> ((5 : Int32) &&& 31).toUInt32).toInt32) &&& (3 : Int32))) (hv32 : v32 = (if v6 < (2 : Int32) then (if p0 = v3 then (if v1 = (0 : Int32) then (if v2 = (0 : Int32) then (1 : Int32) else (if q3 = v5 then (1 : Int32) else (0 : Int32))) else (if q2 = v4 then (if v2 = (0 : Int32) then (1 : Int32) else (if q3 = v5 then (1 : Int32) else (0 : Int32))) else (0 : Int32))) else (0 : Int32)) else (0 : Int32))) (hv33 : v33 = (Feq p0 v3 (nar .boolean v1) (nar .boolean v2) q2 q3 v4 v5)) (hv34 : v34 = (if v33 = v32 then (1 : Int32) else (0 : Int32))) (hc153_20 : ¬ (v6 = (2 : Int32))) (hc168_32 : ¬ (v6 = (3 : Int32))) : v34 = (1 : Int32) := by
  have e6 : v6 < 2 := by
    have m : v6.toInt = ((p1.toUInt32 >>> ((5 : Int32) &&& 31).toUInt32).toInt32).toInt % 4 := by rw [hv6]; exact c_mask _ _ 2 (by decide) (by decide)
    rw [← Int32.toInt_inj] at hc153_20 hc168_32; simp only [Int32.reduceToInt] at hc153_20 hc168_32
    rw [Int32.lt_iff_toInt_lt]; simp only [Int32.reduceToInt]; omega
  have n1 : nar .boolean v1 = v1 := by rw [hv1]; split <;> decide
  have n2 : nar .boolean v2 = v2 := by rw [hv2]; split <;> decide
  have key : v33 = v32 := by
    rw [hv33, hv32, if_pos e6, n1, n2]
    have h1 : (p0 = v3) = (v3 = p0) := propext eq_comm
    have h2 : (q3 = v5) = (v5 = q3) := propext eq_comm
    have h3 : (q2 = v4) = (v4 = q2) := propext eq_comm
    simp only [h1, h2, h3]; rfl
  rw [hv34, if_pos key]
def Q0 (Z : State) (p0 : Int32) (p1 : Int32) (q2 : Int64) (q3 : Int64) (q4 : Int64) (q5 : Int64) (ca : Addr) (cc : Cell) (vl : Int32 → Value) (h0 : Heap) (n0 : Nat) (v : Option Value) (h : Heap) (L : List Loc) : Prop := v = some (.int 1) ∧ Fr n0 L
set_option maxRecDepth 65536 in
set_option maxHeartbeats 40000000 in
theorem rm0 (l : Launch) (Z : State) (aw : Array Value) (hw : ∀ d ∈ tables_1, d.before aw Z = true) (ws : List Jvm.Cond) (p0 : Int32) (p1 : Int32) (q2 : Int64) (q3 : Int64) (q4 : Int64) (q5 : Int64) (ca : Addr) (cc : Cell) (vl : Int32 → Value) (h0 : Heap) (n0 : Nat) (Z0 : n0 ≤ h0.size) (r0 : Sta Z Z.heap "java/lang/Integer$IntegerCache" "high" "I" (.int (127 : Int32))) (r1 : Sta Z Z.heap "java/lang/Integer$IntegerCache" "cache" "[Ljava/lang/Integer;" (.ref ca)) (r2 : Old Z n0 h0) (hB : Bxs Z ca cc "java/lang/Integer" "I" (256 : Int32) vl) :
    MetFree l x (head1 (Jvm.Cond.code x code maxLocals ret :: ws) room_1) (fun a U => a = #[(.int p0), (.int p1), (.long q2), (.long q3), (.long q4), (.long q5)] ∧ Z.Warmed39 U.vm ∧ U.heap = h0) (fun _ _ _ _ _ => True) (fun _ U o U' => ∃ v L, o = .returned v ∧ Q0 Z p0 p1 q2 q3 q4 q5 ca cc vl h0 n0 v U'.heap L ∧ FrameEnd U o U' L room_1.cells room_1.slots) := by
  refine MetFree.of_bodySF (plainFor_of_name pn_0) hisR ?_
  intro p e s m args below meth c s₁ Bd hml0 hP hK
  obtain ⟨rfl, hZ, hh⟩ := hP
  have hx := Bd.exec
  have hby := Bd.bytes
  have hml : c.maxLocals = 25 := hml0
  have hown : s.vm.findClass "com/example/calchas/calchas/check/StandingEqualsPinLaw" = some m.cls := findClass_of_methodNamed Bd.named
  have hnm := (name_of_methodNamed Bd.named Bd.method).1
  have X0 : Stand p l e room_1 s m #[(.int p0), (.int p1), (.long q2), (.long q3), (.long q4), (.long q5)] below meth c s₁ [] 0 0 := Stand.of_body Bd
  have e0 : s₁.heap = h0 := by rw [← hh, Bd.state]; rfl
  have N0 := Fr.nil n0
  obtain ⟨A0, hA0⟩ : ∃ A0, A0 = s₁.setTop (entryFrame m #[(.int p0), (.int p1), (.long q2), (.long q3), (.long q4), (.long q5)] maxLocals) := ⟨_, rfl⟩
  have go0 : Go p e below A0 (s₁.setTop (mkF m 0 #[.val (.int p0), .val (.int p1), .val (.long q2), .second, .val (.long q3), .second, .val (.long q4), .second, .val (.long q5), .second, .unset, .unset, .unset, .unset, .unset, .unset, .unset, .unset, .unset, .unset, .unset, .unset, .unset, .unset, .unset] [])) := fun t k => by rw [hA0]; exact castTop (ef_0 m p0 p1 q2 q3 q4 q5) k
  have go1 : Go p e below A0 (s₁.setTop (mkF m 3 #[.val (.int p0), .val (.int p1), .val (.long q2), .second, .val (.long q3), .second, .val (.long q4), .second, .val (.long q5), .second, .unset, .unset, .unset, .unset, .unset, .unset, .unset, .unset, .unset, .unset, .unset, .unset, .unset, .unset, .unset] [(.int (p1 &&& (1 : Int32)))])) := by
    intro t k
    refine go0 t ?_
    refine o_iloadN X0 hx hby at_0 1 rfl rfl ?_
    refine o_iconst X0 hx hby at_1 2 rfl (v := (1 : Int32)) rfl ?_
    refine o_iand X0 hx hby at_2 3 rfl ?_
    exact k
  obtain ⟨v1, hv1, go4⟩ : ∃ (v1 : Int32), v1 = (if (p1 &&& (1 : Int32)) = (0 : Int32) then (0 : Int32) else (1 : Int32)) ∧ Go p e below A0 (s₁.setTop (mkF m 11 #[.val (.int p0), .val (.int p1), .val (.long q2), .second, .val (.long q3), .second, .val (.long q4), .second, .val (.long q5), .second, .unset, .unset, .unset, .unset, .unset, .unset, .unset, .unset, .unset, .unset, .unset, .unset, .unset, .unset, .unset] [(.int v1)])) := by
    by_cases hc3_1 : (p1 &&& (1 : Int32)) = (0 : Int32)
    · have go2 : Go p e below A0 (s₁.setTop (mkF m 11 #[.val (.int p0), .val (.int p1), .val (.long q2), .second, .val (.long q3), .second, .val (.long q4), .second, .val (.long q5), .second, .unset, .unset, .unset, .unset, .unset, .unset, .unset, .unset, .unset, .unset, .unset, .unset, .unset, .unset, .unset] [(.int (0 : Int32))])) := by
        intro t k
        refine go1 t ?_
        refine o_ifY X0 hx hby at_3 10 rfl (teq hc3_1).1 ?_
        refine o_iconst X0 hx hby at_10 11 rfl (v := (0 : Int32)) rfl ?_
        exact k
      exact ⟨(0 : Int32), (if_pos hc3_1).symm, go2⟩
    · have go3 : Go p e below A0 (s₁.setTop (mkF m 11 #[.val (.int p0), .val (.int p1), .val (.long q2), .second, .val (.long q3), .second, .val (.long q4), .second, .val (.long q5), .second, .unset, .unset, .unset, .unset, .unset, .unset, .unset, .unset, .unset, .unset, .unset, .unset, .unset, .unset, .unset] [(.int (1 : Int32))])) := by
        intro t k
        refine go1 t ?_
        refine o_ifN X0 hx hby at_3 6 rfl (feq hc3_1).1 ?_
        refine o_iconst X0 hx hby at_6 7 rfl (v := (1 : Int32)) rfl ?_
        refine o_goto X0 hx hby at_7 11 rfl ?_
        exact k
      exact ⟨(1 : Int32), (if_neg hc3_1).symm, go3⟩
  have go5 : Go p e below A0 (s₁.setTop (mkF m 13 #[.val (.int p0), .val (.int p1), .val (.long q2), .second, .val (.long q3), .second, .val (.long q4), .second, .val (.long q5), .second, .val (.int v1), .unset, .unset, .unset, .unset, .unset, .unset, .unset, .unset, .unset, .unset, .unset, .unset, .unset, .unset] [])) := by
    intro t k
    refine go4 t ?_
    refine o_istore X0 hx hby at_11 13 rfl (l' := #[.val (.int p0), .val (.int p1), .val (.long q2), .second, .val (.long q3), .second, .val (.long q4), .second, .val (.long q5), .second, .val (.int v1), .unset, .unset, .unset, .unset, .unset, .unset, .unset, .unset, .unset, .unset, .unset, .unset, .unset, .unset]) rfl ?_
    exact k
  have go6 : Go p e below A0 (s₁.setTop (mkF m 16 #[.val (.int p0), .val (.int p1), .val (.long q2), .second, .val (.long q3), .second, .val (.long q4), .second, .val (.long q5), .second, .val (.int v1), .unset, .unset, .unset, .unset, .unset, .unset, .unset, .unset, .unset, .unset, .unset, .unset, .unset, .unset] [(.int (p1 &&& (2 : Int32)))])) := by
    intro t k
    refine go5 t ?_
    refine o_iloadN X0 hx hby at_13 14 rfl rfl ?_
    refine o_iconst X0 hx hby at_14 15 rfl (v := (2 : Int32)) rfl ?_
    refine o_iand X0 hx hby at_15 16 rfl ?_
    exact k
  obtain ⟨v2, hv2, go9⟩ : ∃ (v2 : Int32), v2 = (if (p1 &&& (2 : Int32)) = (0 : Int32) then (0 : Int32) else (1 : Int32)) ∧ Go p e below A0 (s₁.setTop (mkF m 24 #[.val (.int p0), .val (.int p1), .val (.long q2), .second, .val (.long q3), .second, .val (.long q4), .second, .val (.long q5), .second, .val (.int v1), .unset, .unset, .unset, .unset, .unset, .unset, .unset, .unset, .unset, .unset, .unset, .unset, .unset, .unset] [(.int v2)])) := by
    by_cases hc16_2 : (p1 &&& (2 : Int32)) = (0 : Int32)
    · have go7 : Go p e below A0 (s₁.setTop (mkF m 24 #[.val (.int p0), .val (.int p1), .val (.long q2), .second, .val (.long q3), .second, .val (.long q4), .second, .val (.long q5), .second, .val (.int v1), .unset, .unset, .unset, .unset, .unset, .unset, .unset, .unset, .unset, .unset, .unset, .unset, .unset, .unset] [(.int (0 : Int32))])) := by
        intro t k
        refine go6 t ?_
        refine o_ifY X0 hx hby at_16 23 rfl (teq hc16_2).1 ?_
        refine o_iconst X0 hx hby at_23 24 rfl (v := (0 : Int32)) rfl ?_
        exact k
      exact ⟨(0 : Int32), (if_pos hc16_2).symm, go7⟩
    · have go8 : Go p e below A0 (s₁.setTop (mkF m 24 #[.val (.int p0), .val (.int p1), .val (.long q2), .second, .val (.long q3), .second, .val (.long q4), .second, .val (.long q5), .second, .val (.int v1), .unset, .unset, .unset, .unset, .unset, .unset, .unset, .unset, .unset, .unset, .unset, .unset, .unset, .unset] [(.int (1 : Int32))])) := by
        intro t k
        refine go6 t ?_
        refine o_ifN X0 hx hby at_16 19 rfl (feq hc16_2).1 ?_
        refine o_iconst X0 hx hby at_19 20 rfl (v := (1 : Int32)) rfl ?_
        refine o_goto X0 hx hby at_20 24 rfl ?_
        exact k
      exact ⟨(1 : Int32), (if_neg hc16_2).symm, go8⟩
  have go10 : Go p e below A0 (s₁.setTop (mkF m 26 #[.val (.int p0), .val (.int p1), .val (.long q2), .second, .val (.long q3), .second, .val (.long q4), .second, .val (.long q5), .second, .val (.int v1), .val (.int v2), .unset, .unset, .unset, .unset, .unset, .unset, .unset, .unset, .unset, .unset, .unset, .unset, .unset] [])) := by
    intro t k
    refine go9 t ?_
    refine o_istore X0 hx hby at_24 26 rfl (l' := #[.val (.int p0), .val (.int p1), .val (.long q2), .second, .val (.long q3), .second, .val (.long q4), .second, .val (.long q5), .second, .val (.int v1), .val (.int v2), .unset, .unset, .unset, .unset, .unset, .unset, .unset, .unset, .unset, .unset, .unset, .unset, .unset]) rfl ?_
    exact k
  have go11 : Go p e below A0 (s₁.setTop (mkF m 29 #[.val (.int p0), .val (.int p1), .val (.long q2), .second, .val (.long q3), .second, .val (.long q4), .second, .val (.long q5), .second, .val (.int v1), .val (.int v2), .unset, .unset, .unset, .unset, .unset, .unset, .unset, .unset, .unset, .unset, .unset, .unset, .unset] [(.int (p1 &&& (4 : Int32)))])) := by
    intro t k
    refine go10 t ?_
    refine o_iloadN X0 hx hby at_26 27 rfl rfl ?_
    refine o_iconst X0 hx hby at_27 28 rfl (v := (4 : Int32)) rfl ?_
    refine o_iand X0 hx hby at_28 29 rfl ?_
    exact k
  obtain ⟨v3, hv3, go14⟩ : ∃ (v3 : Int32), v3 = (if (p1 &&& (4 : Int32)) = (0 : Int32) then p1 else p0) ∧ Go p e below A0 (s₁.setTop (mkF m 37 #[.val (.int p0), .val (.int p1), .val (.long q2), .second, .val (.long q3), .second, .val (.long q4), .second, .val (.long q5), .second, .val (.int v1), .val (.int v2), .unset, .unset, .unset, .unset, .unset, .unset, .unset, .unset, .unset, .unset, .unset, .unset, .unset] [(.int v3)])) := by
    by_cases hc29_3 : (p1 &&& (4 : Int32)) = (0 : Int32)
    · have go12 : Go p e below A0 (s₁.setTop (mkF m 37 #[.val (.int p0), .val (.int p1), .val (.long q2), .second, .val (.long q3), .second, .val (.long q4), .second, .val (.long q5), .second, .val (.int v1), .val (.int v2), .unset, .unset, .unset, .unset, .unset, .unset, .unset, .unset, .unset, .unset, .unset, .unset, .unset] [(.int p1)])) := by
        intro t k
        refine go11 t ?_
        refine o_ifY X0 hx hby at_29 36 rfl (teq hc29_3).1 ?_
        refine o_iloadN X0 hx hby at_36 37 rfl rfl ?_
        exact k
      exact ⟨p1, (if_pos hc29_3).symm, go12⟩
    · have go13 : Go p e below A0 (s₁.setTop (mkF m 37 #[.val (.int p0), .val (.int p1), .val (.long q2), .second, .val (.long q3), .second, .val (.long q4), .second, .val (.long q5), .second, .val (.int v1), .val (.int v2), .unset, .unset, .unset, .unset, .unset, .unset, .unset, .unset, .unset, .unset, .unset, .unset, .unset] [(.int p0)])) := by
        intro t k
        refine go11 t ?_
        refine o_ifN X0 hx hby at_29 32 rfl (feq hc29_3).1 ?_
        refine o_iloadN X0 hx hby at_32 33 rfl rfl ?_
        refine o_goto X0 hx hby at_33 37 rfl ?_
        exact k
      exact ⟨p0, (if_neg hc29_3).symm, go13⟩
  have go15 : Go p e below A0 (s₁.setTop (mkF m 39 #[.val (.int p0), .val (.int p1), .val (.long q2), .second, .val (.long q3), .second, .val (.long q4), .second, .val (.long q5), .second, .val (.int v1), .val (.int v2), .val (.int v3), .unset, .unset, .unset, .unset, .unset, .unset, .unset, .unset, .unset, .unset, .unset, .unset] [])) := by
    intro t k
    refine go14 t ?_
    refine o_istore X0 hx hby at_37 39 rfl (l' := #[.val (.int p0), .val (.int p1), .val (.long q2), .second, .val (.long q3), .second, .val (.long q4), .second, .val (.long q5), .second, .val (.int v1), .val (.int v2), .val (.int v3), .unset, .unset, .unset, .unset, .unset, .unset, .unset, .unset, .unset, .unset, .unset, .unset]) rfl ?_
    exact k
  have go16 : Go p e below A0 (s₁.setTop (mkF m 43 #[.val (.int p0), .val (.int p1), .val (.long q2), .second, .val (.long q3), .second, .val (.long q4), .second, .val (.long q5), .second, .val (.int v1), .val (.int v2), .val (.int v3), .unset, .unset, .unset, .unset, .unset, .unset, .unset, .unset, .unset, .unset, .unset, .unset] [(.int (p1 &&& (8 : Int32)))])) := by
    intro t k
    refine go15 t ?_
    refine o_iloadN X0 hx hby at_39 40 rfl rfl ?_
    refine o_bipush X0 hx hby at_40 42 rfl (v := (8 : Int32)) rfl ?_
    refine o_iand X0 hx hby at_42 43 rfl ?_
    exact k
  obtain ⟨v4, hv4, go19⟩ : ∃ (v4 : Int64), v4 = (if (p1 &&& (8 : Int32)) = (0 : Int32) then q4 else q2) ∧ Go p e below A0 (s₁.setTop (mkF m 52 #[.val (.int p0), .val (.int p1), .val (.long q2), .second, .val (.long q3), .second, .val (.long q4), .second, .val (.long q5), .second, .val (.int v1), .val (.int v2), .val (.int v3), .unset, .unset, .unset, .unset, .unset, .unset, .unset, .unset, .unset, .unset, .unset, .unset] [(.long v4)])) := by
    by_cases hc43_4 : (p1 &&& (8 : Int32)) = (0 : Int32)
    · have go17 : Go p e below A0 (s₁.setTop (mkF m 52 #[.val (.int p0), .val (.int p1), .val (.long q2), .second, .val (.long q3), .second, .val (.long q4), .second, .val (.long q5), .second, .val (.int v1), .val (.int v2), .val (.int v3), .unset, .unset, .unset, .unset, .unset, .unset, .unset, .unset, .unset, .unset, .unset, .unset] [(.long q4)])) := by
        intro t k
        refine go16 t ?_
        refine o_ifY X0 hx hby at_43 50 rfl (teq hc43_4).1 ?_
        refine o_lload X0 hx hby at_50 52 rfl rfl ?_
        exact k
      exact ⟨q4, (if_pos hc43_4).symm, go17⟩
    · have go18 : Go p e below A0 (s₁.setTop (mkF m 52 #[.val (.int p0), .val (.int p1), .val (.long q2), .second, .val (.long q3), .second, .val (.long q4), .second, .val (.long q5), .second, .val (.int v1), .val (.int v2), .val (.int v3), .unset, .unset, .unset, .unset, .unset, .unset, .unset, .unset, .unset, .unset, .unset, .unset] [(.long q2)])) := by
        intro t k
        refine go16 t ?_
        refine o_ifN X0 hx hby at_43 46 rfl (feq hc43_4).1 ?_
        refine o_lloadN X0 hx hby at_46 47 rfl rfl ?_
        refine o_goto X0 hx hby at_47 52 rfl ?_
        exact k
      exact ⟨q2, (if_neg hc43_4).symm, go18⟩
  have go20 : Go p e below A0 (s₁.setTop (mkF m 54 #[.val (.int p0), .val (.int p1), .val (.long q2), .second, .val (.long q3), .second, .val (.long q4), .second, .val (.long q5), .second, .val (.int v1), .val (.int v2), .val (.int v3), .val (.long v4), .second, .unset, .unset, .unset, .unset, .unset, .unset, .unset, .unset, .unset, .unset] [])) := by
    intro t k
    refine go19 t ?_
    refine o_lstore X0 hx hby at_52 54 rfl (l' := #[.val (.int p0), .val (.int p1), .val (.long q2), .second, .val (.long q3), .second, .val (.long q4), .second, .val (.long q5), .second, .val (.int v1), .val (.int v2), .val (.int v3), .val (.long v4), .second, .unset, .unset, .unset, .unset, .unset, .unset, .unset, .unset, .unset, .unset]) rfl ?_
    exact k
  have go21 : Go p e below A0 (s₁.setTop (mkF m 58 #[.val (.int p0), .val (.int p1), .val (.long q2), .second, .val (.long q3), .second, .val (.long q4), .second, .val (.long q5), .second, .val (.int v1), .val (.int v2), .val (.int v3), .val (.long v4), .second, .unset, .unset, .unset, .unset, .unset, .unset, .unset, .unset, .unset, .unset] [(.int (p1 &&& (16 : Int32)))])) := by
    intro t k
    refine go20 t ?_
    refine o_iloadN X0 hx hby at_54 55 rfl rfl ?_
    refine o_bipush X0 hx hby at_55 57 rfl (v := (16 : Int32)) rfl ?_
    refine o_iand X0 hx hby at_57 58 rfl ?_
    exact k
  obtain ⟨v5, hv5, go24⟩ : ∃ (v5 : Int64), v5 = (if (p1 &&& (16 : Int32)) = (0 : Int32) then q5 else q3) ∧ Go p e below A0 (s₁.setTop (mkF m 68 #[.val (.int p0), .val (.int p1), .val (.long q2), .second, .val (.long q3), .second, .val (.long q4), .second, .val (.long q5), .second, .val (.int v1), .val (.int v2), .val (.int v3), .val (.long v4), .second, .unset, .unset, .unset, .unset, .unset, .unset, .unset, .unset, .unset, .unset] [(.long v5)])) := by
    by_cases hc58_5 : (p1 &&& (16 : Int32)) = (0 : Int32)
    · have go22 : Go p e below A0 (s₁.setTop (mkF m 68 #[.val (.int p0), .val (.int p1), .val (.long q2), .second, .val (.long q3), .second, .val (.long q4), .second, .val (.long q5), .second, .val (.int v1), .val (.int v2), .val (.int v3), .val (.long v4), .second, .unset, .unset, .unset, .unset, .unset, .unset, .unset, .unset, .unset, .unset] [(.long q5)])) := by
        intro t k
        refine go21 t ?_
        refine o_ifY X0 hx hby at_58 66 rfl (teq hc58_5).1 ?_
        refine o_lload X0 hx hby at_66 68 rfl rfl ?_
        exact k
      exact ⟨q5, (if_pos hc58_5).symm, go22⟩
    · have go23 : Go p e below A0 (s₁.setTop (mkF m 68 #[.val (.int p0), .val (.int p1), .val (.long q2), .second, .val (.long q3), .second, .val (.long q4), .second, .val (.long q5), .second, .val (.int v1), .val (.int v2), .val (.int v3), .val (.long v4), .second, .unset, .unset, .unset, .unset, .unset, .unset, .unset, .unset, .unset, .unset] [(.long q3)])) := by
        intro t k
        refine go21 t ?_
        refine o_ifN X0 hx hby at_58 61 rfl (feq hc58_5).1 ?_
        refine o_lload X0 hx hby at_61 63 rfl rfl ?_
        refine o_goto X0 hx hby at_63 68 rfl ?_
        exact k
      exact ⟨q3, (if_neg hc58_5).symm, go23⟩
  have go25 : Go p e below A0 (s₁.setTop (mkF m 70 #[.val (.int p0), .val (.int p1), .val (.long q2), .second, .val (.long q3), .second, .val (.long q4), .second, .val (.long q5), .second, .val (.int v1), .val (.int v2), .val (.int v3), .val (.long v4), .second, .val (.long v5), .second, .unset, .unset, .unset, .unset, .unset, .unset, .unset, .unset] [])) := by
    intro t k
    refine go24 t ?_
    refine o_lstore X0 hx hby at_68 70 rfl (l' := #[.val (.int p0), .val (.int p1), .val (.long q2), .second, .val (.long q3), .second, .val (.long q4), .second, .val (.long q5), .second, .val (.int v1), .val (.int v2), .val (.int v3), .val (.long v4), .second, .val (.long v5), .second, .unset, .unset, .unset, .unset, .unset, .unset, .unset, .unset]) rfl ?_
    exact k
  have go26 : Go p e below A0 (s₁.setTop (mkF m 77 #[.val (.int p0), .val (.int p1), .val (.long q2), .second, .val (.long q3), .second, .val (.long q4), .second, .val (.long q5), .second, .val (.int v1), .val (.int v2), .val (.int v3), .val (.long v4), .second, .val (.long v5), .second, .val (.int (((p1.toUInt32 >>> ((5 : Int32) &&& 31).toUInt32).toInt32) &&& (3 : Int32))), .unset, .unset, .unset, .unset, .unset, .unset, .unset] [])) := by
    intro t k
    refine go25 t ?_
    refine o_iloadN X0 hx hby at_70 71 rfl rfl ?_
    refine o_iconst X0 hx hby at_71 72 rfl (v := (5 : Int32)) rfl ?_
    refine o_iushr X0 hx hby at_72 73 rfl ?_
    refine o_iconst X0 hx hby at_73 74 rfl (v := (3 : Int32)) rfl ?_
    refine o_iand X0 hx hby at_74 75 rfl ?_
    refine o_istore X0 hx hby at_75 77 rfl (l' := #[.val (.int p0), .val (.int p1), .val (.long q2), .second, .val (.long q3), .second, .val (.long q4), .second, .val (.long q5), .second, .val (.int v1), .val (.int v2), .val (.int v3), .val (.long v4), .second, .val (.long v5), .second, .val (.int (((p1.toUInt32 >>> ((5 : Int32) &&& 31).toUInt32).toInt32) &&& (3 : Int32))), .unset, .unset, .unset, .unset, .unset, .unset, .unset]) rfl ?_
    exact k
  obtain ⟨v6, hv6, go27⟩ : ∃ v6 : Int32, v6 = (((p1.toUInt32 >>> ((5 : Int32) &&& 31).toUInt32).toInt32) &&& (3 : Int32)) ∧ Go p e below A0 (s₁.setTop (mkF m 77 #[.val (.int p0), .val (.int p1), .val (.long q2), .second, .val (.long q3), .second, .val (.long q4), .second, .val (.long q5), .second, .val (.int v1), .val (.int v2), .val (.int v3), .val (.long v4), .second, .val (.long v5), .second, .val (.int v6), .unset, .unset, .unset, .unset, .unset, .unset, .unset] [])) := ⟨_, rfl, go26⟩
  obtain ⟨T6, h6, k6, X6, e6, E6, A6, st6⟩ := newP X0 hx hZ (hw _ (List.mem_of_getElem? (i := 0) rfl)) e0 (g := (mkF m 78 #[.val (.int p0), .val (.int p1), .val (.long q2), .second, .val (.long q3), .second, .val (.long q4), .second, .val (.long q5), .second, .val (.int v1), .val (.int v2), .val (.int v3), .val (.long v4), .second, .val (.long v5), .second, .val (.int v6), .unset, .unset, .unset, .unset, .unset, .unset, .unset] [(.int (2 : Int32))])) rfl (hb hby at_78) rfl (by decide) (cap := 2) (by decide) (by decide) (by decide) (by decide)
  obtain ⟨b6, g6⟩ : ∃ z, z = h0.size := ⟨_, rfl⟩
  rw [← g6] at A6 st6
  have g_b6 : n0 ≤ b6 := Nat.le_trans Z0 (Nat.le_of_eq g6.symm)
  have sz_b6 : h0.size ≤ b6 := Nat.le_trans (Keep.refl h0 []).1 (Nat.le_of_eq g6.symm)
  have f1 : Old Z n0 h6 := r2.ext E6
  have Zp6 : n0 ≤ h6.size := Nat.le_trans Z0 E6.1
  have K6 : Keep h0 h6 [] := (Keep.refl h0 []).ext E6
  have f2 : Arv Z h6 b6 k6 .long (2 : Int32) [(.long (0 : Int64)), (.long (0 : Int64))] (.long (0 : Int64)) := (Arv.new A6 (by decide)).pad (pad_rep [] (.long (0 : Int64)) 2)
  have go28 : Go p e below A0 (T6.setTop (mkF m 83 #[.val (.int p0), .val (.int p1), .val (.long q2), .second, .val (.long q3), .second, .val (.long q4), .second, .val (.long q5), .second, .val (.int v1), .val (.int v2), .val (.int v3), .val (.long v4), .second, .val (.long v5), .second, .val (.int v6), .unset, .unset, .unset, .unset, .unset, .unset, .unset] [(.long q2), (.int (0 : Int32)), (.ref b6), (.ref b6)])) := by
    intro t k
    refine go27 t ?_
    refine o_iconst X0 hx hby at_77 78 rfl (v := (2 : Int32)) rfl ?_
    refine st6 _ ?_
    show Steps p.tables e below (T6.setTop (mkF m 80 #[.val (.int p0), .val (.int p1), .val (.long q2), .second, .val (.long q3), .second, .val (.long q4), .second, .val (.long q5), .second, .val (.int v1), .val (.int v2), .val (.int v3), .val (.long v4), .second, .val (.long v5), .second, .val (.int v6), .unset, .unset, .unset, .unset, .unset, .unset, .unset] [(.ref b6)])) _
    refine o_dup X6 hx hby at_80 81 rfl rfl ?_
    refine o_iconst X6 hx hby at_81 82 rfl (v := (0 : Int32)) rfl ?_
    refine o_lloadN X6 hx hby at_82 83 rfl rfl ?_
    exact k
  obtain ⟨cl7, Ar7, q7, S7, M7, H7, G7⟩ := id f2
  have hin7 : ¬ ((0 : Int32) < 0 ∨ cl7.slots.size ≤ ((0 : Int32)).toNatClampNeg) := inb_of S7 ⟨by decide, by decide⟩
  obtain ⟨T7, h7, X7, e7, W7, st7⟩ := stJ X6 hx hZ e6 Ar7 (j := (0 : Int32)) hin7 (g := (mkF m 83 #[.val (.int p0), .val (.int p1), .val (.long q2), .second, .val (.long q3), .second, .val (.long q4), .second, .val (.long q5), .second, .val (.int v1), .val (.int v2), .val (.int v3), .val (.long v4), .second, .val (.long v5), .second, .val (.int v6), .unset, .unset, .unset, .unset, .unset, .unset, .unset] [(.long q2), (.int (0 : Int32)), (.ref b6), (.ref b6)])) rfl rfl (hb hby at_83)
  have f3 : Old Z n0 h7 := f1.wr W7 g_b6
  have Zp7 : n0 ≤ h7.size := Nat.le_trans Zp6 (Keep.of_wr W7).1
  have K7 : Keep h0 h7 [] := K6.wr W7 (Or.inr sz_b6)
  have N7 := Fr.snoc X7 N0 g_b6
  have f4 : Arv Z h7 b6 k6 .long (2 : Int32) [(.long q2), (.long (0 : Int64))] (.long (0 : Int64)) := Arv.set Ar7 q7 S7 M7 H7 G7 rfl W7 0 rfl (Nat.le_of_ble_eq_true rfl)
  have go29 : Go p e below A0 (T7.setTop (mkF m 88 #[.val (.int p0), .val (.int p1), .val (.long q2), .second, .val (.long q3), .second, .val (.long q4), .second, .val (.long q5), .second, .val (.int v1), .val (.int v2), .val (.int v3), .val (.long v4), .second, .val (.long v5), .second, .val (.int v6), .unset, .unset, .unset, .unset, .unset, .unset, .unset] [(.long q3), (.int (1 : Int32)), (.ref b6), (.ref b6)])) := by
    intro t k
    refine go28 t ?_
    refine st7 _ ?_
    show Steps p.tables e below (T7.setTop (mkF m 84 #[.val (.int p0), .val (.int p1), .val (.long q2), .second, .val (.long q3), .second, .val (.long q4), .second, .val (.long q5), .second, .val (.int v1), .val (.int v2), .val (.int v3), .val (.long v4), .second, .val (.long v5), .second, .val (.int v6), .unset, .unset, .unset, .unset, .unset, .unset, .unset] [(.ref b6)])) _
    refine o_dup X7 hx hby at_84 85 rfl rfl ?_
    refine o_iconst X7 hx hby at_85 86 rfl (v := (1 : Int32)) rfl ?_
    refine o_lload X7 hx hby at_86 88 rfl rfl ?_
    exact k
  obtain ⟨cl8, Ar8, q8, S8, M8, H8, G8⟩ := id f4
  have hin8 : ¬ ((1 : Int32) < 0 ∨ cl8.slots.size ≤ ((1 : Int32)).toNatClampNeg) := inb_of S8 ⟨by decide, by decide⟩
  obtain ⟨T8, h8, X8, e8, W8, st8⟩ := stJ X7 hx hZ e7 Ar8 (j := (1 : Int32)) hin8 (g := (mkF m 88 #[.val (.int p0), .val (.int p1), .val (.long q2), .second, .val (.long q3), .second, .val (.long q4), .second, .val (.long q5), .second, .val (.int v1), .val (.int v2), .val (.int v3), .val (.long v4), .second, .val (.long v5), .second, .val (.int v6), .unset, .unset, .unset, .unset, .unset, .unset, .unset] [(.long q3), (.int (1 : Int32)), (.ref b6), (.ref b6)])) rfl rfl (hb hby at_88)
  have f5 : Old Z n0 h8 := f3.wr W8 g_b6
  have Zp8 : n0 ≤ h8.size := Nat.le_trans Zp7 (Keep.of_wr W8).1
  have K8 : Keep h0 h8 [] := K7.wr W8 (Or.inr sz_b6)
  have N8 := Fr.snoc X8 N7 g_b6
  have f6 : Arv Z h8 b6 k6 .long (2 : Int32) [(.long q2), (.long q3)] (.long (0 : Int64)) := Arv.set Ar8 q8 S8 M8 H8 G8 rfl W8 1 rfl (Nat.le_of_ble_eq_true rfl)
  obtain ⟨T9, h9, k9, X9, e9, E9, A9, st9⟩ := newP X8 hx hZ (hw _ (List.mem_of_getElem? (i := 0) rfl)) e8 (g := (mkF m 92 #[.val (.int p0), .val (.int p1), .val (.long q2), .second, .val (.long q3), .second, .val (.long q4), .second, .val (.long q5), .second, .val (.int v1), .val (.int v2), .val (.int v3), .val (.long v4), .second, .val (.long v5), .second, .val (.int v6), .val (.ref b6), .unset, .unset, .unset, .unset, .unset, .unset] [(.int (2 : Int32))])) rfl (hb hby at_92) rfl (by decide) (cap := 2) (by decide) (by decide) (by decide) (by decide)
  obtain ⟨b9, g9⟩ : ∃ z, z = h8.size := ⟨_, rfl⟩
  rw [← g9] at A9 st9
  have ne_b6_b9 : b6 ≠ b9 := Nat.ne_of_lt (Nat.lt_of_lt_of_le f6.lt (Nat.le_of_eq g9.symm))
  have g_b9 : n0 ≤ b9 := Nat.le_trans Zp8 (Nat.le_of_eq g9.symm)
  have sz_b9 : h0.size ≤ b9 := Nat.le_trans K8.1 (Nat.le_of_eq g9.symm)
  have f7 : Old Z n0 h9 := f5.ext E9
  have f8 : Arv Z h9 b6 k6 .long (2 : Int32) [(.long q2), (.long q3)] (.long (0 : Int64)) := f6.ext E9
  have Zp9 : n0 ≤ h9.size := Nat.le_trans Zp8 E9.1
  have K9 : Keep h0 h9 [] := K8.ext E9
  have f9 : Arv Z h9 b9 k9 .long (2 : Int32) [(.long (0 : Int64)), (.long (0 : Int64))] (.long (0 : Int64)) := (Arv.new A9 (by decide)).pad (pad_rep [] (.long (0 : Int64)) 2)
  have go30 : Go p e below A0 (T9.setTop (mkF m 98 #[.val (.int p0), .val (.int p1), .val (.long q2), .second, .val (.long q3), .second, .val (.long q4), .second, .val (.long q5), .second, .val (.int v1), .val (.int v2), .val (.int v3), .val (.long v4), .second, .val (.long v5), .second, .val (.int v6), .val (.ref b6), .unset, .unset, .unset, .unset, .unset, .unset] [(.long v4), (.int (0 : Int32)), (.ref b9), (.ref b9)])) := by
    intro t k
    refine go29 t ?_
    refine st8 _ ?_
    show Steps p.tables e below (T8.setTop (mkF m 89 #[.val (.int p0), .val (.int p1), .val (.long q2), .second, .val (.long q3), .second, .val (.long q4), .second, .val (.long q5), .second, .val (.int v1), .val (.int v2), .val (.int v3), .val (.long v4), .second, .val (.long v5), .second, .val (.int v6), .unset, .unset, .unset, .unset, .unset, .unset, .unset] [(.ref b6)])) _
    refine o_astore X8 hx hby at_89 91 rfl rfl (l' := #[.val (.int p0), .val (.int p1), .val (.long q2), .second, .val (.long q3), .second, .val (.long q4), .second, .val (.long q5), .second, .val (.int v1), .val (.int v2), .val (.int v3), .val (.long v4), .second, .val (.long v5), .second, .val (.int v6), .val (.ref b6), .unset, .unset, .unset, .unset, .unset, .unset]) rfl ?_
    refine o_iconst X8 hx hby at_91 92 rfl (v := (2 : Int32)) rfl ?_
    refine st9 _ ?_
    show Steps p.tables e below (T9.setTop (mkF m 94 #[.val (.int p0), .val (.int p1), .val (.long q2), .second, .val (.long q3), .second, .val (.long q4), .second, .val (.long q5), .second, .val (.int v1), .val (.int v2), .val (.int v3), .val (.long v4), .second, .val (.long v5), .second, .val (.int v6), .val (.ref b6), .unset, .unset, .unset, .unset, .unset, .unset] [(.ref b9)])) _
    refine o_dup X9 hx hby at_94 95 rfl rfl ?_
    refine o_iconst X9 hx hby at_95 96 rfl (v := (0 : Int32)) rfl ?_
    refine o_lload X9 hx hby at_96 98 rfl rfl ?_
    exact k
  obtain ⟨cl10, Ar10, q10, S10, M10, H10, G10⟩ := id f9
  have hin10 : ¬ ((0 : Int32) < 0 ∨ cl10.slots.size ≤ ((0 : Int32)).toNatClampNeg) := inb_of S10 ⟨by decide, by decide⟩
  obtain ⟨T10, h10, X10, e10, W10, st10⟩ := stJ X9 hx hZ e9 Ar10 (j := (0 : Int32)) hin10 (g := (mkF m 98 #[.val (.int p0), .val (.int p1), .val (.long q2), .second, .val (.long q3), .second, .val (.long q4), .second, .val (.long q5), .second, .val (.int v1), .val (.int v2), .val (.int v3), .val (.long v4), .second, .val (.long v5), .second, .val (.int v6), .val (.ref b6), .unset, .unset, .unset, .unset, .unset, .unset] [(.long v4), (.int (0 : Int32)), (.ref b9), (.ref b9)])) rfl rfl (hb hby at_98)
  have f10 : Old Z n0 h10 := f7.wr W10 g_b9
  have f11 : Arv Z h10 b6 k6 .long (2 : Int32) [(.long q2), (.long q3)] (.long (0 : Int64)) := f8.other W10 ne_b6_b9
  have Zp10 : n0 ≤ h10.size := Nat.le_trans Zp9 (Keep.of_wr W10).1
  have K10 : Keep h0 h10 [] := K9.wr W10 (Or.inr sz_b9)
  have N10 := Fr.snoc X10 N8 g_b9
  have f12 : Arv Z h10 b9 k9 .long (2 : Int32) [(.long v4), (.long (0 : Int64))] (.long (0 : Int64)) := Arv.set Ar10 q10 S10 M10 H10 G10 rfl W10 0 rfl (Nat.le_of_ble_eq_true rfl)
  have go31 : Go p e below A0 (T10.setTop (mkF m 103 #[.val (.int p0), .val (.int p1), .val (.long q2), .second, .val (.long q3), .second, .val (.long q4), .second, .val (.long q5), .second, .val (.int v1), .val (.int v2), .val (.int v3), .val (.long v4), .second, .val (.long v5), .second, .val (.int v6), .val (.ref b6), .unset, .unset, .unset, .unset, .unset, .unset] [(.long v5), (.int (1 : Int32)), (.ref b9), (.ref b9)])) := by
    intro t k
    refine go30 t ?_
    refine st10 _ ?_
    show Steps p.tables e below (T10.setTop (mkF m 99 #[.val (.int p0), .val (.int p1), .val (.long q2), .second, .val (.long q3), .second, .val (.long q4), .second, .val (.long q5), .second, .val (.int v1), .val (.int v2), .val (.int v3), .val (.long v4), .second, .val (.long v5), .second, .val (.int v6), .val (.ref b6), .unset, .unset, .unset, .unset, .unset, .unset] [(.ref b9)])) _
    refine o_dup X10 hx hby at_99 100 rfl rfl ?_
    refine o_iconst X10 hx hby at_100 101 rfl (v := (1 : Int32)) rfl ?_
    refine o_lload X10 hx hby at_101 103 rfl rfl ?_
    exact k
  obtain ⟨cl11, Ar11, q11, S11, M11, H11, G11⟩ := id f12
  have hin11 : ¬ ((1 : Int32) < 0 ∨ cl11.slots.size ≤ ((1 : Int32)).toNatClampNeg) := inb_of S11 ⟨by decide, by decide⟩
  obtain ⟨T11, h11, X11, e11, W11, st11⟩ := stJ X10 hx hZ e10 Ar11 (j := (1 : Int32)) hin11 (g := (mkF m 103 #[.val (.int p0), .val (.int p1), .val (.long q2), .second, .val (.long q3), .second, .val (.long q4), .second, .val (.long q5), .second, .val (.int v1), .val (.int v2), .val (.int v3), .val (.long v4), .second, .val (.long v5), .second, .val (.int v6), .val (.ref b6), .unset, .unset, .unset, .unset, .unset, .unset] [(.long v5), (.int (1 : Int32)), (.ref b9), (.ref b9)])) rfl rfl (hb hby at_103)
  have f13 : Old Z n0 h11 := f10.wr W11 g_b9
  have f14 : Arv Z h11 b6 k6 .long (2 : Int32) [(.long q2), (.long q3)] (.long (0 : Int64)) := f11.other W11 ne_b6_b9
  have Zp11 : n0 ≤ h11.size := Nat.le_trans Zp10 (Keep.of_wr W11).1
  have K11 : Keep h0 h11 [] := K10.wr W11 (Or.inr sz_b9)
  have N11 := Fr.snoc X11 N10 g_b9
  have f15 : Arv Z h11 b9 k9 .long (2 : Int32) [(.long v4), (.long v5)] (.long (0 : Int64)) := Arv.set Ar11 q11 S11 M11 H11 G11 rfl W11 1 rfl (Nat.le_of_ble_eq_true rfl)
  obtain ⟨T12, h12, k12, X12, e12, E12, A12, st12⟩ := newP X11 hx hZ (hw _ (List.mem_of_getElem? (i := 1) rfl)) e11 (g := (mkF m 107 #[.val (.int p0), .val (.int p1), .val (.long q2), .second, .val (.long q3), .second, .val (.long q4), .second, .val (.long q5), .second, .val (.int v1), .val (.int v2), .val (.int v3), .val (.long v4), .second, .val (.long v5), .second, .val (.int v6), .val (.ref b6), .val (.ref b9), .unset, .unset, .unset, .unset, .unset] [(.int (2 : Int32))])) rfl (hb hby at_107) rfl (by decide) (cap := 2) (by decide) (by decide) (by decide) (by decide)
  obtain ⟨b12, g12⟩ : ∃ z, z = h11.size := ⟨_, rfl⟩
  rw [← g12] at A12 st12
  have ne_b6_b12 : b6 ≠ b12 := Nat.ne_of_lt (Nat.lt_of_lt_of_le f14.lt (Nat.le_of_eq g12.symm))
  have ne_b9_b12 : b9 ≠ b12 := Nat.ne_of_lt (Nat.lt_of_lt_of_le f15.lt (Nat.le_of_eq g12.symm))
  have g_b12 : n0 ≤ b12 := Nat.le_trans Zp11 (Nat.le_of_eq g12.symm)
  have sz_b12 : h0.size ≤ b12 := Nat.le_trans K11.1 (Nat.le_of_eq g12.symm)
  have f16 : Old Z n0 h12 := f13.ext E12
  have f17 : Arv Z h12 b6 k6 .long (2 : Int32) [(.long q2), (.long q3)] (.long (0 : Int64)) := f14.ext E12
  have f18 : Arv Z h12 b9 k9 .long (2 : Int32) [(.long v4), (.long v5)] (.long (0 : Int64)) := f15.ext E12
  have Zp12 : n0 ≤ h12.size := Nat.le_trans Zp11 E12.1
  have K12 : Keep h0 h12 [] := K11.ext E12
  have f19 : Arv Z h12 b12 k12 .boolean (2 : Int32) [(.int (0 : Int32)), (.int (0 : Int32))] (.int (0 : Int32)) := (Arv.new A12 (by decide)).pad (pad_rep [] (.int (0 : Int32)) 2)
  have go32 : Go p e below A0 (T12.setTop (mkF m 113 #[.val (.int p0), .val (.int p1), .val (.long q2), .second, .val (.long q3), .second, .val (.long q4), .second, .val (.long q5), .second, .val (.int v1), .val (.int v2), .val (.int v3), .val (.long v4), .second, .val (.long v5), .second, .val (.int v6), .val (.ref b6), .val (.ref b9), .unset, .unset, .unset, .unset, .unset] [(.int v1), (.int (0 : Int32)), (.ref b12), (.ref b12)])) := by
    intro t k
    refine go31 t ?_
    refine st11 _ ?_
    show Steps p.tables e below (T11.setTop (mkF m 104 #[.val (.int p0), .val (.int p1), .val (.long q2), .second, .val (.long q3), .second, .val (.long q4), .second, .val (.long q5), .second, .val (.int v1), .val (.int v2), .val (.int v3), .val (.long v4), .second, .val (.long v5), .second, .val (.int v6), .val (.ref b6), .unset, .unset, .unset, .unset, .unset, .unset] [(.ref b9)])) _
    refine o_astore X11 hx hby at_104 106 rfl rfl (l' := #[.val (.int p0), .val (.int p1), .val (.long q2), .second, .val (.long q3), .second, .val (.long q4), .second, .val (.long q5), .second, .val (.int v1), .val (.int v2), .val (.int v3), .val (.long v4), .second, .val (.long v5), .second, .val (.int v6), .val (.ref b6), .val (.ref b9), .unset, .unset, .unset, .unset, .unset]) rfl ?_
    refine o_iconst X11 hx hby at_106 107 rfl (v := (2 : Int32)) rfl ?_
    refine st12 _ ?_
    show Steps p.tables e below (T12.setTop (mkF m 109 #[.val (.int p0), .val (.int p1), .val (.long q2), .second, .val (.long q3), .second, .val (.long q4), .second, .val (.long q5), .second, .val (.int v1), .val (.int v2), .val (.int v3), .val (.long v4), .second, .val (.long v5), .second, .val (.int v6), .val (.ref b6), .val (.ref b9), .unset, .unset, .unset, .unset, .unset] [(.ref b12)])) _
    refine o_dup X12 hx hby at_109 110 rfl rfl ?_
    refine o_iconst X12 hx hby at_110 111 rfl (v := (0 : Int32)) rfl ?_
    refine o_iload X12 hx hby at_111 113 rfl rfl ?_
    exact k
  obtain ⟨cl13, Ar13, q13, S13, M13, H13, G13⟩ := id f19
  have hin13 : ¬ ((0 : Int32) < 0 ∨ cl13.slots.size ≤ ((0 : Int32)).toNatClampNeg) := inb_of S13 ⟨by decide, by decide⟩
  obtain ⟨T13, h13, X13, e13, W13, st13⟩ := stZ X12 hx hZ e12 Ar13 (j := (0 : Int32)) hin13 (g := (mkF m 113 #[.val (.int p0), .val (.int p1), .val (.long q2), .second, .val (.long q3), .second, .val (.long q4), .second, .val (.long q5), .second, .val (.int v1), .val (.int v2), .val (.int v3), .val (.long v4), .second, .val (.long v5), .second, .val (.int v6), .val (.ref b6), .val (.ref b9), .unset, .unset, .unset, .unset, .unset] [(.int v1), (.int (0 : Int32)), (.ref b12), (.ref b12)])) rfl rfl (hb hby at_113)
  have f20 : Old Z n0 h13 := f16.wr W13 g_b12
  have f21 : Arv Z h13 b6 k6 .long (2 : Int32) [(.long q2), (.long q3)] (.long (0 : Int64)) := f17.other W13 ne_b6_b12
  have f22 : Arv Z h13 b9 k9 .long (2 : Int32) [(.long v4), (.long v5)] (.long (0 : Int64)) := f18.other W13 ne_b9_b12
  have Zp13 : n0 ≤ h13.size := Nat.le_trans Zp12 (Keep.of_wr W13).1
  have K13 : Keep h0 h13 [] := K12.wr W13 (Or.inr sz_b12)
  have N13 := Fr.snoc X13 N11 g_b12
  have f23 : Arv Z h13 b12 k12 .boolean (2 : Int32) [(.int (nar .boolean v1)), (.int (0 : Int32))] (.int (0 : Int32)) := Arv.set Ar13 q13 S13 M13 H13 G13 (fits_nar_bool _) W13 0 rfl (Nat.le_of_ble_eq_true rfl)
  have go33 : Go p e below A0 (T13.setTop (mkF m 118 #[.val (.int p0), .val (.int p1), .val (.long q2), .second, .val (.long q3), .second, .val (.long q4), .second, .val (.long q5), .second, .val (.int v1), .val (.int v2), .val (.int v3), .val (.long v4), .second, .val (.long v5), .second, .val (.int v6), .val (.ref b6), .val (.ref b9), .unset, .unset, .unset, .unset, .unset] [(.int v2), (.int (1 : Int32)), (.ref b12), (.ref b12)])) := by
    intro t k
    refine go32 t ?_
    refine st13 _ ?_
    show Steps p.tables e below (T13.setTop (mkF m 114 #[.val (.int p0), .val (.int p1), .val (.long q2), .second, .val (.long q3), .second, .val (.long q4), .second, .val (.long q5), .second, .val (.int v1), .val (.int v2), .val (.int v3), .val (.long v4), .second, .val (.long v5), .second, .val (.int v6), .val (.ref b6), .val (.ref b9), .unset, .unset, .unset, .unset, .unset] [(.ref b12)])) _
    refine o_dup X13 hx hby at_114 115 rfl rfl ?_
    refine o_iconst X13 hx hby at_115 116 rfl (v := (1 : Int32)) rfl ?_
    refine o_iload X13 hx hby at_116 118 rfl rfl ?_
    exact k
  obtain ⟨cl14, Ar14, q14, S14, M14, H14, G14⟩ := id f23
  have hin14 : ¬ ((1 : Int32) < 0 ∨ cl14.slots.size ≤ ((1 : Int32)).toNatClampNeg) := inb_of S14 ⟨by decide, by decide⟩
  obtain ⟨T14, h14, X14, e14, W14, st14⟩ := stZ X13 hx hZ e13 Ar14 (j := (1 : Int32)) hin14 (g := (mkF m 118 #[.val (.int p0), .val (.int p1), .val (.long q2), .second, .val (.long q3), .second, .val (.long q4), .second, .val (.long q5), .second, .val (.int v1), .val (.int v2), .val (.int v3), .val (.long v4), .second, .val (.long v5), .second, .val (.int v6), .val (.ref b6), .val (.ref b9), .unset, .unset, .unset, .unset, .unset] [(.int v2), (.int (1 : Int32)), (.ref b12), (.ref b12)])) rfl rfl (hb hby at_118)
  have f24 : Old Z n0 h14 := f20.wr W14 g_b12
  have f25 : Arv Z h14 b6 k6 .long (2 : Int32) [(.long q2), (.long q3)] (.long (0 : Int64)) := f21.other W14 ne_b6_b12
  have f26 : Arv Z h14 b9 k9 .long (2 : Int32) [(.long v4), (.long v5)] (.long (0 : Int64)) := f22.other W14 ne_b9_b12
  have Zp14 : n0 ≤ h14.size := Nat.le_trans Zp13 (Keep.of_wr W14).1
  have K14 : Keep h0 h14 [] := K13.wr W14 (Or.inr sz_b12)
  have N14 := Fr.snoc X14 N13 g_b12
  have f27 : Arv Z h14 b12 k12 .boolean (2 : Int32) [(.int (nar .boolean v1)), (.int (nar .boolean v2))] (.int (0 : Int32)) := Arv.set Ar14 q14 S14 M14 H14 G14 (fits_nar_bool _) W14 1 rfl (Nat.le_of_ble_eq_true rfl)
  obtain ⟨T15, h15, k15, X15, e15, E15, A15, st15⟩ := newP X14 hx hZ (hw _ (List.mem_of_getElem? (i := 1) rfl)) e14 (g := (mkF m 122 #[.val (.int p0), .val (.int p1), .val (.long q2), .second, .val (.long q3), .second, .val (.long q4), .second, .val (.long q5), .second, .val (.int v1), .val (.int v2), .val (.int v3), .val (.long v4), .second, .val (.long v5), .second, .val (.int v6), .val (.ref b6), .val (.ref b9), .val (.ref b12), .unset, .unset, .unset, .unset] [(.int (2 : Int32))])) rfl (hb hby at_122) rfl (by decide) (cap := 2) (by decide) (by decide) (by decide) (by decide)
  obtain ⟨b15, g15⟩ : ∃ z, z = h14.size := ⟨_, rfl⟩
  rw [← g15] at A15 st15
  have ne_b6_b15 : b6 ≠ b15 := Nat.ne_of_lt (Nat.lt_of_lt_of_le f25.lt (Nat.le_of_eq g15.symm))
  have ne_b9_b15 : b9 ≠ b15 := Nat.ne_of_lt (Nat.lt_of_lt_of_le f26.lt (Nat.le_of_eq g15.symm))
  have ne_b12_b15 : b12 ≠ b15 := Nat.ne_of_lt (Nat.lt_of_lt_of_le f27.lt (Nat.le_of_eq g15.symm))
  have g_b15 : n0 ≤ b15 := Nat.le_trans Zp14 (Nat.le_of_eq g15.symm)
  have sz_b15 : h0.size ≤ b15 := Nat.le_trans K14.1 (Nat.le_of_eq g15.symm)
  have f28 : Old Z n0 h15 := f24.ext E15
  have f29 : Arv Z h15 b6 k6 .long (2 : Int32) [(.long q2), (.long q3)] (.long (0 : Int64)) := f25.ext E15
  have f30 : Arv Z h15 b9 k9 .long (2 : Int32) [(.long v4), (.long v5)] (.long (0 : Int64)) := f26.ext E15
  have f31 : Arv Z h15 b12 k12 .boolean (2 : Int32) [(.int (nar .boolean v1)), (.int (nar .boolean v2))] (.int (0 : Int32)) := f27.ext E15
  have Zp15 : n0 ≤ h15.size := Nat.le_trans Zp14 E15.1
  have K15 : Keep h0 h15 [] := K14.ext E15
  have f32 : Arv Z h15 b15 k15 .boolean (2 : Int32) [(.int (0 : Int32)), (.int (0 : Int32))] (.int (0 : Int32)) := (Arv.new A15 (by decide)).pad (pad_rep [] (.int (0 : Int32)) 2)
  have go34 : Go p e below A0 (T15.setTop (mkF m 128 #[.val (.int p0), .val (.int p1), .val (.long q2), .second, .val (.long q3), .second, .val (.long q4), .second, .val (.long q5), .second, .val (.int v1), .val (.int v2), .val (.int v3), .val (.long v4), .second, .val (.long v5), .second, .val (.int v6), .val (.ref b6), .val (.ref b9), .val (.ref b12), .unset, .unset, .unset, .unset] [(.int v1), (.int (0 : Int32)), (.ref b15), (.ref b15)])) := by
    intro t k
    refine go33 t ?_
    refine st14 _ ?_
    show Steps p.tables e below (T14.setTop (mkF m 119 #[.val (.int p0), .val (.int p1), .val (.long q2), .second, .val (.long q3), .second, .val (.long q4), .second, .val (.long q5), .second, .val (.int v1), .val (.int v2), .val (.int v3), .val (.long v4), .second, .val (.long v5), .second, .val (.int v6), .val (.ref b6), .val (.ref b9), .unset, .unset, .unset, .unset, .unset] [(.ref b12)])) _
    refine o_astore X14 hx hby at_119 121 rfl rfl (l' := #[.val (.int p0), .val (.int p1), .val (.long q2), .second, .val (.long q3), .second, .val (.long q4), .second, .val (.long q5), .second, .val (.int v1), .val (.int v2), .val (.int v3), .val (.long v4), .second, .val (.long v5), .second, .val (.int v6), .val (.ref b6), .val (.ref b9), .val (.ref b12), .unset, .unset, .unset, .unset]) rfl ?_
    refine o_iconst X14 hx hby at_121 122 rfl (v := (2 : Int32)) rfl ?_
    refine st15 _ ?_
    show Steps p.tables e below (T15.setTop (mkF m 124 #[.val (.int p0), .val (.int p1), .val (.long q2), .second, .val (.long q3), .second, .val (.long q4), .second, .val (.long q5), .second, .val (.int v1), .val (.int v2), .val (.int v3), .val (.long v4), .second, .val (.long v5), .second, .val (.int v6), .val (.ref b6), .val (.ref b9), .val (.ref b12), .unset, .unset, .unset, .unset] [(.ref b15)])) _
    refine o_dup X15 hx hby at_124 125 rfl rfl ?_
    refine o_iconst X15 hx hby at_125 126 rfl (v := (0 : Int32)) rfl ?_
    refine o_iload X15 hx hby at_126 128 rfl rfl ?_
    exact k
  obtain ⟨cl16, Ar16, q16, S16, M16, H16, G16⟩ := id f32
  have hin16 : ¬ ((0 : Int32) < 0 ∨ cl16.slots.size ≤ ((0 : Int32)).toNatClampNeg) := inb_of S16 ⟨by decide, by decide⟩
  obtain ⟨T16, h16, X16, e16, W16, st16⟩ := stZ X15 hx hZ e15 Ar16 (j := (0 : Int32)) hin16 (g := (mkF m 128 #[.val (.int p0), .val (.int p1), .val (.long q2), .second, .val (.long q3), .second, .val (.long q4), .second, .val (.long q5), .second, .val (.int v1), .val (.int v2), .val (.int v3), .val (.long v4), .second, .val (.long v5), .second, .val (.int v6), .val (.ref b6), .val (.ref b9), .val (.ref b12), .unset, .unset, .unset, .unset] [(.int v1), (.int (0 : Int32)), (.ref b15), (.ref b15)])) rfl rfl (hb hby at_128)
  have f33 : Old Z n0 h16 := f28.wr W16 g_b15
  have f34 : Arv Z h16 b6 k6 .long (2 : Int32) [(.long q2), (.long q3)] (.long (0 : Int64)) := f29.other W16 ne_b6_b15
  have f35 : Arv Z h16 b9 k9 .long (2 : Int32) [(.long v4), (.long v5)] (.long (0 : Int64)) := f30.other W16 ne_b9_b15
  have f36 : Arv Z h16 b12 k12 .boolean (2 : Int32) [(.int (nar .boolean v1)), (.int (nar .boolean v2))] (.int (0 : Int32)) := f31.other W16 ne_b12_b15
  have Zp16 : n0 ≤ h16.size := Nat.le_trans Zp15 (Keep.of_wr W16).1
  have K16 : Keep h0 h16 [] := K15.wr W16 (Or.inr sz_b15)
  have N16 := Fr.snoc X16 N14 g_b15
  have f37 : Arv Z h16 b15 k15 .boolean (2 : Int32) [(.int (nar .boolean v1)), (.int (0 : Int32))] (.int (0 : Int32)) := Arv.set Ar16 q16 S16 M16 H16 G16 (fits_nar_bool _) W16 0 rfl (Nat.le_of_ble_eq_true rfl)
  have go35 : Go p e below A0 (T16.setTop (mkF m 133 #[.val (.int p0), .val (.int p1), .val (.long q2), .second, .val (.long q3), .second, .val (.long q4), .second, .val (.long q5), .second, .val (.int v1), .val (.int v2), .val (.int v3), .val (.long v4), .second, .val (.long v5), .second, .val (.int v6), .val (.ref b6), .val (.ref b9), .val (.ref b12), .unset, .unset, .unset, .unset] [(.int v2), (.int (1 : Int32)), (.ref b15), (.ref b15)])) := by
    intro t k
    refine go34 t ?_
    refine st16 _ ?_
    show Steps p.tables e below (T16.setTop (mkF m 129 #[.val (.int p0), .val (.int p1), .val (.long q2), .second, .val (.long q3), .second, .val (.long q4), .second, .val (.long q5), .second, .val (.int v1), .val (.int v2), .val (.int v3), .val (.long v4), .second, .val (.long v5), .second, .val (.int v6), .val (.ref b6), .val (.ref b9), .val (.ref b12), .unset, .unset, .unset, .unset] [(.ref b15)])) _
    refine o_dup X16 hx hby at_129 130 rfl rfl ?_
    refine o_iconst X16 hx hby at_130 131 rfl (v := (1 : Int32)) rfl ?_
    refine o_iload X16 hx hby at_131 133 rfl rfl ?_
    exact k
  obtain ⟨cl17, Ar17, q17, S17, M17, H17, G17⟩ := id f37
  have hin17 : ¬ ((1 : Int32) < 0 ∨ cl17.slots.size ≤ ((1 : Int32)).toNatClampNeg) := inb_of S17 ⟨by decide, by decide⟩
  obtain ⟨T17, h17, X17, e17, W17, st17⟩ := stZ X16 hx hZ e16 Ar17 (j := (1 : Int32)) hin17 (g := (mkF m 133 #[.val (.int p0), .val (.int p1), .val (.long q2), .second, .val (.long q3), .second, .val (.long q4), .second, .val (.long q5), .second, .val (.int v1), .val (.int v2), .val (.int v3), .val (.long v4), .second, .val (.long v5), .second, .val (.int v6), .val (.ref b6), .val (.ref b9), .val (.ref b12), .unset, .unset, .unset, .unset] [(.int v2), (.int (1 : Int32)), (.ref b15), (.ref b15)])) rfl rfl (hb hby at_133)
  have f38 : Old Z n0 h17 := f33.wr W17 g_b15
  have f39 : Arv Z h17 b6 k6 .long (2 : Int32) [(.long q2), (.long q3)] (.long (0 : Int64)) := f34.other W17 ne_b6_b15
  have f40 : Arv Z h17 b9 k9 .long (2 : Int32) [(.long v4), (.long v5)] (.long (0 : Int64)) := f35.other W17 ne_b9_b15
  have f41 : Arv Z h17 b12 k12 .boolean (2 : Int32) [(.int (nar .boolean v1)), (.int (nar .boolean v2))] (.int (0 : Int32)) := f36.other W17 ne_b12_b15
  have Zp17 : n0 ≤ h17.size := Nat.le_trans Zp16 (Keep.of_wr W17).1
  have K17 : Keep h0 h17 [] := K16.wr W17 (Or.inr sz_b15)
  have N17 := Fr.snoc X17 N16 g_b15
  have f42 : Arv Z h17 b15 k15 .boolean (2 : Int32) [(.int (nar .boolean v1)), (.int (nar .boolean v2))] (.int (0 : Int32)) := Arv.set Ar17 q17 S17 M17 H17 G17 (fits_nar_bool _) W17 1 rfl (Nat.le_of_ble_eq_true rfl)
  obtain ⟨T18, h18, X18, e18, E18, A18, D18, -, st18⟩ := newO X17 hx hZ hown (hw _ (List.mem_of_getElem? (i := 2) rfl)) (hw _ (List.mem_of_getElem? (i := 3) rfl)) (hw _ (List.mem_of_getElem? (i := 4) rfl)) e17 (g := (mkF m 136 #[.val (.int p0), .val (.int p1), .val (.long q2), .second, .val (.long q3), .second, .val (.long q4), .second, .val (.long q5), .second, .val (.int v1), .val (.int v2), .val (.int v3), .val (.long v4), .second, .val (.long v5), .second, .val (.int v6), .val (.ref b6), .val (.ref b9), .val (.ref b12), .val (.ref b15), .unset, .unset, .unset] [])) rfl (hb hby at_136) (by decide) (by decide)
  obtain ⟨b18, g18⟩ : ∃ z, z = h17.size := ⟨_, rfl⟩
  rw [← g18] at A18 D18 st18
  have ne_b6_b18 : b6 ≠ b18 := Nat.ne_of_lt (Nat.lt_of_lt_of_le f39.lt (Nat.le_of_eq g18.symm))
  have ne_b9_b18 : b9 ≠ b18 := Nat.ne_of_lt (Nat.lt_of_lt_of_le f40.lt (Nat.le_of_eq g18.symm))
  have ne_b12_b18 : b12 ≠ b18 := Nat.ne_of_lt (Nat.lt_of_lt_of_le f41.lt (Nat.le_of_eq g18.symm))
  have ne_b15_b18 : b15 ≠ b18 := Nat.ne_of_lt (Nat.lt_of_lt_of_le f42.lt (Nat.le_of_eq g18.symm))
  have g_b18 : n0 ≤ b18 := Nat.le_trans Zp17 (Nat.le_of_eq g18.symm)
  have sz_b18 : h0.size ≤ b18 := Nat.le_trans K17.1 (Nat.le_of_eq g18.symm)
  have f43 : Old Z n0 h18 := f38.ext E18
  have f44 : Arv Z h18 b6 k6 .long (2 : Int32) [(.long q2), (.long q3)] (.long (0 : Int64)) := f39.ext E18
  have f45 : Arv Z h18 b9 k9 .long (2 : Int32) [(.long v4), (.long v5)] (.long (0 : Int64)) := f40.ext E18
  have f46 : Arv Z h18 b12 k12 .boolean (2 : Int32) [(.int (nar .boolean v1)), (.int (nar .boolean v2))] (.int (0 : Int32)) := f41.ext E18
  have f47 : Arv Z h18 b15 k15 .boolean (2 : Int32) [(.int (nar .boolean v1)), (.int (nar .boolean v2))] (.int (0 : Int32)) := f42.ext E18
  have Zp18 : n0 ≤ h18.size := Nat.le_trans Zp17 E18.1
  have K18 : Keep h0 h18 [] := K17.ext E18
  have f48 : Exa Z h18 b18 "com/example/calchas/calchas/check/Hypothesis$Standing" := A18
  have f49 : Fld Z h18 b18 "com/example/calchas/calchas/check/Hypothesis$Standing" "state" "I" (.int (0 : Int32)) := D18 (Or.inr (hw _ (List.mem_of_getElem? (i := 12) rfl))) (ty := .int) (by decide)
  have f50 : Fld Z h18 b18 "com/example/calchas/calchas/check/Hypothesis$Standing" "variables" "[J" .null := D18 (Or.inr (hw _ (List.mem_of_getElem? (i := 14) rfl))) (ty := (.array .long)) (by decide)
  have f51 : Fld Z h18 b18 "com/example/calchas/calchas/check/Hypothesis$Standing" "matters" "[Z" .null := D18 (Or.inr (hw _ (List.mem_of_getElem? (i := 16) rfl))) (ty := (.array .boolean)) (by decide)
  have go36 : Go p e below A0 (T18.setTop (mkF m 145 #[.val (.int p0), .val (.int p1), .val (.long q2), .second, .val (.long q3), .second, .val (.long q4), .second, .val (.long q5), .second, .val (.int v1), .val (.int v2), .val (.int v3), .val (.long v4), .second, .val (.long v5), .second, .val (.int v6), .val (.ref b6), .val (.ref b9), .val (.ref b12), .val (.ref b15), .unset, .unset, .unset] [(.ref b12), (.ref b6), (.int p0), (.ref b18), (.ref b18)])) := by
    intro t k
    refine go35 t ?_
    refine st17 _ ?_
    show Steps p.tables e below (T17.setTop (mkF m 134 #[.val (.int p0), .val (.int p1), .val (.long q2), .second, .val (.long q3), .second, .val (.long q4), .second, .val (.long q5), .second, .val (.int v1), .val (.int v2), .val (.int v3), .val (.long v4), .second, .val (.long v5), .second, .val (.int v6), .val (.ref b6), .val (.ref b9), .val (.ref b12), .unset, .unset, .unset, .unset] [(.ref b15)])) _
    refine o_astore X17 hx hby at_134 136 rfl rfl (l' := #[.val (.int p0), .val (.int p1), .val (.long q2), .second, .val (.long q3), .second, .val (.long q4), .second, .val (.long q5), .second, .val (.int v1), .val (.int v2), .val (.int v3), .val (.long v4), .second, .val (.long v5), .second, .val (.int v6), .val (.ref b6), .val (.ref b9), .val (.ref b12), .val (.ref b15), .unset, .unset, .unset]) rfl ?_
    refine st18 _ ?_
    show Steps p.tables e below (T18.setTop (mkF m 139 #[.val (.int p0), .val (.int p1), .val (.long q2), .second, .val (.long q3), .second, .val (.long q4), .second, .val (.long q5), .second, .val (.int v1), .val (.int v2), .val (.int v3), .val (.long v4), .second, .val (.long v5), .second, .val (.int v6), .val (.ref b6), .val (.ref b9), .val (.ref b12), .val (.ref b15), .unset, .unset, .unset] [(.ref b18)])) _
    refine o_dup X18 hx hby at_139 140 rfl rfl ?_
    refine o_iloadN X18 hx hby at_140 141 rfl rfl ?_
    refine o_aload X18 hx hby at_141 143 rfl rfl rfl ?_
    refine o_aload X18 hx hby at_143 145 rfl rfl rfl ?_
    exact k
  obtain ⟨_, _, ⟨T19, L19, k19, n19⟩, -, X19, ⟨Lc19, hQ19, l19, y19, z19⟩, st19⟩ := X18.specialBack hx (y := (⟨"com/example/calchas/calchas/check/Hypothesis$Standing", "<init>", "(I[J[Z)V"⟩ : MethodName)) rfl hown (mvT hZ (hw _ (List.mem_of_getElem? (i := 5) rfl))) (mvT hZ (hw _ (List.mem_of_getElem? (i := 6) rfl))) (mvT hZ (hw _ (List.mem_of_getElem? (i := 7) rfl))) (by decide) (backOf (W := 1) (rm1 l Z aw hw [] b18 p0 b6 b12 h18 n0 Zp18 (f48) (g_b18) (f49) (f50) (f51)) hZ (hw _ (List.mem_of_getElem? (i := 7) rfl)) (hw _ (List.mem_of_getElem? (i := 4) rfl)) (by decide) (by decide)) (g := (mkF m 145 #[.val (.int p0), .val (.int p1), .val (.long q2), .second, .val (.long q3), .second, .val (.long q4), .second, .val (.long q5), .second, .val (.int v1), .val (.int v2), .val (.int v3), .val (.long v4), .second, .val (.long v5), .second, .val (.int v6), .val (.ref b6), .val (.ref b9), .val (.ref b12), .val (.ref b15), .unset, .unset, .unset] [(.ref b12), (.ref b6), (.int p0), (.ref b18), (.ref b18)])) rfl (by rw [hml]; rfl) (Steps.refl _) (a := b18) (argsL := [(.int p0), (.ref b6), (.ref b12)]) (rest := [(.ref b18)]) (lenOf pd_6 rfl) rfl (by show 2 * 0 + _ ≤ _; exact Nat.le_of_eq rfl) (hb hby at_145) (fun _ _ => ⟨rfl, e18, (by decide : 5 + 0 ≤ _), (by decide : 11 + 0 ≤ _)⟩)
  dsimp only [Pt.U, Pt.locs, Pt.cells, Pt.slots] at X19 l19 y19 z19 st19 hQ19
  subst l19 y19 z19
  obtain ⟨rfl, N19q, K19q, qf19_0, qf19_1, qf19_2, -⟩ := hQ19
  have f52 : Old Z n0 T19.heap := f43.keep K19q (allS g_b18 all0)
  have f53 : Arv Z T19.heap b6 k6 .long (2 : Int32) [(.long q2), (.long q3)] (.long (0 : Int64)) := f44.keep K19q (ninS ne_b6_b18 nin0)
  have f54 : Arv Z T19.heap b9 k9 .long (2 : Int32) [(.long v4), (.long v5)] (.long (0 : Int64)) := f45.keep K19q (ninS ne_b9_b18 nin0)
  have f55 : Arv Z T19.heap b12 k12 .boolean (2 : Int32) [(.int (nar .boolean v1)), (.int (nar .boolean v2))] (.int (0 : Int32)) := f46.keep K19q (ninS ne_b12_b18 nin0)
  have f56 : Arv Z T19.heap b15 k15 .boolean (2 : Int32) [(.int (nar .boolean v1)), (.int (nar .boolean v2))] (.int (0 : Int32)) := f47.keep K19q (ninS ne_b15_b18 nin0)
  have f57 : Exa Z T19.heap b18 "com/example/calchas/calchas/check/Hypothesis$Standing" := f48.keep K19q
  have Zp19 : n0 ≤ T19.heap.size := Nat.le_trans Zp18 K19q.1
  have K19 : Keep h0 T19.heap [] := Keep.trans K18 K19q (allS (P := fun x => x ∈ ([] : List Addr) ∨ h0.size ≤ x) (Or.inr sz_b18) all0)
  have f58 : Fld Z T19.heap b18 "com/example/calchas/calchas/check/Hypothesis$Standing" "state" "I" (.int p0) := qf19_0
  have f59 : Fld Z T19.heap b18 "com/example/calchas/calchas/check/Hypothesis$Standing" "variables" "[J" (.ref b6) := qf19_1
  have f60 : Fld Z T19.heap b18 "com/example/calchas/calchas/check/Hypothesis$Standing" "matters" "[Z" (.ref b12) := qf19_2
  have N19 := Fr.app N17 N19q
  have go37 : Go p e below A0 (T19.setTop (mkF m 153 #[.val (.int p0), .val (.int p1), .val (.long q2), .second, .val (.long q3), .second, .val (.long q4), .second, .val (.long q5), .second, .val (.int v1), .val (.int v2), .val (.int v3), .val (.long v4), .second, .val (.long v5), .second, .val (.int v6), .val (.ref b6), .val (.ref b9), .val (.ref b12), .val (.ref b15), .val (.ref b18), .unset, .unset] [(.int (2 : Int32)), (.int v6)])) := by
    intro t k
    refine go36 t ?_
    refine st19.trans ?_
    show Steps p.tables e below (T19.setTop (mkF m 148 #[.val (.int p0), .val (.int p1), .val (.long q2), .second, .val (.long q3), .second, .val (.long q4), .second, .val (.long q5), .second, .val (.int v1), .val (.int v2), .val (.int v3), .val (.long v4), .second, .val (.long v5), .second, .val (.int v6), .val (.ref b6), .val (.ref b9), .val (.ref b12), .val (.ref b15), .unset, .unset, .unset] [(.ref b18)])) _
    refine o_astore X19 hx hby at_148 150 rfl rfl (l' := #[.val (.int p0), .val (.int p1), .val (.long q2), .second, .val (.long q3), .second, .val (.long q4), .second, .val (.long q5), .second, .val (.int v1), .val (.int v2), .val (.int v3), .val (.long v4), .second, .val (.long v5), .second, .val (.int v6), .val (.ref b6), .val (.ref b9), .val (.ref b12), .val (.ref b15), .val (.ref b18), .unset, .unset]) rfl ?_
    refine o_iload X19 hx hby at_150 152 rfl rfl ?_
    refine o_iconst X19 hx hby at_152 153 rfl (v := (2 : Int32)) rfl ?_
    exact k
  by_cases hc153_20 : v6 = (2 : Int32)
  · have go38 : Go p e below A0 (T19.setTop (mkF m 157 #[.val (.int p0), .val (.int p1), .val (.long q2), .second, .val (.long q3), .second, .val (.long q4), .second, .val (.long q5), .second, .val (.int v1), .val (.int v2), .val (.int v3), .val (.long v4), .second, .val (.long v5), .second, .val (.int v6), .val (.ref b6), .val (.ref b9), .val (.ref b12), .val (.ref b15), .val (.ref b18), .unset, .unset] [(.int p0)])) := by
      intro t k
      refine go37 t ?_
      refine o_icmpN X19 hx hby at_153 156 rfl (teq hc153_20).2 ?_
      refine o_iloadN X19 hx hby at_156 157 rfl rfl ?_
      exact k
    obtain ⟨_, _, ⟨T21, L21, k21, n21⟩, -, X21, ⟨Lc21, hQ21, l21, y21, z21⟩, st21⟩ := Jvm.LawKit.callS X19 hx (y := (⟨"java/lang/Integer", "valueOf", "(I)Ljava/lang/Integer;"⟩ : MethodName)) hown (mvT hZ (hw _ (List.mem_of_getElem? (i := 24) rfl))) (mvT hZ (hw _ (List.mem_of_getElem? (i := 25) rfl))) (mvT hZ (hw _ (List.mem_of_getElem? (i := 26) rfl))) (mvT hZ (hw _ (List.mem_of_getElem? (i := 27) rfl))) (by decide) (backOf (W := 0) (rm4 l Z aw hw [] p0 ca cc vl T19.heap n0 Zp19 (r0) (r1) (f52) (hB)) hZ (hw _ (List.mem_of_getElem? (i := 27) rfl)) (hw _ (List.mem_of_getElem? (i := 26) rfl)) (by decide) (by decide)) (g := (mkF m 157 #[.val (.int p0), .val (.int p1), .val (.long q2), .second, .val (.long q3), .second, .val (.long q4), .second, .val (.long q5), .second, .val (.int v1), .val (.int v2), .val (.int v3), .val (.long v4), .second, .val (.long v5), .second, .val (.int v6), .val (.ref b6), .val (.ref b9), .val (.ref b12), .val (.ref b15), .val (.ref b18), .unset, .unset] [(.int p0)])) rfl (by rw [hml]; rfl) (argsL := [(.int p0)]) (rest := []) (lenOf pd_7 rfl) rfl (by show 2 * 0 + _ ≤ _; exact Nat.le_of_eq rfl) (hb hby at_157) (fun _ _ => ⟨rfl, rfl, (by decide : 5 + 1 ≤ _), (by decide : 11 + 1 ≤ _)⟩)
    dsimp only [Pt.U, Pt.locs, Pt.cells, Pt.slots] at X21 l21 y21 z21 st21 hQ21
    subst l21 y21 z21
    obtain ⟨r21_r, rfl, N21q, K21q, qf21_0, -⟩ := hQ21
    have f61 : Old Z n0 T21.heap := f52.keep K21q all0
    have f62 : Arv Z T21.heap b6 k6 .long (2 : Int32) [(.long q2), (.long q3)] (.long (0 : Int64)) := f53.keep K21q nin0
    have f63 : Arv Z T21.heap b9 k9 .long (2 : Int32) [(.long v4), (.long v5)] (.long (0 : Int64)) := f54.keep K21q nin0
    have f64 : Arv Z T21.heap b12 k12 .boolean (2 : Int32) [(.int (nar .boolean v1)), (.int (nar .boolean v2))] (.int (0 : Int32)) := f55.keep K21q nin0
    have f65 : Arv Z T21.heap b15 k15 .boolean (2 : Int32) [(.int (nar .boolean v1)), (.int (nar .boolean v2))] (.int (0 : Int32)) := f56.keep K21q nin0
    have f66 : Exa Z T21.heap b18 "com/example/calchas/calchas/check/Hypothesis$Standing" := f57.keep K21q
    have f67 : Fld Z T21.heap b18 "com/example/calchas/calchas/check/Hypothesis$Standing" "state" "I" (.int p0) := f58.keep K21q nin0
    have f68 : Fld Z T21.heap b18 "com/example/calchas/calchas/check/Hypothesis$Standing" "variables" "[J" (.ref b6) := f59.keep K21q nin0
    have f69 : Fld Z T21.heap b18 "com/example/calchas/calchas/check/Hypothesis$Standing" "matters" "[Z" (.ref b12) := f60.keep K21q nin0
    have Zp21 : n0 ≤ T21.heap.size := Nat.le_trans Zp19 K21q.1
    have K21 : Keep h0 T21.heap [] := Keep.trans K19 K21q all0
    have f70 : Exa Z T21.heap r21_r "java/lang/Integer" := qf21_0
    have N21 := Fr.app N19 N21q
    have go39 : Go p e below A0 (T21.setTop (mkF m 160 #[.val (.int p0), .val (.int p1), .val (.long q2), .second, .val (.long q3), .second, .val (.long q4), .second, .val (.long q5), .second, .val (.int v1), .val (.int v2), .val (.int v3), .val (.long v4), .second, .val (.long v5), .second, .val (.int v6), .val (.ref b6), .val (.ref b9), .val (.ref b12), .val (.ref b15), .val (.ref b18), .unset, .unset] [(.ref r21_r)])) := by
      intro t k
      refine go38 t ?_
      refine st21 _ ?_
      show Steps p.tables e below (T21.setTop (mkF m 160 #[.val (.int p0), .val (.int p1), .val (.long q2), .second, .val (.long q3), .second, .val (.long q4), .second, .val (.long q5), .second, .val (.int v1), .val (.int v2), .val (.int v3), .val (.long v4), .second, .val (.long v5), .second, .val (.int v6), .val (.ref b6), .val (.ref b9), .val (.ref b12), .val (.ref b15), .val (.ref b18), .unset, .unset] [(.ref r21_r)])) _
      exact k
    have go40 : Go p e below A0 (T21.setTop (mkF m 195 #[.val (.int p0), .val (.int p1), .val (.long q2), .second, .val (.long q3), .second, .val (.long q4), .second, .val (.long q5), .second, .val (.int v1), .val (.int v2), .val (.int v3), .val (.long v4), .second, .val (.long v5), .second, .val (.int v6), .val (.ref b6), .val (.ref b9), .val (.ref b12), .val (.ref b15), .val (.ref b18), .val (.ref r21_r), .unset] [(.int (2 : Int32)), (.int v6)])) := by
      intro t k
      refine go39 t ?_
      refine o_astore X21 hx hby at_160 162 rfl rfl (l' := #[.val (.int p0), .val (.int p1), .val (.long q2), .second, .val (.long q3), .second, .val (.long q4), .second, .val (.long q5), .second, .val (.int v1), .val (.int v2), .val (.int v3), .val (.long v4), .second, .val (.long v5), .second, .val (.int v6), .val (.ref b6), .val (.ref b9), .val (.ref b12), .val (.ref b15), .val (.ref b18), .val (.ref r21_r), .unset]) rfl ?_
      refine o_goto X21 hx hby at_162 192 rfl ?_
      refine o_iload X21 hx hby at_192 194 rfl rfl ?_
      refine o_iconst X21 hx hby at_194 195 rfl (v := (2 : Int32)) rfl ?_
      exact k
    obtain ⟨v14, hv14, go64⟩ : ∃ (v14 : Int32), v14 = (if v6 < (2 : Int32) then (if p0 = v3 then (if v1 = (0 : Int32) then (if v2 = (0 : Int32) then (1 : Int32) else (if q3 = v5 then (1 : Int32) else (0 : Int32))) else (if q2 = v4 then (if v2 = (0 : Int32) then (1 : Int32) else (if q3 = v5 then (1 : Int32) else (0 : Int32))) else (0 : Int32))) else (0 : Int32)) else (0 : Int32)) ∧ Go p e below A0 (T21.setTop (mkF m 234 #[.val (.int p0), .val (.int p1), .val (.long q2), .second, .val (.long q3), .second, .val (.long q4), .second, .val (.long q5), .second, .val (.int v1), .val (.int v2), .val (.int v3), .val (.long v4), .second, .val (.long v5), .second, .val (.int v6), .val (.ref b6), .val (.ref b9), .val (.ref b12), .val (.ref b15), .val (.ref b18), .val (.ref r21_r), .unset] [(.int v14)])) := by
      by_cases hc195_22 : v6 < (2 : Int32)
      · have go41 : Go p e below A0 (T21.setTop (mkF m 201 #[.val (.int p0), .val (.int p1), .val (.long q2), .second, .val (.long q3), .second, .val (.long q4), .second, .val (.long q5), .second, .val (.int v1), .val (.int v2), .val (.int v3), .val (.long v4), .second, .val (.long v5), .second, .val (.int v6), .val (.ref b6), .val (.ref b9), .val (.ref b12), .val (.ref b15), .val (.ref b18), .val (.ref r21_r), .unset] [(.int v3), (.int p0)])) := by
          intro t k
          refine go40 t ?_
          refine o_icmpN X21 hx hby at_195 198 rfl (tlt hc195_22).2.1 ?_
          refine o_iloadN X21 hx hby at_198 199 rfl rfl ?_
          refine o_iload X21 hx hby at_199 201 rfl rfl ?_
          exact k
        obtain ⟨v13, hv13, go62⟩ : ∃ (v13 : Int32), v13 = (if p0 = v3 then (if v1 = (0 : Int32) then (if v2 = (0 : Int32) then (1 : Int32) else (if q3 = v5 then (1 : Int32) else (0 : Int32))) else (if q2 = v4 then (if v2 = (0 : Int32) then (1 : Int32) else (if q3 = v5 then (1 : Int32) else (0 : Int32))) else (0 : Int32))) else (0 : Int32)) ∧ Go p e below A0 (T21.setTop (mkF m 234 #[.val (.int p0), .val (.int p1), .val (.long q2), .second, .val (.long q3), .second, .val (.long q4), .second, .val (.long q5), .second, .val (.int v1), .val (.int v2), .val (.int v3), .val (.long v4), .second, .val (.long v5), .second, .val (.int v6), .val (.ref b6), .val (.ref b9), .val (.ref b12), .val (.ref b15), .val (.ref b18), .val (.ref r21_r), .unset] [(.int v13)])) := by
          by_cases hc201_23 : p0 = v3
          · have go42 : Go p e below A0 (T21.setTop (mkF m 206 #[.val (.int p0), .val (.int p1), .val (.long q2), .second, .val (.long q3), .second, .val (.long q4), .second, .val (.long q5), .second, .val (.int v1), .val (.int v2), .val (.int v3), .val (.long v4), .second, .val (.long v5), .second, .val (.int v6), .val (.ref b6), .val (.ref b9), .val (.ref b12), .val (.ref b15), .val (.ref b18), .val (.ref r21_r), .unset] [(.int v1)])) := by
              intro t k
              refine go41 t ?_
              refine o_icmpN X21 hx hby at_201 204 rfl (teq hc201_23).2 ?_
              refine o_iload X21 hx hby at_204 206 rfl rfl ?_
              exact k
            obtain ⟨v12, hv12, go60⟩ : ∃ (v12 : Int32), v12 = (if v1 = (0 : Int32) then (if v2 = (0 : Int32) then (1 : Int32) else (if q3 = v5 then (1 : Int32) else (0 : Int32))) else (if q2 = v4 then (if v2 = (0 : Int32) then (1 : Int32) else (if q3 = v5 then (1 : Int32) else (0 : Int32))) else (0 : Int32))) ∧ Go p e below A0 (T21.setTop (mkF m 234 #[.val (.int p0), .val (.int p1), .val (.long q2), .second, .val (.long q3), .second, .val (.long q4), .second, .val (.long q5), .second, .val (.int v1), .val (.int v2), .val (.int v3), .val (.long v4), .second, .val (.long v5), .second, .val (.int v6), .val (.ref b6), .val (.ref b9), .val (.ref b12), .val (.ref b15), .val (.ref b18), .val (.ref r21_r), .unset] [(.int v12)])) := by
              by_cases hc206_24 : v1 = (0 : Int32)
              · have go43 : Go p e below A0 (T21.setTop (mkF m 218 #[.val (.int p0), .val (.int p1), .val (.long q2), .second, .val (.long q3), .second, .val (.long q4), .second, .val (.long q5), .second, .val (.int v1), .val (.int v2), .val (.int v3), .val (.long v4), .second, .val (.long v5), .second, .val (.int v6), .val (.ref b6), .val (.ref b9), .val (.ref b12), .val (.ref b15), .val (.ref b18), .val (.ref r21_r), .unset] [(.int v2)])) := by
                  intro t k
                  refine go42 t ?_
                  refine o_ifY X21 hx hby at_206 216 rfl (teq hc206_24).1 ?_
                  refine o_iload X21 hx hby at_216 218 rfl rfl ?_
                  exact k
                obtain ⟨v8, hv8, go49⟩ : ∃ (v8 : Int32), v8 = (if v2 = (0 : Int32) then (1 : Int32) else (if q3 = v5 then (1 : Int32) else (0 : Int32))) ∧ Go p e below A0 (T21.setTop (mkF m 234 #[.val (.int p0), .val (.int p1), .val (.long q2), .second, .val (.long q3), .second, .val (.long q4), .second, .val (.long q5), .second, .val (.int v1), .val (.int v2), .val (.int v3), .val (.long v4), .second, .val (.long v5), .second, .val (.int v6), .val (.ref b6), .val (.ref b9), .val (.ref b12), .val (.ref b15), .val (.ref b18), .val (.ref r21_r), .unset] [(.int v8)])) := by
                  by_cases hc218_25 : v2 = (0 : Int32)
                  · have go44 : Go p e below A0 (T21.setTop (mkF m 234 #[.val (.int p0), .val (.int p1), .val (.long q2), .second, .val (.long q3), .second, .val (.long q4), .second, .val (.long q5), .second, .val (.int v1), .val (.int v2), .val (.int v3), .val (.long v4), .second, .val (.long v5), .second, .val (.int v6), .val (.ref b6), .val (.ref b9), .val (.ref b12), .val (.ref b15), .val (.ref b18), .val (.ref r21_r), .unset] [(.int (1 : Int32))])) := by
                      intro t k
                      refine go43 t ?_
                      refine o_ifY X21 hx hby at_218 229 rfl (teq hc218_25).1 ?_
                      refine o_iconst X21 hx hby at_229 230 rfl (v := (1 : Int32)) rfl ?_
                      refine o_goto X21 hx hby at_230 234 rfl ?_
                      exact k
                    exact ⟨(1 : Int32), (if_pos hc218_25).symm, go44⟩
                  · have go45 : Go p e below A0 (T21.setTop (mkF m 226 #[.val (.int p0), .val (.int p1), .val (.long q2), .second, .val (.long q3), .second, .val (.long q4), .second, .val (.long q5), .second, .val (.int v1), .val (.int v2), .val (.int v3), .val (.long v4), .second, .val (.long v5), .second, .val (.int v6), .val (.ref b6), .val (.ref b9), .val (.ref b12), .val (.ref b15), .val (.ref b18), .val (.ref r21_r), .unset] [(.int (lcmpW q3 v5))])) := by
                      intro t k
                      refine go43 t ?_
                      refine o_ifN X21 hx hby at_218 221 rfl (feq hc218_25).1 ?_
                      refine o_lload X21 hx hby at_221 223 rfl rfl ?_
                      refine o_lload X21 hx hby at_223 225 rfl rfl ?_
                      refine o_lcmp X21 hx hby at_225 226 rfl ?_
                      exact k
                    obtain ⟨v7, hv7, go48⟩ : ∃ (v7 : Int32), v7 = (if q3 = v5 then (1 : Int32) else (0 : Int32)) ∧ Go p e below A0 (T21.setTop (mkF m 234 #[.val (.int p0), .val (.int p1), .val (.long q2), .second, .val (.long q3), .second, .val (.long q4), .second, .val (.long q5), .second, .val (.int v1), .val (.int v2), .val (.int v3), .val (.long v4), .second, .val (.long v5), .second, .val (.int v6), .val (.ref b6), .val (.ref b9), .val (.ref b12), .val (.ref b15), .val (.ref b18), .val (.ref r21_r), .unset] [(.int v7)])) := by
                      by_cases hc226_26 : q3 = v5
                      · have go46 : Go p e below A0 (T21.setTop (mkF m 234 #[.val (.int p0), .val (.int p1), .val (.long q2), .second, .val (.long q3), .second, .val (.long q4), .second, .val (.long q5), .second, .val (.int v1), .val (.int v2), .val (.int v3), .val (.long v4), .second, .val (.long v5), .second, .val (.int v6), .val (.ref b6), .val (.ref b9), .val (.ref b12), .val (.ref b15), .val (.ref b18), .val (.ref r21_r), .unset] [(.int (1 : Int32))])) := by
                          intro t k
                          refine go45 t ?_
                          refine o_ifN X21 hx hby at_226 229 rfl (teq ((lw_eq q3 v5).mpr hc226_26)).2 ?_
                          refine o_iconst X21 hx hby at_229 230 rfl (v := (1 : Int32)) rfl ?_
                          refine o_goto X21 hx hby at_230 234 rfl ?_
                          exact k
                        exact ⟨(1 : Int32), (if_pos hc226_26).symm, go46⟩
                      · have go47 : Go p e below A0 (T21.setTop (mkF m 234 #[.val (.int p0), .val (.int p1), .val (.long q2), .second, .val (.long q3), .second, .val (.long q4), .second, .val (.long q5), .second, .val (.int v1), .val (.int v2), .val (.int v3), .val (.long v4), .second, .val (.long v5), .second, .val (.int v6), .val (.ref b6), .val (.ref b9), .val (.ref b12), .val (.ref b15), .val (.ref b18), .val (.ref r21_r), .unset] [(.int (0 : Int32))])) := by
                          intro t k
                          refine go45 t ?_
                          refine o_ifY X21 hx hby at_226 233 rfl (feq (fun q => hc226_26 ((lw_eq q3 v5).mp q))).2 ?_
                          refine o_iconst X21 hx hby at_233 234 rfl (v := (0 : Int32)) rfl ?_
                          exact k
                        exact ⟨(0 : Int32), (if_neg hc226_26).symm, go47⟩
                    subst hv7
                    exact ⟨(if q3 = v5 then (1 : Int32) else (0 : Int32)), (if_neg hc218_25).symm, go48⟩
                subst hv8
                exact ⟨(if v2 = (0 : Int32) then (1 : Int32) else (if q3 = v5 then (1 : Int32) else (0 : Int32))), (if_pos hc206_24).symm, go49⟩
              · have go50 : Go p e below A0 (T21.setTop (mkF m 213 #[.val (.int p0), .val (.int p1), .val (.long q2), .second, .val (.long q3), .second, .val (.long q4), .second, .val (.long q5), .second, .val (.int v1), .val (.int v2), .val (.int v3), .val (.long v4), .second, .val (.long v5), .second, .val (.int v6), .val (.ref b6), .val (.ref b9), .val (.ref b12), .val (.ref b15), .val (.ref b18), .val (.ref r21_r), .unset] [(.int (lcmpW q2 v4))])) := by
                  intro t k
                  refine go42 t ?_
                  refine o_ifN X21 hx hby at_206 209 rfl (feq hc206_24).1 ?_
                  refine o_lloadN X21 hx hby at_209 210 rfl rfl ?_
                  refine o_lload X21 hx hby at_210 212 rfl rfl ?_
                  refine o_lcmp X21 hx hby at_212 213 rfl ?_
                  exact k
                obtain ⟨v11, hv11, go59⟩ : ∃ (v11 : Int32), v11 = (if q2 = v4 then (if v2 = (0 : Int32) then (1 : Int32) else (if q3 = v5 then (1 : Int32) else (0 : Int32))) else (0 : Int32)) ∧ Go p e below A0 (T21.setTop (mkF m 234 #[.val (.int p0), .val (.int p1), .val (.long q2), .second, .val (.long q3), .second, .val (.long q4), .second, .val (.long q5), .second, .val (.int v1), .val (.int v2), .val (.int v3), .val (.long v4), .second, .val (.long v5), .second, .val (.int v6), .val (.ref b6), .val (.ref b9), .val (.ref b12), .val (.ref b15), .val (.ref b18), .val (.ref r21_r), .unset] [(.int v11)])) := by
                  by_cases hc213_27 : q2 = v4
                  · have go51 : Go p e below A0 (T21.setTop (mkF m 218 #[.val (.int p0), .val (.int p1), .val (.long q2), .second, .val (.long q3), .second, .val (.long q4), .second, .val (.long q5), .second, .val (.int v1), .val (.int v2), .val (.int v3), .val (.long v4), .second, .val (.long v5), .second, .val (.int v6), .val (.ref b6), .val (.ref b9), .val (.ref b12), .val (.ref b15), .val (.ref b18), .val (.ref r21_r), .unset] [(.int v2)])) := by
                      intro t k
                      refine go50 t ?_
                      refine o_ifN X21 hx hby at_213 216 rfl (teq ((lw_eq q2 v4).mpr hc213_27)).2 ?_
                      refine o_iload X21 hx hby at_216 218 rfl rfl ?_
                      exact k
                    obtain ⟨v10, hv10, go57⟩ : ∃ (v10 : Int32), v10 = (if v2 = (0 : Int32) then (1 : Int32) else (if q3 = v5 then (1 : Int32) else (0 : Int32))) ∧ Go p e below A0 (T21.setTop (mkF m 234 #[.val (.int p0), .val (.int p1), .val (.long q2), .second, .val (.long q3), .second, .val (.long q4), .second, .val (.long q5), .second, .val (.int v1), .val (.int v2), .val (.int v3), .val (.long v4), .second, .val (.long v5), .second, .val (.int v6), .val (.ref b6), .val (.ref b9), .val (.ref b12), .val (.ref b15), .val (.ref b18), .val (.ref r21_r), .unset] [(.int v10)])) := by
                      by_cases hc218_28 : v2 = (0 : Int32)
                      · have go52 : Go p e below A0 (T21.setTop (mkF m 234 #[.val (.int p0), .val (.int p1), .val (.long q2), .second, .val (.long q3), .second, .val (.long q4), .second, .val (.long q5), .second, .val (.int v1), .val (.int v2), .val (.int v3), .val (.long v4), .second, .val (.long v5), .second, .val (.int v6), .val (.ref b6), .val (.ref b9), .val (.ref b12), .val (.ref b15), .val (.ref b18), .val (.ref r21_r), .unset] [(.int (1 : Int32))])) := by
                          intro t k
                          refine go51 t ?_
                          refine o_ifY X21 hx hby at_218 229 rfl (teq hc218_28).1 ?_
                          refine o_iconst X21 hx hby at_229 230 rfl (v := (1 : Int32)) rfl ?_
                          refine o_goto X21 hx hby at_230 234 rfl ?_
                          exact k
                        exact ⟨(1 : Int32), (if_pos hc218_28).symm, go52⟩
                      · have go53 : Go p e below A0 (T21.setTop (mkF m 226 #[.val (.int p0), .val (.int p1), .val (.long q2), .second, .val (.long q3), .second, .val (.long q4), .second, .val (.long q5), .second, .val (.int v1), .val (.int v2), .val (.int v3), .val (.long v4), .second, .val (.long v5), .second, .val (.int v6), .val (.ref b6), .val (.ref b9), .val (.ref b12), .val (.ref b15), .val (.ref b18), .val (.ref r21_r), .unset] [(.int (lcmpW q3 v5))])) := by
                          intro t k
                          refine go51 t ?_
                          refine o_ifN X21 hx hby at_218 221 rfl (feq hc218_28).1 ?_
                          refine o_lload X21 hx hby at_221 223 rfl rfl ?_
                          refine o_lload X21 hx hby at_223 225 rfl rfl ?_
                          refine o_lcmp X21 hx hby at_225 226 rfl ?_
                          exact k
                        obtain ⟨v9, hv9, go56⟩ : ∃ (v9 : Int32), v9 = (if q3 = v5 then (1 : Int32) else (0 : Int32)) ∧ Go p e below A0 (T21.setTop (mkF m 234 #[.val (.int p0), .val (.int p1), .val (.long q2), .second, .val (.long q3), .second, .val (.long q4), .second, .val (.long q5), .second, .val (.int v1), .val (.int v2), .val (.int v3), .val (.long v4), .second, .val (.long v5), .second, .val (.int v6), .val (.ref b6), .val (.ref b9), .val (.ref b12), .val (.ref b15), .val (.ref b18), .val (.ref r21_r), .unset] [(.int v9)])) := by
                          by_cases hc226_29 : q3 = v5
                          · have go54 : Go p e below A0 (T21.setTop (mkF m 234 #[.val (.int p0), .val (.int p1), .val (.long q2), .second, .val (.long q3), .second, .val (.long q4), .second, .val (.long q5), .second, .val (.int v1), .val (.int v2), .val (.int v3), .val (.long v4), .second, .val (.long v5), .second, .val (.int v6), .val (.ref b6), .val (.ref b9), .val (.ref b12), .val (.ref b15), .val (.ref b18), .val (.ref r21_r), .unset] [(.int (1 : Int32))])) := by
                              intro t k
                              refine go53 t ?_
                              refine o_ifN X21 hx hby at_226 229 rfl (teq ((lw_eq q3 v5).mpr hc226_29)).2 ?_
                              refine o_iconst X21 hx hby at_229 230 rfl (v := (1 : Int32)) rfl ?_
                              refine o_goto X21 hx hby at_230 234 rfl ?_
                              exact k
                            exact ⟨(1 : Int32), (if_pos hc226_29).symm, go54⟩
                          · have go55 : Go p e below A0 (T21.setTop (mkF m 234 #[.val (.int p0), .val (.int p1), .val (.long q2), .second, .val (.long q3), .second, .val (.long q4), .second, .val (.long q5), .second, .val (.int v1), .val (.int v2), .val (.int v3), .val (.long v4), .second, .val (.long v5), .second, .val (.int v6), .val (.ref b6), .val (.ref b9), .val (.ref b12), .val (.ref b15), .val (.ref b18), .val (.ref r21_r), .unset] [(.int (0 : Int32))])) := by
                              intro t k
                              refine go53 t ?_
                              refine o_ifY X21 hx hby at_226 233 rfl (feq (fun q => hc226_29 ((lw_eq q3 v5).mp q))).2 ?_
                              refine o_iconst X21 hx hby at_233 234 rfl (v := (0 : Int32)) rfl ?_
                              exact k
                            exact ⟨(0 : Int32), (if_neg hc226_29).symm, go55⟩
                        subst hv9
                        exact ⟨(if q3 = v5 then (1 : Int32) else (0 : Int32)), (if_neg hc218_28).symm, go56⟩
                    subst hv10
                    exact ⟨(if v2 = (0 : Int32) then (1 : Int32) else (if q3 = v5 then (1 : Int32) else (0 : Int32))), (if_pos hc213_27).symm, go57⟩
                  · have go58 : Go p e below A0 (T21.setTop (mkF m 234 #[.val (.int p0), .val (.int p1), .val (.long q2), .second, .val (.long q3), .second, .val (.long q4), .second, .val (.long q5), .second, .val (.int v1), .val (.int v2), .val (.int v3), .val (.long v4), .second, .val (.long v5), .second, .val (.int v6), .val (.ref b6), .val (.ref b9), .val (.ref b12), .val (.ref b15), .val (.ref b18), .val (.ref r21_r), .unset] [(.int (0 : Int32))])) := by
                      intro t k
                      refine go50 t ?_
                      refine o_ifY X21 hx hby at_213 233 rfl (feq (fun q => hc213_27 ((lw_eq q2 v4).mp q))).2 ?_
                      refine o_iconst X21 hx hby at_233 234 rfl (v := (0 : Int32)) rfl ?_
                      exact k
                    exact ⟨(0 : Int32), (if_neg hc213_27).symm, go58⟩
                subst hv11
                exact ⟨(if q2 = v4 then (if v2 = (0 : Int32) then (1 : Int32) else (if q3 = v5 then (1 : Int32) else (0 : Int32))) else (0 : Int32)), (if_neg hc206_24).symm, go59⟩
            subst hv12
            exact ⟨(if v1 = (0 : Int32) then (if v2 = (0 : Int32) then (1 : Int32) else (if q3 = v5 then (1 : Int32) else (0 : Int32))) else (if q2 = v4 then (if v2 = (0 : Int32) then (1 : Int32) else (if q3 = v5 then (1 : Int32) else (0 : Int32))) else (0 : Int32))), (if_pos hc201_23).symm, go60⟩
          · have go61 : Go p e below A0 (T21.setTop (mkF m 234 #[.val (.int p0), .val (.int p1), .val (.long q2), .second, .val (.long q3), .second, .val (.long q4), .second, .val (.long q5), .second, .val (.int v1), .val (.int v2), .val (.int v3), .val (.long v4), .second, .val (.long v5), .second, .val (.int v6), .val (.ref b6), .val (.ref b9), .val (.ref b12), .val (.ref b15), .val (.ref b18), .val (.ref r21_r), .unset] [(.int (0 : Int32))])) := by
              intro t k
              refine go41 t ?_
              refine o_icmpY X21 hx hby at_201 233 rfl (feq hc201_23).2 ?_
              refine o_iconst X21 hx hby at_233 234 rfl (v := (0 : Int32)) rfl ?_
              exact k
            exact ⟨(0 : Int32), (if_neg hc201_23).symm, go61⟩
        subst hv13
        exact ⟨(if p0 = v3 then (if v1 = (0 : Int32) then (if v2 = (0 : Int32) then (1 : Int32) else (if q3 = v5 then (1 : Int32) else (0 : Int32))) else (if q2 = v4 then (if v2 = (0 : Int32) then (1 : Int32) else (if q3 = v5 then (1 : Int32) else (0 : Int32))) else (0 : Int32))) else (0 : Int32)), (if_pos hc195_22).symm, go62⟩
      · have go63 : Go p e below A0 (T21.setTop (mkF m 234 #[.val (.int p0), .val (.int p1), .val (.long q2), .second, .val (.long q3), .second, .val (.long q4), .second, .val (.long q5), .second, .val (.int v1), .val (.int v2), .val (.int v3), .val (.long v4), .second, .val (.long v5), .second, .val (.int v6), .val (.ref b6), .val (.ref b9), .val (.ref b12), .val (.ref b15), .val (.ref b18), .val (.ref r21_r), .unset] [(.int (0 : Int32))])) := by
          intro t k
          refine go40 t ?_
          refine o_icmpY X21 hx hby at_195 233 rfl (flt hc195_22).2.1 ?_
          refine o_iconst X21 hx hby at_233 234 rfl (v := (0 : Int32)) rfl ?_
          exact k
        exact ⟨(0 : Int32), (if_neg hc195_22).symm, go63⟩
    have go65 : Go p e below A0 (T21.setTop (mkF m 236 #[.val (.int p0), .val (.int p1), .val (.long q2), .second, .val (.long q3), .second, .val (.long q4), .second, .val (.long q5), .second, .val (.int v1), .val (.int v2), .val (.int v3), .val (.long v4), .second, .val (.long v5), .second, .val (.int v6), .val (.ref b6), .val (.ref b9), .val (.ref b12), .val (.ref b15), .val (.ref b18), .val (.ref r21_r), .val (.int v14)] [])) := by
      intro t k
      refine go64 t ?_
      refine o_istore X21 hx hby at_234 236 rfl (l' := #[.val (.int p0), .val (.int p1), .val (.long q2), .second, .val (.long q3), .second, .val (.long q4), .second, .val (.long q5), .second, .val (.int v1), .val (.int v2), .val (.int v3), .val (.long v4), .second, .val (.long v5), .second, .val (.int v6), .val (.ref b6), .val (.ref b9), .val (.ref b12), .val (.ref b15), .val (.ref b18), .val (.ref r21_r), .val (.int v14)]) rfl ?_
      exact k
    have go66 : Go p e below A0 (T21.setTop (mkF m 240 #[.val (.int p0), .val (.int p1), .val (.long q2), .second, .val (.long q3), .second, .val (.long q4), .second, .val (.long q5), .second, .val (.int v1), .val (.int v2), .val (.int v3), .val (.long v4), .second, .val (.long v5), .second, .val (.int v6), .val (.ref b6), .val (.ref b9), .val (.ref b12), .val (.ref b15), .val (.ref b18), .val (.ref r21_r), .val (.int v14)] [(.ref r21_r), (.ref b18)])) := by
      intro t k
      refine go65 t ?_
      refine o_aload X21 hx hby at_236 238 rfl rfl rfl ?_
      refine o_aload X21 hx hby at_238 240 rfl rfl rfl ?_
      exact k
    obtain ⟨cq30, kq30, q30a, q30b, q30c⟩ := isOf hZ rfl f66
    obtain ⟨_, _, ⟨T30, L30, k30, n30⟩, -, X30, ⟨Lc30, hQ30, l30, y30, z30⟩, st30⟩ := X21.virtualBack hx (y := (⟨"com/example/calchas/calchas/check/Hypothesis$Standing", "equals", "(Ljava/lang/Object;)Z"⟩ : MethodName)) (z := (⟨"com/example/calchas/calchas/check/Hypothesis$Standing", "equals", "(Ljava/lang/Object;)Z"⟩ : MethodName)) hown (mvT hZ (hw _ (List.mem_of_getElem? (i := 17) rfl))) (mvT hZ (hw _ (List.mem_of_getElem? (i := 18) rfl))) (notFace_of_selects (args := #[]) (mvT hZ (hw _ (List.mem_of_getElem? (i := 20) rfl)))) (mvT hZ (hw _ (List.mem_of_getElem? (i := 20) rfl))) (mvT hZ (hw _ (List.mem_of_getElem? (i := 19) rfl))) (by decide) (backOf (W := 0) (rm3i l Z aw hw [] b18 r21_r T21.heap n0 Zp21 (f70)) hZ (hw _ (List.mem_of_getElem? (i := 21) rfl)) (hw _ (List.mem_of_getElem? (i := 4) rfl)) (by decide) (by decide)) q30a q30c (g := (mkF m 240 #[.val (.int p0), .val (.int p1), .val (.long q2), .second, .val (.long q3), .second, .val (.long q4), .second, .val (.long q5), .second, .val (.int v1), .val (.int v2), .val (.int v3), .val (.long v4), .second, .val (.long v5), .second, .val (.int v6), .val (.ref b6), .val (.ref b9), .val (.ref b12), .val (.ref b15), .val (.ref b18), .val (.ref r21_r), .val (.int v14)] [(.ref r21_r), (.ref b18)])) rfl (by rw [hml]; rfl) (Steps.refl _) (argsL := [(.ref r21_r)]) (rest := []) (lenOf pd_8 rfl) rfl (by show 2 * 0 + _ ≤ _; exact Nat.le_of_eq rfl) (hb hby at_240) (fun _ _ => ⟨rfl, rfl, (by decide : 6 + 0 ≤ _), (by decide : 12 + 0 ≤ _)⟩)
    dsimp only [Pt.U, Pt.locs, Pt.cells, Pt.slots] at X30 l30 y30 z30 st30 hQ30
    subst l30 y30 z30
    obtain ⟨rfl, N30q, e30⟩ := hQ30
    have N30 := Fr.app N21 N30q
    have go67 : Go p e below A0 (T30.setTop (mkF m 243 #[.val (.int p0), .val (.int p1), .val (.long q2), .second, .val (.long q3), .second, .val (.long q4), .second, .val (.long q5), .second, .val (.int v1), .val (.int v2), .val (.int v3), .val (.long v4), .second, .val (.long v5), .second, .val (.int v6), .val (.ref b6), .val (.ref b9), .val (.ref b12), .val (.ref b15), .val (.ref b18), .val (.ref r21_r), .val (.int v14)] [(.int (0 : Int32))])) := by
      intro t k
      refine go66 t ?_
      refine st30.trans ?_
      show Steps p.tables e below (T30.setTop (mkF m 243 #[.val (.int p0), .val (.int p1), .val (.long q2), .second, .val (.long q3), .second, .val (.long q4), .second, .val (.long q5), .second, .val (.int v1), .val (.int v2), .val (.int v3), .val (.long v4), .second, .val (.long v5), .second, .val (.int v6), .val (.ref b6), .val (.ref b9), .val (.ref b12), .val (.ref b15), .val (.ref b18), .val (.ref r21_r), .val (.int v14)] [(.int (0 : Int32))])) _
      exact k
    have go68 : Go p e below A0 (T30.setTop (mkF m 245 #[.val (.int p0), .val (.int p1), .val (.long q2), .second, .val (.long q3), .second, .val (.long q4), .second, .val (.long q5), .second, .val (.int v1), .val (.int v2), .val (.int v3), .val (.long v4), .second, .val (.long v5), .second, .val (.int v6), .val (.ref b6), .val (.ref b9), .val (.ref b12), .val (.ref b15), .val (.ref b18), .val (.ref r21_r), .val (.int v14)] [(.int v14), (.int (0 : Int32))])) := by
      intro t k
      refine go67 t ?_
      refine o_iload X30 hx hby at_243 245 rfl rfl ?_
      exact k
    obtain ⟨v15, hv15, go71⟩ : ∃ (v15 : Int32), v15 = (if (0 : Int32) = v14 then (1 : Int32) else (0 : Int32)) ∧ Go p e below A0 (T30.setTop (mkF m 253 #[.val (.int p0), .val (.int p1), .val (.long q2), .second, .val (.long q3), .second, .val (.long q4), .second, .val (.long q5), .second, .val (.int v1), .val (.int v2), .val (.int v3), .val (.long v4), .second, .val (.long v5), .second, .val (.int v6), .val (.ref b6), .val (.ref b9), .val (.ref b12), .val (.ref b15), .val (.ref b18), .val (.ref r21_r), .val (.int v14)] [(.int v15)])) := by
      by_cases hc245_31 : (0 : Int32) = v14
      · have go69 : Go p e below A0 (T30.setTop (mkF m 253 #[.val (.int p0), .val (.int p1), .val (.long q2), .second, .val (.long q3), .second, .val (.long q4), .second, .val (.long q5), .second, .val (.int v1), .val (.int v2), .val (.int v3), .val (.long v4), .second, .val (.long v5), .second, .val (.int v6), .val (.ref b6), .val (.ref b9), .val (.ref b12), .val (.ref b15), .val (.ref b18), .val (.ref r21_r), .val (.int v14)] [(.int (1 : Int32))])) := by
          intro t k
          refine go68 t ?_
          refine o_icmpN X30 hx hby at_245 248 rfl (teq hc245_31).2 ?_
          refine o_iconst X30 hx hby at_248 249 rfl (v := (1 : Int32)) rfl ?_
          refine o_goto X30 hx hby at_249 253 rfl ?_
          exact k
        exact ⟨(1 : Int32), (if_pos hc245_31).symm, go69⟩
      · have go70 : Go p e below A0 (T30.setTop (mkF m 253 #[.val (.int p0), .val (.int p1), .val (.long q2), .second, .val (.long q3), .second, .val (.long q4), .second, .val (.long q5), .second, .val (.int v1), .val (.int v2), .val (.int v3), .val (.long v4), .second, .val (.long v5), .second, .val (.int v6), .val (.ref b6), .val (.ref b9), .val (.ref b12), .val (.ref b15), .val (.ref b18), .val (.ref r21_r), .val (.int v14)] [(.int (0 : Int32))])) := by
          intro t k
          refine go68 t ?_
          refine o_icmpY X30 hx hby at_245 252 rfl (feq hc245_31).2 ?_
          refine o_iconst X30 hx hby at_252 253 rfl (v := (0 : Int32)) rfl ?_
          exact k
        exact ⟨(0 : Int32), (if_neg hc245_31).symm, go70⟩
    obtain rfl : v15 = (1 : Int32) := pl_0_0 p0 p1 q2 q3 q4 q5 ca cc vl v1 v2 v3 v4 v5 v6 v14 v15 hv1 hv2 hv3 hv4 hv5 hv6 hv14 hv15 hc153_20
    subst hA0
    obtain ⟨fs, hr, hrun, hended, hW, hsame⟩ := X30.leave (v := some (.int (1 : Int32))) (fun h => by rw [Bd.returns] at h; cases h)
    refine ⟨_, _, go71 _ (o_retZ X30 hx Bd.returns (hb hby at_253) (Or.inr rfl) hr), hrun, hended, _, _, rfl, ?_, ⟨_, rfl⟩, hW, hsame.mono (by decide) (by decide)⟩
    show Q0 Z p0 p1 q2 q3 q4 q5 ca cc vl h0 n0 _ T30.heap _
    rw [e30]
    exact ⟨rfl, N30⟩
  · have go72 : Go p e below A0 (T19.setTop (mkF m 168 #[.val (.int p0), .val (.int p1), .val (.long q2), .second, .val (.long q3), .second, .val (.long q4), .second, .val (.long q5), .second, .val (.int v1), .val (.int v2), .val (.int v3), .val (.long v4), .second, .val (.long v5), .second, .val (.int v6), .val (.ref b6), .val (.ref b9), .val (.ref b12), .val (.ref b15), .val (.ref b18), .unset, .unset] [(.int (3 : Int32)), (.int v6)])) := by
      intro t k
      refine go37 t ?_
      refine o_icmpY X19 hx hby at_153 165 rfl (feq hc153_20).2 ?_
      refine o_iload X19 hx hby at_165 167 rfl rfl ?_
      refine o_iconst X19 hx hby at_167 168 rfl (v := (3 : Int32)) rfl ?_
      exact k
    by_cases hc168_32 : v6 = (3 : Int32)
    · have go73 : Go p e below A0 (T19.setTop (mkF m 195 #[.val (.int p0), .val (.int p1), .val (.long q2), .second, .val (.long q3), .second, .val (.long q4), .second, .val (.long q5), .second, .val (.int v1), .val (.int v2), .val (.int v3), .val (.long v4), .second, .val (.long v5), .second, .val (.int v6), .val (.ref b6), .val (.ref b9), .val (.ref b12), .val (.ref b15), .val (.ref b18), .val .null, .unset] [(.int (2 : Int32)), (.int v6)])) := by
        intro t k
        refine go72 t ?_
        refine o_icmpN X19 hx hby at_168 171 rfl (teq hc168_32).2 ?_
        refine o_aconstNull X19 hx hby at_171 172 rfl ?_
        refine o_astore X19 hx hby at_172 174 rfl rfl (l' := #[.val (.int p0), .val (.int p1), .val (.long q2), .second, .val (.long q3), .second, .val (.long q4), .second, .val (.long q5), .second, .val (.int v1), .val (.int v2), .val (.int v3), .val (.long v4), .second, .val (.long v5), .second, .val (.int v6), .val (.ref b6), .val (.ref b9), .val (.ref b12), .val (.ref b15), .val (.ref b18), .val .null, .unset]) rfl ?_
        refine o_goto X19 hx hby at_174 192 rfl ?_
        refine o_iload X19 hx hby at_192 194 rfl rfl ?_
        refine o_iconst X19 hx hby at_194 195 rfl (v := (2 : Int32)) rfl ?_
        exact k
      obtain ⟨v23, hv23, go97⟩ : ∃ (v23 : Int32), v23 = (if v6 < (2 : Int32) then (if p0 = v3 then (if v1 = (0 : Int32) then (if v2 = (0 : Int32) then (1 : Int32) else (if q3 = v5 then (1 : Int32) else (0 : Int32))) else (if q2 = v4 then (if v2 = (0 : Int32) then (1 : Int32) else (if q3 = v5 then (1 : Int32) else (0 : Int32))) else (0 : Int32))) else (0 : Int32)) else (0 : Int32)) ∧ Go p e below A0 (T19.setTop (mkF m 234 #[.val (.int p0), .val (.int p1), .val (.long q2), .second, .val (.long q3), .second, .val (.long q4), .second, .val (.long q5), .second, .val (.int v1), .val (.int v2), .val (.int v3), .val (.long v4), .second, .val (.long v5), .second, .val (.int v6), .val (.ref b6), .val (.ref b9), .val (.ref b12), .val (.ref b15), .val (.ref b18), .val .null, .unset] [(.int v23)])) := by
        by_cases hc195_33 : v6 < (2 : Int32)
        · have go74 : Go p e below A0 (T19.setTop (mkF m 201 #[.val (.int p0), .val (.int p1), .val (.long q2), .second, .val (.long q3), .second, .val (.long q4), .second, .val (.long q5), .second, .val (.int v1), .val (.int v2), .val (.int v3), .val (.long v4), .second, .val (.long v5), .second, .val (.int v6), .val (.ref b6), .val (.ref b9), .val (.ref b12), .val (.ref b15), .val (.ref b18), .val .null, .unset] [(.int v3), (.int p0)])) := by
            intro t k
            refine go73 t ?_
            refine o_icmpN X19 hx hby at_195 198 rfl (tlt hc195_33).2.1 ?_
            refine o_iloadN X19 hx hby at_198 199 rfl rfl ?_
            refine o_iload X19 hx hby at_199 201 rfl rfl ?_
            exact k
          obtain ⟨v22, hv22, go95⟩ : ∃ (v22 : Int32), v22 = (if p0 = v3 then (if v1 = (0 : Int32) then (if v2 = (0 : Int32) then (1 : Int32) else (if q3 = v5 then (1 : Int32) else (0 : Int32))) else (if q2 = v4 then (if v2 = (0 : Int32) then (1 : Int32) else (if q3 = v5 then (1 : Int32) else (0 : Int32))) else (0 : Int32))) else (0 : Int32)) ∧ Go p e below A0 (T19.setTop (mkF m 234 #[.val (.int p0), .val (.int p1), .val (.long q2), .second, .val (.long q3), .second, .val (.long q4), .second, .val (.long q5), .second, .val (.int v1), .val (.int v2), .val (.int v3), .val (.long v4), .second, .val (.long v5), .second, .val (.int v6), .val (.ref b6), .val (.ref b9), .val (.ref b12), .val (.ref b15), .val (.ref b18), .val .null, .unset] [(.int v22)])) := by
            by_cases hc201_34 : p0 = v3
            · have go75 : Go p e below A0 (T19.setTop (mkF m 206 #[.val (.int p0), .val (.int p1), .val (.long q2), .second, .val (.long q3), .second, .val (.long q4), .second, .val (.long q5), .second, .val (.int v1), .val (.int v2), .val (.int v3), .val (.long v4), .second, .val (.long v5), .second, .val (.int v6), .val (.ref b6), .val (.ref b9), .val (.ref b12), .val (.ref b15), .val (.ref b18), .val .null, .unset] [(.int v1)])) := by
                intro t k
                refine go74 t ?_
                refine o_icmpN X19 hx hby at_201 204 rfl (teq hc201_34).2 ?_
                refine o_iload X19 hx hby at_204 206 rfl rfl ?_
                exact k
              obtain ⟨v21, hv21, go93⟩ : ∃ (v21 : Int32), v21 = (if v1 = (0 : Int32) then (if v2 = (0 : Int32) then (1 : Int32) else (if q3 = v5 then (1 : Int32) else (0 : Int32))) else (if q2 = v4 then (if v2 = (0 : Int32) then (1 : Int32) else (if q3 = v5 then (1 : Int32) else (0 : Int32))) else (0 : Int32))) ∧ Go p e below A0 (T19.setTop (mkF m 234 #[.val (.int p0), .val (.int p1), .val (.long q2), .second, .val (.long q3), .second, .val (.long q4), .second, .val (.long q5), .second, .val (.int v1), .val (.int v2), .val (.int v3), .val (.long v4), .second, .val (.long v5), .second, .val (.int v6), .val (.ref b6), .val (.ref b9), .val (.ref b12), .val (.ref b15), .val (.ref b18), .val .null, .unset] [(.int v21)])) := by
                by_cases hc206_35 : v1 = (0 : Int32)
                · have go76 : Go p e below A0 (T19.setTop (mkF m 218 #[.val (.int p0), .val (.int p1), .val (.long q2), .second, .val (.long q3), .second, .val (.long q4), .second, .val (.long q5), .second, .val (.int v1), .val (.int v2), .val (.int v3), .val (.long v4), .second, .val (.long v5), .second, .val (.int v6), .val (.ref b6), .val (.ref b9), .val (.ref b12), .val (.ref b15), .val (.ref b18), .val .null, .unset] [(.int v2)])) := by
                    intro t k
                    refine go75 t ?_
                    refine o_ifY X19 hx hby at_206 216 rfl (teq hc206_35).1 ?_
                    refine o_iload X19 hx hby at_216 218 rfl rfl ?_
                    exact k
                  obtain ⟨v17, hv17, go82⟩ : ∃ (v17 : Int32), v17 = (if v2 = (0 : Int32) then (1 : Int32) else (if q3 = v5 then (1 : Int32) else (0 : Int32))) ∧ Go p e below A0 (T19.setTop (mkF m 234 #[.val (.int p0), .val (.int p1), .val (.long q2), .second, .val (.long q3), .second, .val (.long q4), .second, .val (.long q5), .second, .val (.int v1), .val (.int v2), .val (.int v3), .val (.long v4), .second, .val (.long v5), .second, .val (.int v6), .val (.ref b6), .val (.ref b9), .val (.ref b12), .val (.ref b15), .val (.ref b18), .val .null, .unset] [(.int v17)])) := by
                    by_cases hc218_36 : v2 = (0 : Int32)
                    · have go77 : Go p e below A0 (T19.setTop (mkF m 234 #[.val (.int p0), .val (.int p1), .val (.long q2), .second, .val (.long q3), .second, .val (.long q4), .second, .val (.long q5), .second, .val (.int v1), .val (.int v2), .val (.int v3), .val (.long v4), .second, .val (.long v5), .second, .val (.int v6), .val (.ref b6), .val (.ref b9), .val (.ref b12), .val (.ref b15), .val (.ref b18), .val .null, .unset] [(.int (1 : Int32))])) := by
                        intro t k
                        refine go76 t ?_
                        refine o_ifY X19 hx hby at_218 229 rfl (teq hc218_36).1 ?_
                        refine o_iconst X19 hx hby at_229 230 rfl (v := (1 : Int32)) rfl ?_
                        refine o_goto X19 hx hby at_230 234 rfl ?_
                        exact k
                      exact ⟨(1 : Int32), (if_pos hc218_36).symm, go77⟩
                    · have go78 : Go p e below A0 (T19.setTop (mkF m 226 #[.val (.int p0), .val (.int p1), .val (.long q2), .second, .val (.long q3), .second, .val (.long q4), .second, .val (.long q5), .second, .val (.int v1), .val (.int v2), .val (.int v3), .val (.long v4), .second, .val (.long v5), .second, .val (.int v6), .val (.ref b6), .val (.ref b9), .val (.ref b12), .val (.ref b15), .val (.ref b18), .val .null, .unset] [(.int (lcmpW q3 v5))])) := by
                        intro t k
                        refine go76 t ?_
                        refine o_ifN X19 hx hby at_218 221 rfl (feq hc218_36).1 ?_
                        refine o_lload X19 hx hby at_221 223 rfl rfl ?_
                        refine o_lload X19 hx hby at_223 225 rfl rfl ?_
                        refine o_lcmp X19 hx hby at_225 226 rfl ?_
                        exact k
                      obtain ⟨v16, hv16, go81⟩ : ∃ (v16 : Int32), v16 = (if q3 = v5 then (1 : Int32) else (0 : Int32)) ∧ Go p e below A0 (T19.setTop (mkF m 234 #[.val (.int p0), .val (.int p1), .val (.long q2), .second, .val (.long q3), .second, .val (.long q4), .second, .val (.long q5), .second, .val (.int v1), .val (.int v2), .val (.int v3), .val (.long v4), .second, .val (.long v5), .second, .val (.int v6), .val (.ref b6), .val (.ref b9), .val (.ref b12), .val (.ref b15), .val (.ref b18), .val .null, .unset] [(.int v16)])) := by
                        by_cases hc226_37 : q3 = v5
                        · have go79 : Go p e below A0 (T19.setTop (mkF m 234 #[.val (.int p0), .val (.int p1), .val (.long q2), .second, .val (.long q3), .second, .val (.long q4), .second, .val (.long q5), .second, .val (.int v1), .val (.int v2), .val (.int v3), .val (.long v4), .second, .val (.long v5), .second, .val (.int v6), .val (.ref b6), .val (.ref b9), .val (.ref b12), .val (.ref b15), .val (.ref b18), .val .null, .unset] [(.int (1 : Int32))])) := by
                            intro t k
                            refine go78 t ?_
                            refine o_ifN X19 hx hby at_226 229 rfl (teq ((lw_eq q3 v5).mpr hc226_37)).2 ?_
                            refine o_iconst X19 hx hby at_229 230 rfl (v := (1 : Int32)) rfl ?_
                            refine o_goto X19 hx hby at_230 234 rfl ?_
                            exact k
                          exact ⟨(1 : Int32), (if_pos hc226_37).symm, go79⟩
                        · have go80 : Go p e below A0 (T19.setTop (mkF m 234 #[.val (.int p0), .val (.int p1), .val (.long q2), .second, .val (.long q3), .second, .val (.long q4), .second, .val (.long q5), .second, .val (.int v1), .val (.int v2), .val (.int v3), .val (.long v4), .second, .val (.long v5), .second, .val (.int v6), .val (.ref b6), .val (.ref b9), .val (.ref b12), .val (.ref b15), .val (.ref b18), .val .null, .unset] [(.int (0 : Int32))])) := by
                            intro t k
                            refine go78 t ?_
                            refine o_ifY X19 hx hby at_226 233 rfl (feq (fun q => hc226_37 ((lw_eq q3 v5).mp q))).2 ?_
                            refine o_iconst X19 hx hby at_233 234 rfl (v := (0 : Int32)) rfl ?_
                            exact k
                          exact ⟨(0 : Int32), (if_neg hc226_37).symm, go80⟩
                      subst hv16
                      exact ⟨(if q3 = v5 then (1 : Int32) else (0 : Int32)), (if_neg hc218_36).symm, go81⟩
                  subst hv17
                  exact ⟨(if v2 = (0 : Int32) then (1 : Int32) else (if q3 = v5 then (1 : Int32) else (0 : Int32))), (if_pos hc206_35).symm, go82⟩
                · have go83 : Go p e below A0 (T19.setTop (mkF m 213 #[.val (.int p0), .val (.int p1), .val (.long q2), .second, .val (.long q3), .second, .val (.long q4), .second, .val (.long q5), .second, .val (.int v1), .val (.int v2), .val (.int v3), .val (.long v4), .second, .val (.long v5), .second, .val (.int v6), .val (.ref b6), .val (.ref b9), .val (.ref b12), .val (.ref b15), .val (.ref b18), .val .null, .unset] [(.int (lcmpW q2 v4))])) := by
                    intro t k
                    refine go75 t ?_
                    refine o_ifN X19 hx hby at_206 209 rfl (feq hc206_35).1 ?_
                    refine o_lloadN X19 hx hby at_209 210 rfl rfl ?_
                    refine o_lload X19 hx hby at_210 212 rfl rfl ?_
                    refine o_lcmp X19 hx hby at_212 213 rfl ?_
                    exact k
                  obtain ⟨v20, hv20, go92⟩ : ∃ (v20 : Int32), v20 = (if q2 = v4 then (if v2 = (0 : Int32) then (1 : Int32) else (if q3 = v5 then (1 : Int32) else (0 : Int32))) else (0 : Int32)) ∧ Go p e below A0 (T19.setTop (mkF m 234 #[.val (.int p0), .val (.int p1), .val (.long q2), .second, .val (.long q3), .second, .val (.long q4), .second, .val (.long q5), .second, .val (.int v1), .val (.int v2), .val (.int v3), .val (.long v4), .second, .val (.long v5), .second, .val (.int v6), .val (.ref b6), .val (.ref b9), .val (.ref b12), .val (.ref b15), .val (.ref b18), .val .null, .unset] [(.int v20)])) := by
                    by_cases hc213_38 : q2 = v4
                    · have go84 : Go p e below A0 (T19.setTop (mkF m 218 #[.val (.int p0), .val (.int p1), .val (.long q2), .second, .val (.long q3), .second, .val (.long q4), .second, .val (.long q5), .second, .val (.int v1), .val (.int v2), .val (.int v3), .val (.long v4), .second, .val (.long v5), .second, .val (.int v6), .val (.ref b6), .val (.ref b9), .val (.ref b12), .val (.ref b15), .val (.ref b18), .val .null, .unset] [(.int v2)])) := by
                        intro t k
                        refine go83 t ?_
                        refine o_ifN X19 hx hby at_213 216 rfl (teq ((lw_eq q2 v4).mpr hc213_38)).2 ?_
                        refine o_iload X19 hx hby at_216 218 rfl rfl ?_
                        exact k
                      obtain ⟨v19, hv19, go90⟩ : ∃ (v19 : Int32), v19 = (if v2 = (0 : Int32) then (1 : Int32) else (if q3 = v5 then (1 : Int32) else (0 : Int32))) ∧ Go p e below A0 (T19.setTop (mkF m 234 #[.val (.int p0), .val (.int p1), .val (.long q2), .second, .val (.long q3), .second, .val (.long q4), .second, .val (.long q5), .second, .val (.int v1), .val (.int v2), .val (.int v3), .val (.long v4), .second, .val (.long v5), .second, .val (.int v6), .val (.ref b6), .val (.ref b9), .val (.ref b12), .val (.ref b15), .val (.ref b18), .val .null, .unset] [(.int v19)])) := by
                        by_cases hc218_39 : v2 = (0 : Int32)
                        · have go85 : Go p e below A0 (T19.setTop (mkF m 234 #[.val (.int p0), .val (.int p1), .val (.long q2), .second, .val (.long q3), .second, .val (.long q4), .second, .val (.long q5), .second, .val (.int v1), .val (.int v2), .val (.int v3), .val (.long v4), .second, .val (.long v5), .second, .val (.int v6), .val (.ref b6), .val (.ref b9), .val (.ref b12), .val (.ref b15), .val (.ref b18), .val .null, .unset] [(.int (1 : Int32))])) := by
                            intro t k
                            refine go84 t ?_
                            refine o_ifY X19 hx hby at_218 229 rfl (teq hc218_39).1 ?_
                            refine o_iconst X19 hx hby at_229 230 rfl (v := (1 : Int32)) rfl ?_
                            refine o_goto X19 hx hby at_230 234 rfl ?_
                            exact k
                          exact ⟨(1 : Int32), (if_pos hc218_39).symm, go85⟩
                        · have go86 : Go p e below A0 (T19.setTop (mkF m 226 #[.val (.int p0), .val (.int p1), .val (.long q2), .second, .val (.long q3), .second, .val (.long q4), .second, .val (.long q5), .second, .val (.int v1), .val (.int v2), .val (.int v3), .val (.long v4), .second, .val (.long v5), .second, .val (.int v6), .val (.ref b6), .val (.ref b9), .val (.ref b12), .val (.ref b15), .val (.ref b18), .val .null, .unset] [(.int (lcmpW q3 v5))])) := by
                            intro t k
                            refine go84 t ?_
                            refine o_ifN X19 hx hby at_218 221 rfl (feq hc218_39).1 ?_
                            refine o_lload X19 hx hby at_221 223 rfl rfl ?_
                            refine o_lload X19 hx hby at_223 225 rfl rfl ?_
                            refine o_lcmp X19 hx hby at_225 226 rfl ?_
                            exact k
                          obtain ⟨v18, hv18, go89⟩ : ∃ (v18 : Int32), v18 = (if q3 = v5 then (1 : Int32) else (0 : Int32)) ∧ Go p e below A0 (T19.setTop (mkF m 234 #[.val (.int p0), .val (.int p1), .val (.long q2), .second, .val (.long q3), .second, .val (.long q4), .second, .val (.long q5), .second, .val (.int v1), .val (.int v2), .val (.int v3), .val (.long v4), .second, .val (.long v5), .second, .val (.int v6), .val (.ref b6), .val (.ref b9), .val (.ref b12), .val (.ref b15), .val (.ref b18), .val .null, .unset] [(.int v18)])) := by
                            by_cases hc226_40 : q3 = v5
                            · have go87 : Go p e below A0 (T19.setTop (mkF m 234 #[.val (.int p0), .val (.int p1), .val (.long q2), .second, .val (.long q3), .second, .val (.long q4), .second, .val (.long q5), .second, .val (.int v1), .val (.int v2), .val (.int v3), .val (.long v4), .second, .val (.long v5), .second, .val (.int v6), .val (.ref b6), .val (.ref b9), .val (.ref b12), .val (.ref b15), .val (.ref b18), .val .null, .unset] [(.int (1 : Int32))])) := by
                                intro t k
                                refine go86 t ?_
                                refine o_ifN X19 hx hby at_226 229 rfl (teq ((lw_eq q3 v5).mpr hc226_40)).2 ?_
                                refine o_iconst X19 hx hby at_229 230 rfl (v := (1 : Int32)) rfl ?_
                                refine o_goto X19 hx hby at_230 234 rfl ?_
                                exact k
                              exact ⟨(1 : Int32), (if_pos hc226_40).symm, go87⟩
                            · have go88 : Go p e below A0 (T19.setTop (mkF m 234 #[.val (.int p0), .val (.int p1), .val (.long q2), .second, .val (.long q3), .second, .val (.long q4), .second, .val (.long q5), .second, .val (.int v1), .val (.int v2), .val (.int v3), .val (.long v4), .second, .val (.long v5), .second, .val (.int v6), .val (.ref b6), .val (.ref b9), .val (.ref b12), .val (.ref b15), .val (.ref b18), .val .null, .unset] [(.int (0 : Int32))])) := by
                                intro t k
                                refine go86 t ?_
                                refine o_ifY X19 hx hby at_226 233 rfl (feq (fun q => hc226_40 ((lw_eq q3 v5).mp q))).2 ?_
                                refine o_iconst X19 hx hby at_233 234 rfl (v := (0 : Int32)) rfl ?_
                                exact k
                              exact ⟨(0 : Int32), (if_neg hc226_40).symm, go88⟩
                          subst hv18
                          exact ⟨(if q3 = v5 then (1 : Int32) else (0 : Int32)), (if_neg hc218_39).symm, go89⟩
                      subst hv19
                      exact ⟨(if v2 = (0 : Int32) then (1 : Int32) else (if q3 = v5 then (1 : Int32) else (0 : Int32))), (if_pos hc213_38).symm, go90⟩
                    · have go91 : Go p e below A0 (T19.setTop (mkF m 234 #[.val (.int p0), .val (.int p1), .val (.long q2), .second, .val (.long q3), .second, .val (.long q4), .second, .val (.long q5), .second, .val (.int v1), .val (.int v2), .val (.int v3), .val (.long v4), .second, .val (.long v5), .second, .val (.int v6), .val (.ref b6), .val (.ref b9), .val (.ref b12), .val (.ref b15), .val (.ref b18), .val .null, .unset] [(.int (0 : Int32))])) := by
                        intro t k
                        refine go83 t ?_
                        refine o_ifY X19 hx hby at_213 233 rfl (feq (fun q => hc213_38 ((lw_eq q2 v4).mp q))).2 ?_
                        refine o_iconst X19 hx hby at_233 234 rfl (v := (0 : Int32)) rfl ?_
                        exact k
                      exact ⟨(0 : Int32), (if_neg hc213_38).symm, go91⟩
                  subst hv20
                  exact ⟨(if q2 = v4 then (if v2 = (0 : Int32) then (1 : Int32) else (if q3 = v5 then (1 : Int32) else (0 : Int32))) else (0 : Int32)), (if_neg hc206_35).symm, go92⟩
              subst hv21
              exact ⟨(if v1 = (0 : Int32) then (if v2 = (0 : Int32) then (1 : Int32) else (if q3 = v5 then (1 : Int32) else (0 : Int32))) else (if q2 = v4 then (if v2 = (0 : Int32) then (1 : Int32) else (if q3 = v5 then (1 : Int32) else (0 : Int32))) else (0 : Int32))), (if_pos hc201_34).symm, go93⟩
            · have go94 : Go p e below A0 (T19.setTop (mkF m 234 #[.val (.int p0), .val (.int p1), .val (.long q2), .second, .val (.long q3), .second, .val (.long q4), .second, .val (.long q5), .second, .val (.int v1), .val (.int v2), .val (.int v3), .val (.long v4), .second, .val (.long v5), .second, .val (.int v6), .val (.ref b6), .val (.ref b9), .val (.ref b12), .val (.ref b15), .val (.ref b18), .val .null, .unset] [(.int (0 : Int32))])) := by
                intro t k
                refine go74 t ?_
                refine o_icmpY X19 hx hby at_201 233 rfl (feq hc201_34).2 ?_
                refine o_iconst X19 hx hby at_233 234 rfl (v := (0 : Int32)) rfl ?_
                exact k
              exact ⟨(0 : Int32), (if_neg hc201_34).symm, go94⟩
          subst hv22
          exact ⟨(if p0 = v3 then (if v1 = (0 : Int32) then (if v2 = (0 : Int32) then (1 : Int32) else (if q3 = v5 then (1 : Int32) else (0 : Int32))) else (if q2 = v4 then (if v2 = (0 : Int32) then (1 : Int32) else (if q3 = v5 then (1 : Int32) else (0 : Int32))) else (0 : Int32))) else (0 : Int32)), (if_pos hc195_33).symm, go95⟩
        · have go96 : Go p e below A0 (T19.setTop (mkF m 234 #[.val (.int p0), .val (.int p1), .val (.long q2), .second, .val (.long q3), .second, .val (.long q4), .second, .val (.long q5), .second, .val (.int v1), .val (.int v2), .val (.int v3), .val (.long v4), .second, .val (.long v5), .second, .val (.int v6), .val (.ref b6), .val (.ref b9), .val (.ref b12), .val (.ref b15), .val (.ref b18), .val .null, .unset] [(.int (0 : Int32))])) := by
            intro t k
            refine go73 t ?_
            refine o_icmpY X19 hx hby at_195 233 rfl (flt hc195_33).2.1 ?_
            refine o_iconst X19 hx hby at_233 234 rfl (v := (0 : Int32)) rfl ?_
            exact k
          exact ⟨(0 : Int32), (if_neg hc195_33).symm, go96⟩
      have go98 : Go p e below A0 (T19.setTop (mkF m 236 #[.val (.int p0), .val (.int p1), .val (.long q2), .second, .val (.long q3), .second, .val (.long q4), .second, .val (.long q5), .second, .val (.int v1), .val (.int v2), .val (.int v3), .val (.long v4), .second, .val (.long v5), .second, .val (.int v6), .val (.ref b6), .val (.ref b9), .val (.ref b12), .val (.ref b15), .val (.ref b18), .val .null, .val (.int v23)] [])) := by
        intro t k
        refine go97 t ?_
        refine o_istore X19 hx hby at_234 236 rfl (l' := #[.val (.int p0), .val (.int p1), .val (.long q2), .second, .val (.long q3), .second, .val (.long q4), .second, .val (.long q5), .second, .val (.int v1), .val (.int v2), .val (.int v3), .val (.long v4), .second, .val (.long v5), .second, .val (.int v6), .val (.ref b6), .val (.ref b9), .val (.ref b12), .val (.ref b15), .val (.ref b18), .val .null, .val (.int v23)]) rfl ?_
        exact k
      have go99 : Go p e below A0 (T19.setTop (mkF m 240 #[.val (.int p0), .val (.int p1), .val (.long q2), .second, .val (.long q3), .second, .val (.long q4), .second, .val (.long q5), .second, .val (.int v1), .val (.int v2), .val (.int v3), .val (.long v4), .second, .val (.long v5), .second, .val (.int v6), .val (.ref b6), .val (.ref b9), .val (.ref b12), .val (.ref b15), .val (.ref b18), .val .null, .val (.int v23)] [.null, (.ref b18)])) := by
        intro t k
        refine go98 t ?_
        refine o_aload X19 hx hby at_236 238 rfl rfl rfl ?_
        refine o_aload X19 hx hby at_238 240 rfl rfl rfl ?_
        exact k
      obtain ⟨cq41, kq41, q41a, q41b, q41c⟩ := isOf hZ rfl f57
      obtain ⟨_, _, ⟨T41, L41, k41, n41⟩, -, X41, ⟨Lc41, hQ41, l41, y41, z41⟩, st41⟩ := X19.virtualBack hx (y := (⟨"com/example/calchas/calchas/check/Hypothesis$Standing", "equals", "(Ljava/lang/Object;)Z"⟩ : MethodName)) (z := (⟨"com/example/calchas/calchas/check/Hypothesis$Standing", "equals", "(Ljava/lang/Object;)Z"⟩ : MethodName)) hown (mvT hZ (hw _ (List.mem_of_getElem? (i := 17) rfl))) (mvT hZ (hw _ (List.mem_of_getElem? (i := 18) rfl))) (notFace_of_selects (args := #[]) (mvT hZ (hw _ (List.mem_of_getElem? (i := 20) rfl)))) (mvT hZ (hw _ (List.mem_of_getElem? (i := 20) rfl))) (mvT hZ (hw _ (List.mem_of_getElem? (i := 19) rfl))) (by decide) (backOf (W := 0) (rm3n l Z aw hw [] b18 T19.heap n0 Zp19 ) hZ (hw _ (List.mem_of_getElem? (i := 21) rfl)) (hw _ (List.mem_of_getElem? (i := 4) rfl)) (by decide) (by decide)) q41a q41c (g := (mkF m 240 #[.val (.int p0), .val (.int p1), .val (.long q2), .second, .val (.long q3), .second, .val (.long q4), .second, .val (.long q5), .second, .val (.int v1), .val (.int v2), .val (.int v3), .val (.long v4), .second, .val (.long v5), .second, .val (.int v6), .val (.ref b6), .val (.ref b9), .val (.ref b12), .val (.ref b15), .val (.ref b18), .val .null, .val (.int v23)] [.null, (.ref b18)])) rfl (by rw [hml]; rfl) (Steps.refl _) (argsL := [.null]) (rest := []) (lenOf pd_8 rfl) rfl (by show 2 * 0 + _ ≤ _; exact Nat.le_of_eq rfl) (hb hby at_240) (fun _ _ => ⟨rfl, rfl, (by decide : 5 + 0 ≤ _), (by decide : 11 + 0 ≤ _)⟩)
      dsimp only [Pt.U, Pt.locs, Pt.cells, Pt.slots] at X41 l41 y41 z41 st41 hQ41
      subst l41 y41 z41
      obtain ⟨rfl, N41q, e41⟩ := hQ41
      have N41 := Fr.app N19 N41q
      have go100 : Go p e below A0 (T41.setTop (mkF m 243 #[.val (.int p0), .val (.int p1), .val (.long q2), .second, .val (.long q3), .second, .val (.long q4), .second, .val (.long q5), .second, .val (.int v1), .val (.int v2), .val (.int v3), .val (.long v4), .second, .val (.long v5), .second, .val (.int v6), .val (.ref b6), .val (.ref b9), .val (.ref b12), .val (.ref b15), .val (.ref b18), .val .null, .val (.int v23)] [(.int (0 : Int32))])) := by
        intro t k
        refine go99 t ?_
        refine st41.trans ?_
        show Steps p.tables e below (T41.setTop (mkF m 243 #[.val (.int p0), .val (.int p1), .val (.long q2), .second, .val (.long q3), .second, .val (.long q4), .second, .val (.long q5), .second, .val (.int v1), .val (.int v2), .val (.int v3), .val (.long v4), .second, .val (.long v5), .second, .val (.int v6), .val (.ref b6), .val (.ref b9), .val (.ref b12), .val (.ref b15), .val (.ref b18), .val .null, .val (.int v23)] [(.int (0 : Int32))])) _
        exact k
      have go101 : Go p e below A0 (T41.setTop (mkF m 245 #[.val (.int p0), .val (.int p1), .val (.long q2), .second, .val (.long q3), .second, .val (.long q4), .second, .val (.long q5), .second, .val (.int v1), .val (.int v2), .val (.int v3), .val (.long v4), .second, .val (.long v5), .second, .val (.int v6), .val (.ref b6), .val (.ref b9), .val (.ref b12), .val (.ref b15), .val (.ref b18), .val .null, .val (.int v23)] [(.int v23), (.int (0 : Int32))])) := by
        intro t k
        refine go100 t ?_
        refine o_iload X41 hx hby at_243 245 rfl rfl ?_
        exact k
      obtain ⟨v24, hv24, go104⟩ : ∃ (v24 : Int32), v24 = (if (0 : Int32) = v23 then (1 : Int32) else (0 : Int32)) ∧ Go p e below A0 (T41.setTop (mkF m 253 #[.val (.int p0), .val (.int p1), .val (.long q2), .second, .val (.long q3), .second, .val (.long q4), .second, .val (.long q5), .second, .val (.int v1), .val (.int v2), .val (.int v3), .val (.long v4), .second, .val (.long v5), .second, .val (.int v6), .val (.ref b6), .val (.ref b9), .val (.ref b12), .val (.ref b15), .val (.ref b18), .val .null, .val (.int v23)] [(.int v24)])) := by
        by_cases hc245_42 : (0 : Int32) = v23
        · have go102 : Go p e below A0 (T41.setTop (mkF m 253 #[.val (.int p0), .val (.int p1), .val (.long q2), .second, .val (.long q3), .second, .val (.long q4), .second, .val (.long q5), .second, .val (.int v1), .val (.int v2), .val (.int v3), .val (.long v4), .second, .val (.long v5), .second, .val (.int v6), .val (.ref b6), .val (.ref b9), .val (.ref b12), .val (.ref b15), .val (.ref b18), .val .null, .val (.int v23)] [(.int (1 : Int32))])) := by
            intro t k
            refine go101 t ?_
            refine o_icmpN X41 hx hby at_245 248 rfl (teq hc245_42).2 ?_
            refine o_iconst X41 hx hby at_248 249 rfl (v := (1 : Int32)) rfl ?_
            refine o_goto X41 hx hby at_249 253 rfl ?_
            exact k
          exact ⟨(1 : Int32), (if_pos hc245_42).symm, go102⟩
        · have go103 : Go p e below A0 (T41.setTop (mkF m 253 #[.val (.int p0), .val (.int p1), .val (.long q2), .second, .val (.long q3), .second, .val (.long q4), .second, .val (.long q5), .second, .val (.int v1), .val (.int v2), .val (.int v3), .val (.long v4), .second, .val (.long v5), .second, .val (.int v6), .val (.ref b6), .val (.ref b9), .val (.ref b12), .val (.ref b15), .val (.ref b18), .val .null, .val (.int v23)] [(.int (0 : Int32))])) := by
            intro t k
            refine go101 t ?_
            refine o_icmpY X41 hx hby at_245 252 rfl (feq hc245_42).2 ?_
            refine o_iconst X41 hx hby at_252 253 rfl (v := (0 : Int32)) rfl ?_
            exact k
          exact ⟨(0 : Int32), (if_neg hc245_42).symm, go103⟩
      obtain rfl : v24 = (1 : Int32) := pl_0_1 p0 p1 q2 q3 q4 q5 ca cc vl v1 v2 v3 v4 v5 v6 v23 v24 hv1 hv2 hv3 hv4 hv5 hv6 hv23 hv24 hc153_20 hc168_32
      subst hA0
      obtain ⟨fs, hr, hrun, hended, hW, hsame⟩ := X41.leave (v := some (.int (1 : Int32))) (fun h => by rw [Bd.returns] at h; cases h)
      refine ⟨_, _, go104 _ (o_retZ X41 hx Bd.returns (hb hby at_253) (Or.inr rfl) hr), hrun, hended, _, _, rfl, ?_, ⟨_, rfl⟩, hW, hsame.mono (by decide) (by decide)⟩
      show Q0 Z p0 p1 q2 q3 q4 q5 ca cc vl h0 n0 _ T41.heap _
      rw [e41]
      exact ⟨rfl, N41⟩
    · obtain ⟨T43, h43, X43, e43, E43, A43, D43, -, st43⟩ := newO X19 hx hZ hown (hw _ (List.mem_of_getElem? (i := 2) rfl)) (hw _ (List.mem_of_getElem? (i := 3) rfl)) (hw _ (List.mem_of_getElem? (i := 4) rfl)) rfl (g := (mkF m 177 #[.val (.int p0), .val (.int p1), .val (.long q2), .second, .val (.long q3), .second, .val (.long q4), .second, .val (.long q5), .second, .val (.int v1), .val (.int v2), .val (.int v3), .val (.long v4), .second, .val (.long v5), .second, .val (.int v6), .val (.ref b6), .val (.ref b9), .val (.ref b12), .val (.ref b15), .val (.ref b18), .unset, .unset] [])) rfl (hb hby at_177) (by decide) (by decide)
      obtain ⟨b43, g43⟩ : ∃ z, z = T19.heap.size := ⟨_, rfl⟩
      rw [← g43] at A43 D43 st43
      have ne_b6_b43 : b6 ≠ b43 := Nat.ne_of_lt (Nat.lt_of_lt_of_le f53.lt (Nat.le_of_eq g43.symm))
      have ne_b9_b43 : b9 ≠ b43 := Nat.ne_of_lt (Nat.lt_of_lt_of_le f54.lt (Nat.le_of_eq g43.symm))
      have ne_b12_b43 : b12 ≠ b43 := Nat.ne_of_lt (Nat.lt_of_lt_of_le f55.lt (Nat.le_of_eq g43.symm))
      have ne_b15_b43 : b15 ≠ b43 := Nat.ne_of_lt (Nat.lt_of_lt_of_le f56.lt (Nat.le_of_eq g43.symm))
      have ne_b18_b43 : b18 ≠ b43 := Nat.ne_of_lt (Nat.lt_of_lt_of_le f57.lt (Nat.le_of_eq g43.symm))
      have g_b43 : n0 ≤ b43 := Nat.le_trans Zp19 (Nat.le_of_eq g43.symm)
      have sz_b43 : h0.size ≤ b43 := Nat.le_trans K19.1 (Nat.le_of_eq g43.symm)
      have f71 : Old Z n0 h43 := f52.ext E43
      have f72 : Arv Z h43 b6 k6 .long (2 : Int32) [(.long q2), (.long q3)] (.long (0 : Int64)) := f53.ext E43
      have f73 : Arv Z h43 b9 k9 .long (2 : Int32) [(.long v4), (.long v5)] (.long (0 : Int64)) := f54.ext E43
      have f74 : Arv Z h43 b12 k12 .boolean (2 : Int32) [(.int (nar .boolean v1)), (.int (nar .boolean v2))] (.int (0 : Int32)) := f55.ext E43
      have f75 : Arv Z h43 b15 k15 .boolean (2 : Int32) [(.int (nar .boolean v1)), (.int (nar .boolean v2))] (.int (0 : Int32)) := f56.ext E43
      have f76 : Exa Z h43 b18 "com/example/calchas/calchas/check/Hypothesis$Standing" := f57.ext E43
      have f77 : Fld Z h43 b18 "com/example/calchas/calchas/check/Hypothesis$Standing" "state" "I" (.int p0) := f58.ext E43
      have f78 : Fld Z h43 b18 "com/example/calchas/calchas/check/Hypothesis$Standing" "variables" "[J" (.ref b6) := f59.ext E43
      have f79 : Fld Z h43 b18 "com/example/calchas/calchas/check/Hypothesis$Standing" "matters" "[Z" (.ref b12) := f60.ext E43
      have Zp43 : n0 ≤ h43.size := Nat.le_trans Zp19 E43.1
      have K43 : Keep h0 h43 [] := K19.ext E43
      have f80 : Exa Z h43 b43 "com/example/calchas/calchas/check/Hypothesis$Standing" := A43
      have f81 : Fld Z h43 b43 "com/example/calchas/calchas/check/Hypothesis$Standing" "state" "I" (.int (0 : Int32)) := D43 (Or.inr (hw _ (List.mem_of_getElem? (i := 12) rfl))) (ty := .int) (by decide)
      have f82 : Fld Z h43 b43 "com/example/calchas/calchas/check/Hypothesis$Standing" "variables" "[J" .null := D43 (Or.inr (hw _ (List.mem_of_getElem? (i := 14) rfl))) (ty := (.array .long)) (by decide)
      have f83 : Fld Z h43 b43 "com/example/calchas/calchas/check/Hypothesis$Standing" "matters" "[Z" .null := D43 (Or.inr (hw _ (List.mem_of_getElem? (i := 16) rfl))) (ty := (.array .boolean)) (by decide)
      have go105 : Go p e below A0 (T43.setTop (mkF m 187 #[.val (.int p0), .val (.int p1), .val (.long q2), .second, .val (.long q3), .second, .val (.long q4), .second, .val (.long q5), .second, .val (.int v1), .val (.int v2), .val (.int v3), .val (.long v4), .second, .val (.long v5), .second, .val (.int v6), .val (.ref b6), .val (.ref b9), .val (.ref b12), .val (.ref b15), .val (.ref b18), .unset, .unset] [(.ref b15), (.ref b9), (.int v3), (.ref b43), (.ref b43)])) := by
        intro t k
        refine go72 t ?_
        refine o_icmpY X19 hx hby at_168 177 rfl (feq hc168_32).2 ?_
        refine st43 _ ?_
        show Steps p.tables e below (T43.setTop (mkF m 180 #[.val (.int p0), .val (.int p1), .val (.long q2), .second, .val (.long q3), .second, .val (.long q4), .second, .val (.long q5), .second, .val (.int v1), .val (.int v2), .val (.int v3), .val (.long v4), .second, .val (.long v5), .second, .val (.int v6), .val (.ref b6), .val (.ref b9), .val (.ref b12), .val (.ref b15), .val (.ref b18), .unset, .unset] [(.ref b43)])) _
        refine o_dup X43 hx hby at_180 181 rfl rfl ?_
        refine o_iload X43 hx hby at_181 183 rfl rfl ?_
        refine o_aload X43 hx hby at_183 185 rfl rfl rfl ?_
        refine o_aload X43 hx hby at_185 187 rfl rfl rfl ?_
        exact k
      obtain ⟨_, _, ⟨T44, L44, k44, n44⟩, -, X44, ⟨Lc44, hQ44, l44, y44, z44⟩, st44⟩ := X43.specialBack hx (y := (⟨"com/example/calchas/calchas/check/Hypothesis$Standing", "<init>", "(I[J[Z)V"⟩ : MethodName)) rfl hown (mvT hZ (hw _ (List.mem_of_getElem? (i := 5) rfl))) (mvT hZ (hw _ (List.mem_of_getElem? (i := 6) rfl))) (mvT hZ (hw _ (List.mem_of_getElem? (i := 7) rfl))) (by decide) (backOf (W := 1) (rm1 l Z aw hw [] b43 v3 b9 b15 h43 n0 Zp43 (f80) (g_b43) (f81) (f82) (f83)) hZ (hw _ (List.mem_of_getElem? (i := 7) rfl)) (hw _ (List.mem_of_getElem? (i := 4) rfl)) (by decide) (by decide)) (g := (mkF m 187 #[.val (.int p0), .val (.int p1), .val (.long q2), .second, .val (.long q3), .second, .val (.long q4), .second, .val (.long q5), .second, .val (.int v1), .val (.int v2), .val (.int v3), .val (.long v4), .second, .val (.long v5), .second, .val (.int v6), .val (.ref b6), .val (.ref b9), .val (.ref b12), .val (.ref b15), .val (.ref b18), .unset, .unset] [(.ref b15), (.ref b9), (.int v3), (.ref b43), (.ref b43)])) rfl (by rw [hml]; rfl) (Steps.refl _) (a := b43) (argsL := [(.int v3), (.ref b9), (.ref b15)]) (rest := [(.ref b43)]) (lenOf pd_6 rfl) rfl (by show 2 * 0 + _ ≤ _; exact Nat.le_of_eq rfl) (hb hby at_187) (fun _ _ => ⟨rfl, e43, (by decide : 6 + 0 ≤ _), (by decide : 14 + 0 ≤ _)⟩)
      dsimp only [Pt.U, Pt.locs, Pt.cells, Pt.slots] at X44 l44 y44 z44 st44 hQ44
      subst l44 y44 z44
      obtain ⟨rfl, N44q, K44q, qf44_0, qf44_1, qf44_2, -⟩ := hQ44
      have f84 : Old Z n0 T44.heap := f71.keep K44q (allS g_b43 all0)
      have f85 : Arv Z T44.heap b6 k6 .long (2 : Int32) [(.long q2), (.long q3)] (.long (0 : Int64)) := f72.keep K44q (ninS ne_b6_b43 nin0)
      have f86 : Arv Z T44.heap b9 k9 .long (2 : Int32) [(.long v4), (.long v5)] (.long (0 : Int64)) := f73.keep K44q (ninS ne_b9_b43 nin0)
      have f87 : Arv Z T44.heap b12 k12 .boolean (2 : Int32) [(.int (nar .boolean v1)), (.int (nar .boolean v2))] (.int (0 : Int32)) := f74.keep K44q (ninS ne_b12_b43 nin0)
      have f88 : Arv Z T44.heap b15 k15 .boolean (2 : Int32) [(.int (nar .boolean v1)), (.int (nar .boolean v2))] (.int (0 : Int32)) := f75.keep K44q (ninS ne_b15_b43 nin0)
      have f89 : Exa Z T44.heap b18 "com/example/calchas/calchas/check/Hypothesis$Standing" := f76.keep K44q
      have f90 : Fld Z T44.heap b18 "com/example/calchas/calchas/check/Hypothesis$Standing" "state" "I" (.int p0) := f77.keep K44q (ninS ne_b18_b43 nin0)
      have f91 : Fld Z T44.heap b18 "com/example/calchas/calchas/check/Hypothesis$Standing" "variables" "[J" (.ref b6) := f78.keep K44q (ninS ne_b18_b43 nin0)
      have f92 : Fld Z T44.heap b18 "com/example/calchas/calchas/check/Hypothesis$Standing" "matters" "[Z" (.ref b12) := f79.keep K44q (ninS ne_b18_b43 nin0)
      have f93 : Exa Z T44.heap b43 "com/example/calchas/calchas/check/Hypothesis$Standing" := f80.keep K44q
      have Zp44 : n0 ≤ T44.heap.size := Nat.le_trans Zp43 K44q.1
      have K44 : Keep h0 T44.heap [] := Keep.trans K43 K44q (allS (P := fun x => x ∈ ([] : List Addr) ∨ h0.size ≤ x) (Or.inr sz_b43) all0)
      have f94 : Fld Z T44.heap b43 "com/example/calchas/calchas/check/Hypothesis$Standing" "state" "I" (.int v3) := qf44_0
      have f95 : Fld Z T44.heap b43 "com/example/calchas/calchas/check/Hypothesis$Standing" "variables" "[J" (.ref b9) := qf44_1
      have f96 : Fld Z T44.heap b43 "com/example/calchas/calchas/check/Hypothesis$Standing" "matters" "[Z" (.ref b15) := qf44_2
      have N44 := Fr.app N19 N44q
      have go106 : Go p e below A0 (T44.setTop (mkF m 195 #[.val (.int p0), .val (.int p1), .val (.long q2), .second, .val (.long q3), .second, .val (.long q4), .second, .val (.long q5), .second, .val (.int v1), .val (.int v2), .val (.int v3), .val (.long v4), .second, .val (.long v5), .second, .val (.int v6), .val (.ref b6), .val (.ref b9), .val (.ref b12), .val (.ref b15), .val (.ref b18), .val (.ref b43), .unset] [(.int (2 : Int32)), (.int v6)])) := by
        intro t k
        refine go105 t ?_
        refine st44.trans ?_
        show Steps p.tables e below (T44.setTop (mkF m 190 #[.val (.int p0), .val (.int p1), .val (.long q2), .second, .val (.long q3), .second, .val (.long q4), .second, .val (.long q5), .second, .val (.int v1), .val (.int v2), .val (.int v3), .val (.long v4), .second, .val (.long v5), .second, .val (.int v6), .val (.ref b6), .val (.ref b9), .val (.ref b12), .val (.ref b15), .val (.ref b18), .unset, .unset] [(.ref b43)])) _
        refine o_astore X44 hx hby at_190 192 rfl rfl (l' := #[.val (.int p0), .val (.int p1), .val (.long q2), .second, .val (.long q3), .second, .val (.long q4), .second, .val (.long q5), .second, .val (.int v1), .val (.int v2), .val (.int v3), .val (.long v4), .second, .val (.long v5), .second, .val (.int v6), .val (.ref b6), .val (.ref b9), .val (.ref b12), .val (.ref b15), .val (.ref b18), .val (.ref b43), .unset]) rfl ?_
        refine o_iload X44 hx hby at_192 194 rfl rfl ?_
        refine o_iconst X44 hx hby at_194 195 rfl (v := (2 : Int32)) rfl ?_
        exact k
      obtain ⟨v32, hv32, go130⟩ : ∃ (v32 : Int32), v32 = (if v6 < (2 : Int32) then (if p0 = v3 then (if v1 = (0 : Int32) then (if v2 = (0 : Int32) then (1 : Int32) else (if q3 = v5 then (1 : Int32) else (0 : Int32))) else (if q2 = v4 then (if v2 = (0 : Int32) then (1 : Int32) else (if q3 = v5 then (1 : Int32) else (0 : Int32))) else (0 : Int32))) else (0 : Int32)) else (0 : Int32)) ∧ Go p e below A0 (T44.setTop (mkF m 234 #[.val (.int p0), .val (.int p1), .val (.long q2), .second, .val (.long q3), .second, .val (.long q4), .second, .val (.long q5), .second, .val (.int v1), .val (.int v2), .val (.int v3), .val (.long v4), .second, .val (.long v5), .second, .val (.int v6), .val (.ref b6), .val (.ref b9), .val (.ref b12), .val (.ref b15), .val (.ref b18), .val (.ref b43), .unset] [(.int v32)])) := by
        by_cases hc195_45 : v6 < (2 : Int32)
        · have go107 : Go p e below A0 (T44.setTop (mkF m 201 #[.val (.int p0), .val (.int p1), .val (.long q2), .second, .val (.long q3), .second, .val (.long q4), .second, .val (.long q5), .second, .val (.int v1), .val (.int v2), .val (.int v3), .val (.long v4), .second, .val (.long v5), .second, .val (.int v6), .val (.ref b6), .val (.ref b9), .val (.ref b12), .val (.ref b15), .val (.ref b18), .val (.ref b43), .unset] [(.int v3), (.int p0)])) := by
            intro t k
            refine go106 t ?_
            refine o_icmpN X44 hx hby at_195 198 rfl (tlt hc195_45).2.1 ?_
            refine o_iloadN X44 hx hby at_198 199 rfl rfl ?_
            refine o_iload X44 hx hby at_199 201 rfl rfl ?_
            exact k
          obtain ⟨v31, hv31, go128⟩ : ∃ (v31 : Int32), v31 = (if p0 = v3 then (if v1 = (0 : Int32) then (if v2 = (0 : Int32) then (1 : Int32) else (if q3 = v5 then (1 : Int32) else (0 : Int32))) else (if q2 = v4 then (if v2 = (0 : Int32) then (1 : Int32) else (if q3 = v5 then (1 : Int32) else (0 : Int32))) else (0 : Int32))) else (0 : Int32)) ∧ Go p e below A0 (T44.setTop (mkF m 234 #[.val (.int p0), .val (.int p1), .val (.long q2), .second, .val (.long q3), .second, .val (.long q4), .second, .val (.long q5), .second, .val (.int v1), .val (.int v2), .val (.int v3), .val (.long v4), .second, .val (.long v5), .second, .val (.int v6), .val (.ref b6), .val (.ref b9), .val (.ref b12), .val (.ref b15), .val (.ref b18), .val (.ref b43), .unset] [(.int v31)])) := by
            by_cases hc201_46 : p0 = v3
            · have go108 : Go p e below A0 (T44.setTop (mkF m 206 #[.val (.int p0), .val (.int p1), .val (.long q2), .second, .val (.long q3), .second, .val (.long q4), .second, .val (.long q5), .second, .val (.int v1), .val (.int v2), .val (.int v3), .val (.long v4), .second, .val (.long v5), .second, .val (.int v6), .val (.ref b6), .val (.ref b9), .val (.ref b12), .val (.ref b15), .val (.ref b18), .val (.ref b43), .unset] [(.int v1)])) := by
                intro t k
                refine go107 t ?_
                refine o_icmpN X44 hx hby at_201 204 rfl (teq hc201_46).2 ?_
                refine o_iload X44 hx hby at_204 206 rfl rfl ?_
                exact k
              obtain ⟨v30, hv30, go126⟩ : ∃ (v30 : Int32), v30 = (if v1 = (0 : Int32) then (if v2 = (0 : Int32) then (1 : Int32) else (if q3 = v5 then (1 : Int32) else (0 : Int32))) else (if q2 = v4 then (if v2 = (0 : Int32) then (1 : Int32) else (if q3 = v5 then (1 : Int32) else (0 : Int32))) else (0 : Int32))) ∧ Go p e below A0 (T44.setTop (mkF m 234 #[.val (.int p0), .val (.int p1), .val (.long q2), .second, .val (.long q3), .second, .val (.long q4), .second, .val (.long q5), .second, .val (.int v1), .val (.int v2), .val (.int v3), .val (.long v4), .second, .val (.long v5), .second, .val (.int v6), .val (.ref b6), .val (.ref b9), .val (.ref b12), .val (.ref b15), .val (.ref b18), .val (.ref b43), .unset] [(.int v30)])) := by
                by_cases hc206_47 : v1 = (0 : Int32)
                · have go109 : Go p e below A0 (T44.setTop (mkF m 218 #[.val (.int p0), .val (.int p1), .val (.long q2), .second, .val (.long q3), .second, .val (.long q4), .second, .val (.long q5), .second, .val (.int v1), .val (.int v2), .val (.int v3), .val (.long v4), .second, .val (.long v5), .second, .val (.int v6), .val (.ref b6), .val (.ref b9), .val (.ref b12), .val (.ref b15), .val (.ref b18), .val (.ref b43), .unset] [(.int v2)])) := by
                    intro t k
                    refine go108 t ?_
                    refine o_ifY X44 hx hby at_206 216 rfl (teq hc206_47).1 ?_
                    refine o_iload X44 hx hby at_216 218 rfl rfl ?_
                    exact k
                  obtain ⟨v26, hv26, go115⟩ : ∃ (v26 : Int32), v26 = (if v2 = (0 : Int32) then (1 : Int32) else (if q3 = v5 then (1 : Int32) else (0 : Int32))) ∧ Go p e below A0 (T44.setTop (mkF m 234 #[.val (.int p0), .val (.int p1), .val (.long q2), .second, .val (.long q3), .second, .val (.long q4), .second, .val (.long q5), .second, .val (.int v1), .val (.int v2), .val (.int v3), .val (.long v4), .second, .val (.long v5), .second, .val (.int v6), .val (.ref b6), .val (.ref b9), .val (.ref b12), .val (.ref b15), .val (.ref b18), .val (.ref b43), .unset] [(.int v26)])) := by
                    by_cases hc218_48 : v2 = (0 : Int32)
                    · have go110 : Go p e below A0 (T44.setTop (mkF m 234 #[.val (.int p0), .val (.int p1), .val (.long q2), .second, .val (.long q3), .second, .val (.long q4), .second, .val (.long q5), .second, .val (.int v1), .val (.int v2), .val (.int v3), .val (.long v4), .second, .val (.long v5), .second, .val (.int v6), .val (.ref b6), .val (.ref b9), .val (.ref b12), .val (.ref b15), .val (.ref b18), .val (.ref b43), .unset] [(.int (1 : Int32))])) := by
                        intro t k
                        refine go109 t ?_
                        refine o_ifY X44 hx hby at_218 229 rfl (teq hc218_48).1 ?_
                        refine o_iconst X44 hx hby at_229 230 rfl (v := (1 : Int32)) rfl ?_
                        refine o_goto X44 hx hby at_230 234 rfl ?_
                        exact k
                      exact ⟨(1 : Int32), (if_pos hc218_48).symm, go110⟩
                    · have go111 : Go p e below A0 (T44.setTop (mkF m 226 #[.val (.int p0), .val (.int p1), .val (.long q2), .second, .val (.long q3), .second, .val (.long q4), .second, .val (.long q5), .second, .val (.int v1), .val (.int v2), .val (.int v3), .val (.long v4), .second, .val (.long v5), .second, .val (.int v6), .val (.ref b6), .val (.ref b9), .val (.ref b12), .val (.ref b15), .val (.ref b18), .val (.ref b43), .unset] [(.int (lcmpW q3 v5))])) := by
                        intro t k
                        refine go109 t ?_
                        refine o_ifN X44 hx hby at_218 221 rfl (feq hc218_48).1 ?_
                        refine o_lload X44 hx hby at_221 223 rfl rfl ?_
                        refine o_lload X44 hx hby at_223 225 rfl rfl ?_
                        refine o_lcmp X44 hx hby at_225 226 rfl ?_
                        exact k
                      obtain ⟨v25, hv25, go114⟩ : ∃ (v25 : Int32), v25 = (if q3 = v5 then (1 : Int32) else (0 : Int32)) ∧ Go p e below A0 (T44.setTop (mkF m 234 #[.val (.int p0), .val (.int p1), .val (.long q2), .second, .val (.long q3), .second, .val (.long q4), .second, .val (.long q5), .second, .val (.int v1), .val (.int v2), .val (.int v3), .val (.long v4), .second, .val (.long v5), .second, .val (.int v6), .val (.ref b6), .val (.ref b9), .val (.ref b12), .val (.ref b15), .val (.ref b18), .val (.ref b43), .unset] [(.int v25)])) := by
                        by_cases hc226_49 : q3 = v5
                        · have go112 : Go p e below A0 (T44.setTop (mkF m 234 #[.val (.int p0), .val (.int p1), .val (.long q2), .second, .val (.long q3), .second, .val (.long q4), .second, .val (.long q5), .second, .val (.int v1), .val (.int v2), .val (.int v3), .val (.long v4), .second, .val (.long v5), .second, .val (.int v6), .val (.ref b6), .val (.ref b9), .val (.ref b12), .val (.ref b15), .val (.ref b18), .val (.ref b43), .unset] [(.int (1 : Int32))])) := by
                            intro t k
                            refine go111 t ?_
                            refine o_ifN X44 hx hby at_226 229 rfl (teq ((lw_eq q3 v5).mpr hc226_49)).2 ?_
                            refine o_iconst X44 hx hby at_229 230 rfl (v := (1 : Int32)) rfl ?_
                            refine o_goto X44 hx hby at_230 234 rfl ?_
                            exact k
                          exact ⟨(1 : Int32), (if_pos hc226_49).symm, go112⟩
                        · have go113 : Go p e below A0 (T44.setTop (mkF m 234 #[.val (.int p0), .val (.int p1), .val (.long q2), .second, .val (.long q3), .second, .val (.long q4), .second, .val (.long q5), .second, .val (.int v1), .val (.int v2), .val (.int v3), .val (.long v4), .second, .val (.long v5), .second, .val (.int v6), .val (.ref b6), .val (.ref b9), .val (.ref b12), .val (.ref b15), .val (.ref b18), .val (.ref b43), .unset] [(.int (0 : Int32))])) := by
                            intro t k
                            refine go111 t ?_
                            refine o_ifY X44 hx hby at_226 233 rfl (feq (fun q => hc226_49 ((lw_eq q3 v5).mp q))).2 ?_
                            refine o_iconst X44 hx hby at_233 234 rfl (v := (0 : Int32)) rfl ?_
                            exact k
                          exact ⟨(0 : Int32), (if_neg hc226_49).symm, go113⟩
                      subst hv25
                      exact ⟨(if q3 = v5 then (1 : Int32) else (0 : Int32)), (if_neg hc218_48).symm, go114⟩
                  subst hv26
                  exact ⟨(if v2 = (0 : Int32) then (1 : Int32) else (if q3 = v5 then (1 : Int32) else (0 : Int32))), (if_pos hc206_47).symm, go115⟩
                · have go116 : Go p e below A0 (T44.setTop (mkF m 213 #[.val (.int p0), .val (.int p1), .val (.long q2), .second, .val (.long q3), .second, .val (.long q4), .second, .val (.long q5), .second, .val (.int v1), .val (.int v2), .val (.int v3), .val (.long v4), .second, .val (.long v5), .second, .val (.int v6), .val (.ref b6), .val (.ref b9), .val (.ref b12), .val (.ref b15), .val (.ref b18), .val (.ref b43), .unset] [(.int (lcmpW q2 v4))])) := by
                    intro t k
                    refine go108 t ?_
                    refine o_ifN X44 hx hby at_206 209 rfl (feq hc206_47).1 ?_
                    refine o_lloadN X44 hx hby at_209 210 rfl rfl ?_
                    refine o_lload X44 hx hby at_210 212 rfl rfl ?_
                    refine o_lcmp X44 hx hby at_212 213 rfl ?_
                    exact k
                  obtain ⟨v29, hv29, go125⟩ : ∃ (v29 : Int32), v29 = (if q2 = v4 then (if v2 = (0 : Int32) then (1 : Int32) else (if q3 = v5 then (1 : Int32) else (0 : Int32))) else (0 : Int32)) ∧ Go p e below A0 (T44.setTop (mkF m 234 #[.val (.int p0), .val (.int p1), .val (.long q2), .second, .val (.long q3), .second, .val (.long q4), .second, .val (.long q5), .second, .val (.int v1), .val (.int v2), .val (.int v3), .val (.long v4), .second, .val (.long v5), .second, .val (.int v6), .val (.ref b6), .val (.ref b9), .val (.ref b12), .val (.ref b15), .val (.ref b18), .val (.ref b43), .unset] [(.int v29)])) := by
                    by_cases hc213_50 : q2 = v4
                    · have go117 : Go p e below A0 (T44.setTop (mkF m 218 #[.val (.int p0), .val (.int p1), .val (.long q2), .second, .val (.long q3), .second, .val (.long q4), .second, .val (.long q5), .second, .val (.int v1), .val (.int v2), .val (.int v3), .val (.long v4), .second, .val (.long v5), .second, .val (.int v6), .val (.ref b6), .val (.ref b9), .val (.ref b12), .val (.ref b15), .val (.ref b18), .val (.ref b43), .unset] [(.int v2)])) := by
                        intro t k
                        refine go116 t ?_
                        refine o_ifN X44 hx hby at_213 216 rfl (teq ((lw_eq q2 v4).mpr hc213_50)).2 ?_
                        refine o_iload X44 hx hby at_216 218 rfl rfl ?_
                        exact k
                      obtain ⟨v28, hv28, go123⟩ : ∃ (v28 : Int32), v28 = (if v2 = (0 : Int32) then (1 : Int32) else (if q3 = v5 then (1 : Int32) else (0 : Int32))) ∧ Go p e below A0 (T44.setTop (mkF m 234 #[.val (.int p0), .val (.int p1), .val (.long q2), .second, .val (.long q3), .second, .val (.long q4), .second, .val (.long q5), .second, .val (.int v1), .val (.int v2), .val (.int v3), .val (.long v4), .second, .val (.long v5), .second, .val (.int v6), .val (.ref b6), .val (.ref b9), .val (.ref b12), .val (.ref b15), .val (.ref b18), .val (.ref b43), .unset] [(.int v28)])) := by
                        by_cases hc218_51 : v2 = (0 : Int32)
                        · have go118 : Go p e below A0 (T44.setTop (mkF m 234 #[.val (.int p0), .val (.int p1), .val (.long q2), .second, .val (.long q3), .second, .val (.long q4), .second, .val (.long q5), .second, .val (.int v1), .val (.int v2), .val (.int v3), .val (.long v4), .second, .val (.long v5), .second, .val (.int v6), .val (.ref b6), .val (.ref b9), .val (.ref b12), .val (.ref b15), .val (.ref b18), .val (.ref b43), .unset] [(.int (1 : Int32))])) := by
                            intro t k
                            refine go117 t ?_
                            refine o_ifY X44 hx hby at_218 229 rfl (teq hc218_51).1 ?_
                            refine o_iconst X44 hx hby at_229 230 rfl (v := (1 : Int32)) rfl ?_
                            refine o_goto X44 hx hby at_230 234 rfl ?_
                            exact k
                          exact ⟨(1 : Int32), (if_pos hc218_51).symm, go118⟩
                        · have go119 : Go p e below A0 (T44.setTop (mkF m 226 #[.val (.int p0), .val (.int p1), .val (.long q2), .second, .val (.long q3), .second, .val (.long q4), .second, .val (.long q5), .second, .val (.int v1), .val (.int v2), .val (.int v3), .val (.long v4), .second, .val (.long v5), .second, .val (.int v6), .val (.ref b6), .val (.ref b9), .val (.ref b12), .val (.ref b15), .val (.ref b18), .val (.ref b43), .unset] [(.int (lcmpW q3 v5))])) := by
                            intro t k
                            refine go117 t ?_
                            refine o_ifN X44 hx hby at_218 221 rfl (feq hc218_51).1 ?_
                            refine o_lload X44 hx hby at_221 223 rfl rfl ?_
                            refine o_lload X44 hx hby at_223 225 rfl rfl ?_
                            refine o_lcmp X44 hx hby at_225 226 rfl ?_
                            exact k
                          obtain ⟨v27, hv27, go122⟩ : ∃ (v27 : Int32), v27 = (if q3 = v5 then (1 : Int32) else (0 : Int32)) ∧ Go p e below A0 (T44.setTop (mkF m 234 #[.val (.int p0), .val (.int p1), .val (.long q2), .second, .val (.long q3), .second, .val (.long q4), .second, .val (.long q5), .second, .val (.int v1), .val (.int v2), .val (.int v3), .val (.long v4), .second, .val (.long v5), .second, .val (.int v6), .val (.ref b6), .val (.ref b9), .val (.ref b12), .val (.ref b15), .val (.ref b18), .val (.ref b43), .unset] [(.int v27)])) := by
                            by_cases hc226_52 : q3 = v5
                            · have go120 : Go p e below A0 (T44.setTop (mkF m 234 #[.val (.int p0), .val (.int p1), .val (.long q2), .second, .val (.long q3), .second, .val (.long q4), .second, .val (.long q5), .second, .val (.int v1), .val (.int v2), .val (.int v3), .val (.long v4), .second, .val (.long v5), .second, .val (.int v6), .val (.ref b6), .val (.ref b9), .val (.ref b12), .val (.ref b15), .val (.ref b18), .val (.ref b43), .unset] [(.int (1 : Int32))])) := by
                                intro t k
                                refine go119 t ?_
                                refine o_ifN X44 hx hby at_226 229 rfl (teq ((lw_eq q3 v5).mpr hc226_52)).2 ?_
                                refine o_iconst X44 hx hby at_229 230 rfl (v := (1 : Int32)) rfl ?_
                                refine o_goto X44 hx hby at_230 234 rfl ?_
                                exact k
                              exact ⟨(1 : Int32), (if_pos hc226_52).symm, go120⟩
                            · have go121 : Go p e below A0 (T44.setTop (mkF m 234 #[.val (.int p0), .val (.int p1), .val (.long q2), .second, .val (.long q3), .second, .val (.long q4), .second, .val (.long q5), .second, .val (.int v1), .val (.int v2), .val (.int v3), .val (.long v4), .second, .val (.long v5), .second, .val (.int v6), .val (.ref b6), .val (.ref b9), .val (.ref b12), .val (.ref b15), .val (.ref b18), .val (.ref b43), .unset] [(.int (0 : Int32))])) := by
                                intro t k
                                refine go119 t ?_
                                refine o_ifY X44 hx hby at_226 233 rfl (feq (fun q => hc226_52 ((lw_eq q3 v5).mp q))).2 ?_
                                refine o_iconst X44 hx hby at_233 234 rfl (v := (0 : Int32)) rfl ?_
                                exact k
                              exact ⟨(0 : Int32), (if_neg hc226_52).symm, go121⟩
                          subst hv27
                          exact ⟨(if q3 = v5 then (1 : Int32) else (0 : Int32)), (if_neg hc218_51).symm, go122⟩
                      subst hv28
                      exact ⟨(if v2 = (0 : Int32) then (1 : Int32) else (if q3 = v5 then (1 : Int32) else (0 : Int32))), (if_pos hc213_50).symm, go123⟩
                    · have go124 : Go p e below A0 (T44.setTop (mkF m 234 #[.val (.int p0), .val (.int p1), .val (.long q2), .second, .val (.long q3), .second, .val (.long q4), .second, .val (.long q5), .second, .val (.int v1), .val (.int v2), .val (.int v3), .val (.long v4), .second, .val (.long v5), .second, .val (.int v6), .val (.ref b6), .val (.ref b9), .val (.ref b12), .val (.ref b15), .val (.ref b18), .val (.ref b43), .unset] [(.int (0 : Int32))])) := by
                        intro t k
                        refine go116 t ?_
                        refine o_ifY X44 hx hby at_213 233 rfl (feq (fun q => hc213_50 ((lw_eq q2 v4).mp q))).2 ?_
                        refine o_iconst X44 hx hby at_233 234 rfl (v := (0 : Int32)) rfl ?_
                        exact k
                      exact ⟨(0 : Int32), (if_neg hc213_50).symm, go124⟩
                  subst hv29
                  exact ⟨(if q2 = v4 then (if v2 = (0 : Int32) then (1 : Int32) else (if q3 = v5 then (1 : Int32) else (0 : Int32))) else (0 : Int32)), (if_neg hc206_47).symm, go125⟩
              subst hv30
              exact ⟨(if v1 = (0 : Int32) then (if v2 = (0 : Int32) then (1 : Int32) else (if q3 = v5 then (1 : Int32) else (0 : Int32))) else (if q2 = v4 then (if v2 = (0 : Int32) then (1 : Int32) else (if q3 = v5 then (1 : Int32) else (0 : Int32))) else (0 : Int32))), (if_pos hc201_46).symm, go126⟩
            · have go127 : Go p e below A0 (T44.setTop (mkF m 234 #[.val (.int p0), .val (.int p1), .val (.long q2), .second, .val (.long q3), .second, .val (.long q4), .second, .val (.long q5), .second, .val (.int v1), .val (.int v2), .val (.int v3), .val (.long v4), .second, .val (.long v5), .second, .val (.int v6), .val (.ref b6), .val (.ref b9), .val (.ref b12), .val (.ref b15), .val (.ref b18), .val (.ref b43), .unset] [(.int (0 : Int32))])) := by
                intro t k
                refine go107 t ?_
                refine o_icmpY X44 hx hby at_201 233 rfl (feq hc201_46).2 ?_
                refine o_iconst X44 hx hby at_233 234 rfl (v := (0 : Int32)) rfl ?_
                exact k
              exact ⟨(0 : Int32), (if_neg hc201_46).symm, go127⟩
          subst hv31
          exact ⟨(if p0 = v3 then (if v1 = (0 : Int32) then (if v2 = (0 : Int32) then (1 : Int32) else (if q3 = v5 then (1 : Int32) else (0 : Int32))) else (if q2 = v4 then (if v2 = (0 : Int32) then (1 : Int32) else (if q3 = v5 then (1 : Int32) else (0 : Int32))) else (0 : Int32))) else (0 : Int32)), (if_pos hc195_45).symm, go128⟩
        · have go129 : Go p e below A0 (T44.setTop (mkF m 234 #[.val (.int p0), .val (.int p1), .val (.long q2), .second, .val (.long q3), .second, .val (.long q4), .second, .val (.long q5), .second, .val (.int v1), .val (.int v2), .val (.int v3), .val (.long v4), .second, .val (.long v5), .second, .val (.int v6), .val (.ref b6), .val (.ref b9), .val (.ref b12), .val (.ref b15), .val (.ref b18), .val (.ref b43), .unset] [(.int (0 : Int32))])) := by
            intro t k
            refine go106 t ?_
            refine o_icmpY X44 hx hby at_195 233 rfl (flt hc195_45).2.1 ?_
            refine o_iconst X44 hx hby at_233 234 rfl (v := (0 : Int32)) rfl ?_
            exact k
          exact ⟨(0 : Int32), (if_neg hc195_45).symm, go129⟩
      have go131 : Go p e below A0 (T44.setTop (mkF m 236 #[.val (.int p0), .val (.int p1), .val (.long q2), .second, .val (.long q3), .second, .val (.long q4), .second, .val (.long q5), .second, .val (.int v1), .val (.int v2), .val (.int v3), .val (.long v4), .second, .val (.long v5), .second, .val (.int v6), .val (.ref b6), .val (.ref b9), .val (.ref b12), .val (.ref b15), .val (.ref b18), .val (.ref b43), .val (.int v32)] [])) := by
        intro t k
        refine go130 t ?_
        refine o_istore X44 hx hby at_234 236 rfl (l' := #[.val (.int p0), .val (.int p1), .val (.long q2), .second, .val (.long q3), .second, .val (.long q4), .second, .val (.long q5), .second, .val (.int v1), .val (.int v2), .val (.int v3), .val (.long v4), .second, .val (.long v5), .second, .val (.int v6), .val (.ref b6), .val (.ref b9), .val (.ref b12), .val (.ref b15), .val (.ref b18), .val (.ref b43), .val (.int v32)]) rfl ?_
        exact k
      have go132 : Go p e below A0 (T44.setTop (mkF m 240 #[.val (.int p0), .val (.int p1), .val (.long q2), .second, .val (.long q3), .second, .val (.long q4), .second, .val (.long q5), .second, .val (.int v1), .val (.int v2), .val (.int v3), .val (.long v4), .second, .val (.long v5), .second, .val (.int v6), .val (.ref b6), .val (.ref b9), .val (.ref b12), .val (.ref b15), .val (.ref b18), .val (.ref b43), .val (.int v32)] [(.ref b43), (.ref b18)])) := by
        intro t k
        refine go131 t ?_
        refine o_aload X44 hx hby at_236 238 rfl rfl rfl ?_
        refine o_aload X44 hx hby at_238 240 rfl rfl rfl ?_
        exact k
      obtain ⟨cq53, kq53, q53a, q53b, q53c⟩ := isOf hZ rfl f89
      obtain ⟨_, _, ⟨T53, L53, k53, n53⟩, -, X53, ⟨Lc53, hQ53, l53, y53, z53⟩, st53⟩ := X44.virtualBack hx (y := (⟨"com/example/calchas/calchas/check/Hypothesis$Standing", "equals", "(Ljava/lang/Object;)Z"⟩ : MethodName)) (z := (⟨"com/example/calchas/calchas/check/Hypothesis$Standing", "equals", "(Ljava/lang/Object;)Z"⟩ : MethodName)) hown (mvT hZ (hw _ (List.mem_of_getElem? (i := 17) rfl))) (mvT hZ (hw _ (List.mem_of_getElem? (i := 18) rfl))) (notFace_of_selects (args := #[]) (mvT hZ (hw _ (List.mem_of_getElem? (i := 20) rfl)))) (mvT hZ (hw _ (List.mem_of_getElem? (i := 20) rfl))) (mvT hZ (hw _ (List.mem_of_getElem? (i := 19) rfl))) (by decide) (backOf (W := 0) (rm3s l Z aw hw [] b18 b43 p0 v3 ((nar .boolean v1)) ((nar .boolean v2)) q2 q3 v4 v5 b6 b9 b12 k6 k9 k12 T44.heap n0 Zp44 (f93) (f94) (f95) (f86) (f90) (f91) (f85) (f92) (f87)) hZ (hw _ (List.mem_of_getElem? (i := 21) rfl)) (hw _ (List.mem_of_getElem? (i := 4) rfl)) (by decide) (by decide)) q53a q53c (g := (mkF m 240 #[.val (.int p0), .val (.int p1), .val (.long q2), .second, .val (.long q3), .second, .val (.long q4), .second, .val (.long q5), .second, .val (.int v1), .val (.int v2), .val (.int v3), .val (.long v4), .second, .val (.long v5), .second, .val (.int v6), .val (.ref b6), .val (.ref b9), .val (.ref b12), .val (.ref b15), .val (.ref b18), .val (.ref b43), .val (.int v32)] [(.ref b43), (.ref b18)])) rfl (by rw [hml]; rfl) (Steps.refl _) (argsL := [(.ref b43)]) (rest := []) (lenOf pd_8 rfl) rfl (by show 2 * 0 + _ ≤ _; exact Nat.le_of_eq rfl) (hb hby at_240) (fun _ _ => ⟨rfl, rfl, (by decide : 6 + 0 ≤ _), (by decide : 14 + 0 ≤ _)⟩)
      dsimp only [Pt.U, Pt.locs, Pt.cells, Pt.slots] at X53 l53 y53 z53 st53 hQ53
      subst l53 y53 z53
      obtain ⟨rfl, N53q, e53⟩ := hQ53
      have N53 := Fr.app N44 N53q
      have go133 : Go p e below A0 (T53.setTop (mkF m 243 #[.val (.int p0), .val (.int p1), .val (.long q2), .second, .val (.long q3), .second, .val (.long q4), .second, .val (.long q5), .second, .val (.int v1), .val (.int v2), .val (.int v3), .val (.long v4), .second, .val (.long v5), .second, .val (.int v6), .val (.ref b6), .val (.ref b9), .val (.ref b12), .val (.ref b15), .val (.ref b18), .val (.ref b43), .val (.int v32)] [(.int (Feq p0 v3 (nar .boolean v1) (nar .boolean v2) q2 q3 v4 v5))])) := by
        intro t k
        refine go132 t ?_
        refine st53.trans ?_
        show Steps p.tables e below (T53.setTop (mkF m 243 #[.val (.int p0), .val (.int p1), .val (.long q2), .second, .val (.long q3), .second, .val (.long q4), .second, .val (.long q5), .second, .val (.int v1), .val (.int v2), .val (.int v3), .val (.long v4), .second, .val (.long v5), .second, .val (.int v6), .val (.ref b6), .val (.ref b9), .val (.ref b12), .val (.ref b15), .val (.ref b18), .val (.ref b43), .val (.int v32)] [(.int (Feq p0 v3 (nar .boolean v1) (nar .boolean v2) q2 q3 v4 v5))])) _
        exact k
      obtain ⟨v33, hv33, go134⟩ : ∃ v33 : Int32, v33 = (Feq p0 v3 (nar .boolean v1) (nar .boolean v2) q2 q3 v4 v5) ∧ Go p e below A0 (T53.setTop (mkF m 243 #[.val (.int p0), .val (.int p1), .val (.long q2), .second, .val (.long q3), .second, .val (.long q4), .second, .val (.long q5), .second, .val (.int v1), .val (.int v2), .val (.int v3), .val (.long v4), .second, .val (.long v5), .second, .val (.int v6), .val (.ref b6), .val (.ref b9), .val (.ref b12), .val (.ref b15), .val (.ref b18), .val (.ref b43), .val (.int v32)] [(.int v33)])) := ⟨_, rfl, go133⟩
      have go135 : Go p e below A0 (T53.setTop (mkF m 245 #[.val (.int p0), .val (.int p1), .val (.long q2), .second, .val (.long q3), .second, .val (.long q4), .second, .val (.long q5), .second, .val (.int v1), .val (.int v2), .val (.int v3), .val (.long v4), .second, .val (.long v5), .second, .val (.int v6), .val (.ref b6), .val (.ref b9), .val (.ref b12), .val (.ref b15), .val (.ref b18), .val (.ref b43), .val (.int v32)] [(.int v32), (.int v33)])) := by
        intro t k
        refine go134 t ?_
        refine o_iload X53 hx hby at_243 245 rfl rfl ?_
        exact k
      obtain ⟨v34, hv34, go138⟩ : ∃ (v34 : Int32), v34 = (if v33 = v32 then (1 : Int32) else (0 : Int32)) ∧ Go p e below A0 (T53.setTop (mkF m 253 #[.val (.int p0), .val (.int p1), .val (.long q2), .second, .val (.long q3), .second, .val (.long q4), .second, .val (.long q5), .second, .val (.int v1), .val (.int v2), .val (.int v3), .val (.long v4), .second, .val (.long v5), .second, .val (.int v6), .val (.ref b6), .val (.ref b9), .val (.ref b12), .val (.ref b15), .val (.ref b18), .val (.ref b43), .val (.int v32)] [(.int v34)])) := by
        by_cases hc245_54 : v33 = v32
        · have go136 : Go p e below A0 (T53.setTop (mkF m 253 #[.val (.int p0), .val (.int p1), .val (.long q2), .second, .val (.long q3), .second, .val (.long q4), .second, .val (.long q5), .second, .val (.int v1), .val (.int v2), .val (.int v3), .val (.long v4), .second, .val (.long v5), .second, .val (.int v6), .val (.ref b6), .val (.ref b9), .val (.ref b12), .val (.ref b15), .val (.ref b18), .val (.ref b43), .val (.int v32)] [(.int (1 : Int32))])) := by
            intro t k
            refine go135 t ?_
            refine o_icmpN X53 hx hby at_245 248 rfl (teq hc245_54).2 ?_
            refine o_iconst X53 hx hby at_248 249 rfl (v := (1 : Int32)) rfl ?_
            refine o_goto X53 hx hby at_249 253 rfl ?_
            exact k
          exact ⟨(1 : Int32), (if_pos hc245_54).symm, go136⟩
        · have go137 : Go p e below A0 (T53.setTop (mkF m 253 #[.val (.int p0), .val (.int p1), .val (.long q2), .second, .val (.long q3), .second, .val (.long q4), .second, .val (.long q5), .second, .val (.int v1), .val (.int v2), .val (.int v3), .val (.long v4), .second, .val (.long v5), .second, .val (.int v6), .val (.ref b6), .val (.ref b9), .val (.ref b12), .val (.ref b15), .val (.ref b18), .val (.ref b43), .val (.int v32)] [(.int (0 : Int32))])) := by
            intro t k
            refine go135 t ?_
            refine o_icmpY X53 hx hby at_245 252 rfl (feq hc245_54).2 ?_
            refine o_iconst X53 hx hby at_252 253 rfl (v := (0 : Int32)) rfl ?_
            exact k
          exact ⟨(0 : Int32), (if_neg hc245_54).symm, go137⟩
      obtain rfl : v34 = (1 : Int32) := pl_0_2 p0 p1 q2 q3 q4 q5 ca cc vl v1 v2 v3 v4 v5 v6 v32 v33 v34 hv1 hv2 hv3 hv4 hv5 hv6 hv32 hv33 hv34 hc153_20 hc168_32
      subst hA0
      obtain ⟨fs, hr, hrun, hended, hW, hsame⟩ := X53.leave (v := some (.int (1 : Int32))) (fun h => by rw [Bd.returns] at h; cases h)
      refine ⟨_, _, go138 _ (o_retZ X53 hx Bd.returns (hb hby at_253) (Or.inr rfl) hr), hrun, hended, _, _, rfl, ?_, ⟨_, rfl⟩, hW, hsame.mono (by decide) (by decide)⟩
      show Q0 Z p0 p1 q2 q3 q4 q5 ca cc vl h0 n0 _ T53.heap _
      rw [e53]
      exact ⟨rfl, N53⟩
set_option maxRecDepth 65536 in
set_option maxHeartbeats 40000000 in
theorem comes_1 {Post : Tables → Env → Array Value → State → Outcome → State → Prop} (hpost : ∀ tb e args s v u, (limb_1_1.after args s (.returned v) u = true ∧ limb_1_2.after args s (.returned v) u = true ∧ True) → FrameEnd s (.returned v) u (Jvm.fieldLocs frame_1_writes args s ++ Jvm.arrayLocs frame_1_arrays args s ++ Jvm.staticLocs frame_1_statics s) 24 128 → Post tb e args s (.returned v) u) :
    ArmFor flags0 classFile x code maxLocals ret World_1 tables_1 room_1 Calls_1 rest_1 Pre_1 Post := by
  intro l hfl _ _ p e ha hc hk s m args below hf hA hF happ hP
  obtain ⟨hcalls, hrest, hpre⟩ := hP
  obtain ⟨-, -, -, hnamed, -, -, -, hat⟩ := (Spec.applies_iff hf).mp happ
  obtain ⟨hg, hn⟩ := and_e (Cond.before_iff.mp (show (Jvm.Cond.and given_1 narrow_1).before args s = true from hpre))
  obtain ⟨g1, g2⟩ := and_e hg
  obtain ⟨g3, g4⟩ := and_e g2
  obtain ⟨g5, g6⟩ := and_e g4
  obtain ⟨g7, g8⟩ := and_e g6
  obtain ⟨g9, g10⟩ := and_e g8
  obtain ⟨g11, g12⟩ := and_e g10
  obtain ⟨w0, w1, w2, w3, w4, w5, rfl⟩ : ∃ w0 w1 w2 w3 w4 w5 : Value, args = #[w0, w1, w2, w3, w4, w5] := by
    have hs : args.size = 6 := by simpa [Cond.value, given_1] using g1
    obtain ⟨L⟩ := args
    match L, hs with
    | [w0, w1, w2, w3, w4, w5], _ => exact ⟨w0, w1, w2, w3, w4, w5, rfl⟩
  have hw := fun d (hd : d ∈ tables_1) => atoms_spec (ws := Jvm.Cond.code x code maxLocals ret :: tables_1) hat d (List.mem_cons_of_mem _ hd)
  have hfit : Fit s := fun {y c} hc i hi => by
    obtain ⟨ha, rfl⟩ := Array.getElem?_eq_some_iff.mp hc
    have q := List.all_eq_true.mp ((Array.all_eq_true_iff_forall_mem.mp hF) _ (Array.getElem_mem ha)) i (List.mem_range.mpr hi)
    simpa [Array.getElem?_eq_getElem hi] using q
  obtain ⟨hsets, hown0⟩ := atoms_of _ (rest_1_c_eq ▸ (show rest_1_c.before _ s = true from hrest))
  have hr0 := Cond.before_iff.mp hown0
  obtain ⟨i0, ei0⟩ := is_v g3
  obtain rfl : w0 = (.int i0) := Option.some.inj ei0
  obtain ⟨i1, ei1⟩ := is_v g5
  obtain rfl : w1 = (.int i1) := Option.some.inj ei1
  obtain ⟨i2, ei2⟩ := isL_v g7
  obtain rfl : w2 = (.long i2) := Option.some.inj ei2
  obtain ⟨i3, ei3⟩ := isL_v g9
  obtain rfl : w3 = (.long i3) := Option.some.inj ei3
  obtain ⟨i4, ei4⟩ := isL_v g11
  obtain rfl : w4 = (.long i4) := Option.some.inj ei4
  obtain ⟨i5, ei5⟩ := isL_v g12
  obtain rfl : w5 = (.long i5) := Option.some.inj ei5
  have hS1 : Sta s s.heap "java/lang/Integer$IntegerCache" "high" "I" (.int (127 : Int32)) := Sta.start (eqv_i (Term.int_eval 127) (Cond.before_iff.mp (hsets _ (List.mem_of_getElem? (i := 3) rfl)))) (Or.inl (hsets _ (List.mem_of_getElem? (i := 1) rfl)))
  obtain ⟨ca, eca⟩ := arr_v (Cond.before_iff.mp (hsets _ (List.mem_of_getElem? (i := 4) rfl)))
  have hS2 := Sta.start eca (Or.inr ⟨(hw _ (List.mem_of_getElem? (i := 47) rfl)), hsets _ (List.mem_of_getElem? (i := 2) rfl)⟩)
  obtain ⟨cc, Acc⟩ := Arr.start eca (Cond.before_iff.mp (hsets _ (List.mem_of_getElem? (i := 4) rfl)))
  have hl := eqv_i (Term.int_eval 256) (Cond.before_iff.mp (hsets _ (List.mem_of_getElem? (i := 6) rfl)))
  obtain ⟨hl1, hl2⟩ := own_len eca (Acc.fin (Vm.Alike.refl _)) hl
  have hB : Bxs s ca cc "java/lang/Integer" "I" (256 : Int32) (fun j => .int (j - 128)) := Bxs.start (fun idx => own_st eca) Acc hl1 hl2 (by decide) (Cond.before_iff.mp (hsets _ (List.mem_of_getElem? (i := 7) rfl))) (fun X j hj h => eqv_i (own_sub (idx_at hj)) h)
  obtain ⟨n, o, h1, h2, h3, _, L, rfl, ⟨rfl, N⟩, hq⟩ := rm0 l s _ hw tables_1 i0 i1 i2 i3 i4 i5 ca cc (fun j => .int (j - 128)) s.heap s.heap.size (Nat.le_refl _) hS1 hS2 (Old.start s) hB p e ha hc hk s m _ below hf ((Spec.applies_iff_loose hf).mp happ).1 ⟨rfl, State.Warmed39.refl s, rfl⟩ trivial
  refine ⟨n, _, h1, h2, h3, hpost _ _ _ _ _ _ ⟨Cond.after_iff.mpr rfl, Cond.after_iff.mpr (eq_i res_at (Term.int_eval (1)) rfl), trivial⟩ ⟨hq.1, hq.2.1, (hq.2.2.sift fun y hy => Or.inr (N y hy)).mono (by decide) (by decide)⟩⟩
theorem main_1_1 : Claimed_1_1 := comes_1 fun _ _ _ _ _ _ h hF => ⟨h.1, hF⟩
theorem main_1_2 : Claimed_1_2 := comes_1 fun _ _ _ _ _ _ h hF => ⟨h.2.1, hF⟩
end Jvm.Pilot.@@N@@
namespace Jvm.Pilot.@@N@@
open Jvm Jvm.ClassFile Sem Op Lib Jvm.Free Jvm.Stand Jvm.Pilot.@@N@@.Jvm.D
/-! MADE BY PROGRAM (witnessworld.py) out of the Statement's table words and the real class files: 20 classes; the members and pool entries that the words name. The judged class is class 1, her method 1. -/
namespace start1
open Jvm.ClassFile
def u (s : String) : CpInfo := .utf8 (stringToUtf16 s)
/-- a pool by its gaps: so many unusable entries, then the entry; so many at the end -/
def gap : Nat → List CpInfo → List CpInfo
  | 0, r => r
  | n + 1, r => .unusable :: gap n r
def poolList (es : List (Nat × CpInfo)) (last : Nat) : List CpInfo := es.foldr (fun e r => gap e.1 (e.2 :: r)) (gap last [])
def pool (es : List (Nat × CpInfo)) (last : Nat) : Array CpInfo := ⟨poolList es last⟩
def fileOf (pool : Array CpInfo) (this : Nat) (attrs : Array Attribute := #[]) (ms : Array MethodInfo := #[]) (fl : Nat := 33) (sup : Nat := 0) (ifs : Array Nat := #[]) (fds : Array FieldInfo := #[]) : ClassFile where
  minorVersion := 0
  majorVersion := 65
  constantPool := pool
  accessFlags := fl
  thisClass := this
  superClass := sup
  interfaces := ifs
  fields := fds
  methods := ms
  attributes := attrs
def plain (name : String) (sup : Option ClassId) : Class where
  name := name
  kind := .ordinary
  loader := none
  accessFlags := 33
  super := sup
  interfaces := #[]
  cf := none
  fields := #[]
  methods := #[]
  instanceTypes := #[]
  staticTypes := #[]
  resolved := #[]
  callSites := []
  init := .initialized
  statics := none
  mirror := none

def pool0 : Array CpInfo := pool [(5, u "<init>"), (0, u "()V"), (1, .class_ 10), (1, u "java/lang/Object")] 113

def k0c0 : Code := { maxStack := 0, maxLocals := 1, code := object_method_1_code, exceptionTable := #[], attributes := #[] }
def k0m0 : Method := { name := "<init>", desc := "()V", sig := { parameters := [], returnType := none }, accessFlags := 1, code := some k0c0 }
/-- java/lang/Object -/
def k0 : Class := { plain "java/lang/Object" none with
  accessFlags := 33
  interfaces := #[]
  cf := some (fileOf pool0 8 #[] #[{ accessFlags := 1, nameIndex := 5, descriptorIndex := 6, attributes := #[] }] 33 0 #[] #[])
  fields := #[]
  methods := #[k0m0]
  instanceTypes := #[]
  staticTypes := #[]
  resolved := Array.replicate 124 none
  statics := none }

def pool1 : Array CpInfo := pool [(2, .class_ 4), (1, u "java/lang/Object"), (0, u "<init>"), (0, u "()V"), (0, .class_ 8), (0, u "com/example/calchas/calchas/check/Hypothesis$Standing"), (0, .methodref 7 10), (0, .nameAndType 5 11), (0, u "(I[J[Z)V"), (0, .methodref 13 14), (0, .class_ 15), (0, .nameAndType 16 17), (0, u "java/lang/Integer"), (0, u "valueOf"), (0, u "(I)Ljava/lang/Integer;"), (0, .methodref 7 19), (0, .nameAndType 20 21), (0, u "equals"), (0, u "(Ljava/lang/Object;)Z"), (0, .class_ 23), (0, u "com/example/calchas/calchas/check/StandingEqualsPinLaw"), (2, u "law"), (0, u "(IIJJJJ)Z")] 11

def k1m0 : Method := { name := "<init>", desc := "()V", sig := { parameters := [], returnType := none }, accessFlags := 1, code := none }
def k1c1 : Code := { maxStack := 5, maxLocals := 25, code := code, exceptionTable := #[], attributes := #[] }
def k1m1 : Method := { name := "law", desc := "(IIJJJJ)Z", sig := { parameters := [.int, .int, .long, .long, .long, .long], returnType := some .boolean }, accessFlags := 9, code := some k1c1 }
/-- com/example/calchas/calchas/check/StandingEqualsPinLaw -/
def k1 : Class := { plain "com/example/calchas/calchas/check/StandingEqualsPinLaw" (some 0) with
  accessFlags := 49
  interfaces := #[]
  cf := some (fileOf pool1 22 #[] #[{ accessFlags := 1, nameIndex := 5, descriptorIndex := 6, attributes := #[] }, { accessFlags := 9, nameIndex := 26, descriptorIndex := 27, attributes := #[] }] 49 2 #[] #[])
  fields := #[]
  methods := #[k1m0, k1m1]
  instanceTypes := #[]
  staticTypes := #[]
  resolved := Array.replicate 39 none
  statics := none }

def pool2 : Array CpInfo := pool [(1, .methodref 2 3), (0, .class_ 4), (0, .nameAndType 5 6), (0, u "java/lang/Object"), (0, u "<init>"), (0, u "()V"), (0, .fieldref 8 9), (0, .class_ 10), (0, .nameAndType 11 12), (0, u "com/example/calchas/calchas/check/Hypothesis$Standing"), (0, u "state"), (0, u "I"), (0, .fieldref 8 14), (0, .nameAndType 15 16), (0, u "variables"), (0, u "[J"), (0, .fieldref 8 18), (0, .nameAndType 19 20), (0, u "matters"), (0, u "[Z"), (21, u "(I[J[Z)V"), (7, u "equals"), (0, u "(Ljava/lang/Object;)Z"), (3, .class_ 56), (0, u "com/example/calchas/calchas/check/Hypothesis")] 2

def k2c0 : Code := { maxStack := 2, maxLocals := 4, code := prog_18_method_1_code, exceptionTable := #[], attributes := #[] }
def k2m0 : Method := { name := "<init>", desc := "(I[J[Z)V", sig := { parameters := [.int, (.array .long), (.array .boolean)], returnType := none }, accessFlags := 0, code := some k2c0 }
def k2c1 : Code := { maxStack := 4, maxLocals := 4, code := prog_18_method_5_code, exceptionTable := #[], attributes := #[] }
def k2m1 : Method := { name := "equals", desc := "(Ljava/lang/Object;)Z", sig := { parameters := [(.object "java/lang/Object")], returnType := some .boolean }, accessFlags := 1, code := some k2c1 }
/-- com/example/calchas/calchas/check/Hypothesis$Standing -/
def k2 : Class := { plain "com/example/calchas/calchas/check/Hypothesis$Standing" (some 0) with
  accessFlags := 32
  interfaces := #[]
  cf := some (fileOf pool2 8 #[.nestHost 55] #[{ accessFlags := 0, nameIndex := 5, descriptorIndex := 42, attributes := #[] }, { accessFlags := 1, nameIndex := 50, descriptorIndex := 51, attributes := #[] }] 32 2 #[] #[{ accessFlags := 18, nameIndex := 11, descriptorIndex := 12, attributes := #[] }, { accessFlags := 18, nameIndex := 15, descriptorIndex := 16, attributes := #[] }, { accessFlags := 18, nameIndex := 19, descriptorIndex := 20, attributes := #[] }])
  fields := #[{ name := "state", type := .int, accessFlags := 18, slot := 0, constantValue := 0 }, { name := "variables", type := (.array .long), accessFlags := 18, slot := 1, constantValue := 0 }, { name := "matters", type := (.array .boolean), accessFlags := 18, slot := 2, constantValue := 0 }]
  methods := #[k2m0, k2m1]
  instanceTypes := #[.int, (.array .long), (.array .boolean)]
  staticTypes := #[]
  resolved := Array.replicate 59 none
  statics := none }

def pool3 : Array CpInfo := pool [(1, .class_ 2), (0, u "java/io/Serializable"), (0, .class_ 4), (0, u "java/lang/Object")] 2

/-- java/io/Serializable -/
def k3 : Class := { plain "java/io/Serializable" (some 0) with
  accessFlags := 1537
  interfaces := #[]
  cf := some (fileOf pool3 1 #[] #[] 1537 3 #[] #[])
  fields := #[]
  methods := #[]
  instanceTypes := #[]
  staticTypes := #[]
  resolved := Array.replicate 7 none
  statics := none }

def pool4 : Array CpInfo := pool [(1, .methodref 2 3), (0, .class_ 4), (0, .nameAndType 5 6), (0, u "java/lang/Object"), (0, u "<init>"), (0, u "()V"), (1, .class_ 10), (1, u "java/lang/Number"), (2, .class_ 14), (0, u "java/io/Serializable"), (0, u "serialVersionUID"), (0, u "J")] 20

def k4c0 : Code := { maxStack := 1, maxLocals := 1, code := jdk_18_method_1_code, exceptionTable := #[], attributes := #[] }
def k4m0 : Method := { name := "<init>", desc := "()V", sig := { parameters := [], returnType := none }, accessFlags := 1, code := some k4c0 }
/-- java/lang/Number -/
def k4 : Class := { plain "java/lang/Number" (some 0) with
  accessFlags := 1057
  interfaces := #[3]
  cf := some (fileOf pool4 8 #[] #[{ accessFlags := 1, nameIndex := 5, descriptorIndex := 6, attributes := #[] }] 1057 2 #[13] #[{ accessFlags := 26, nameIndex := 15, descriptorIndex := 16, attributes := #[] }])
  fields := #[{ name := "serialVersionUID", type := .long, accessFlags := 26, slot := 0, constantValue := 0 }]
  methods := #[k4m0]
  instanceTypes := #[]
  staticTypes := #[.long]
  resolved := Array.replicate 37 none
  statics := none }

def pool5 : Array CpInfo := pool [(1, .class_ 2), (0, u "java/lang/Comparable"), (0, .class_ 4), (0, u "java/lang/Object")] 7

/-- java/lang/Comparable -/
def k5 : Class := { plain "java/lang/Comparable" (some 0) with
  accessFlags := 1537
  interfaces := #[]
  cf := some (fileOf pool5 1 #[] #[] 1537 3 #[] #[])
  fields := #[]
  methods := #[]
  instanceTypes := #[]
  staticTypes := #[]
  resolved := Array.replicate 12 none
  statics := none }

def pool6 : Array CpInfo := pool [(1, .class_ 2), (0, u "java/lang/constant/Constable"), (0, .class_ 4), (0, u "java/lang/Object")] 6

/-- java/lang/constant/Constable -/
def k6 : Class := { plain "java/lang/constant/Constable" (some 0) with
  accessFlags := 1537
  interfaces := #[]
  cf := some (fileOf pool6 1 #[] #[] 1537 3 #[] #[])
  fields := #[]
  methods := #[]
  instanceTypes := #[]
  staticTypes := #[]
  resolved := Array.replicate 11 none
  statics := none }

def pool7 : Array CpInfo := pool [(1, .class_ 2), (0, u "java/lang/constant/ConstantDesc"), (0, .class_ 4), (0, u "java/lang/Object")] 32

/-- java/lang/constant/ConstantDesc -/
def k7 : Class := { plain "java/lang/constant/ConstantDesc" (some 0) with
  accessFlags := 1537
  interfaces := #[]
  cf := some (fileOf pool7 1 #[] #[] 1537 3 #[] #[])
  fields := #[]
  methods := #[]
  instanceTypes := #[]
  staticTypes := #[]
  resolved := Array.replicate 37 none
  statics := none }

def pool8 : Array CpInfo := pool [(1, .class_ 2), (0, u "java/lang/Integer"), (16, u "digits"), (0, u "[C"), (46, u "<init>"), (17, u "DigitOnes"), (0, u "[B"), (2, u "DigitTens"), (10, .nameAndType 67 101), (0, u "()V"), (85, u "valueOf"), (0, u "(I)Ljava/lang/Integer;"), (0, .class_ 190), (0, u "java/lang/Integer$IntegerCache"), (0, .fieldref 189 192), (0, .nameAndType 193 194), (0, u "high"), (0, u "I"), (0, .fieldref 189 196), (0, .nameAndType 197 198), (0, u "cache"), (0, u "[Ljava/lang/Integer;"), (0, .methodref 1 200), (0, .nameAndType 67 201), (0, u "(I)V"), (0, .methodref 203 100), (0, .class_ 204), (0, u "java/lang/Number"), (0, .fieldref 1 206), (0, .nameAndType 207 194), (0, u "value"), (94, u "TYPE"), (0, u "Ljava/lang/Class;"), (0, .class_ 305), (0, u "java/lang/Comparable"), (0, .class_ 307), (0, u "java/lang/constant/Constable"), (0, .class_ 309), (0, u "java/lang/constant/ConstantDesc"), (0, u "MIN_VALUE"), (1, u "MAX_VALUE"), (3, u "SIZE"), (1, u "BYTES"), (1, u "serialVersionUID"), (0, u "J")] 131

def k8c0 : Code := { maxStack := 3, maxLocals := 1, code := jdk_33_method_22_code, exceptionTable := #[], attributes := #[] }
def k8m0 : Method := { name := "valueOf", desc := "(I)Ljava/lang/Integer;", sig := { parameters := [.int], returnType := some (.object "java/lang/Integer") }, accessFlags := 9, code := some k8c0 }
def k8c1 : Code := { maxStack := 2, maxLocals := 2, code := jdk_33_method_23_code, exceptionTable := #[], attributes := #[] }
def k8m1 : Method := { name := "<init>", desc := "(I)V", sig := { parameters := [.int], returnType := none }, accessFlags := 1, code := some k8c1 }
/-- java/lang/Integer -/
def k8 : Class := { plain "java/lang/Integer" (some 4) with
  accessFlags := 49
  interfaces := #[5, 6, 7]
  cf := some (fileOf pool8 1 #[.nestMembers #[189]] #[{ accessFlags := 9, nameIndex := 187, descriptorIndex := 188, attributes := #[] }, { accessFlags := 1, nameIndex := 67, descriptorIndex := 201, attributes := #[] }] 49 203 #[304, 306, 308] #[{ accessFlags := 25, nameIndex := 310, descriptorIndex := 194, attributes := #[] }, { accessFlags := 25, nameIndex := 312, descriptorIndex := 194, attributes := #[] }, { accessFlags := 25, nameIndex := 302, descriptorIndex := 303, attributes := #[] }, { accessFlags := 24, nameIndex := 19, descriptorIndex := 20, attributes := #[] }, { accessFlags := 24, nameIndex := 89, descriptorIndex := 86, attributes := #[] }, { accessFlags := 24, nameIndex := 85, descriptorIndex := 86, attributes := #[] }, { accessFlags := 18, nameIndex := 207, descriptorIndex := 194, attributes := #[] }, { accessFlags := 25, nameIndex := 316, descriptorIndex := 194, attributes := #[] }, { accessFlags := 25, nameIndex := 318, descriptorIndex := 194, attributes := #[] }, { accessFlags := 26, nameIndex := 320, descriptorIndex := 321, attributes := #[] }])
  fields := #[{ name := "MIN_VALUE", type := .int, accessFlags := 25, slot := 0, constantValue := 0 }, { name := "MAX_VALUE", type := .int, accessFlags := 25, slot := 1, constantValue := 0 }, { name := "TYPE", type := (.object "java/lang/Class"), accessFlags := 25, slot := 2, constantValue := 0 }, { name := "digits", type := (.array .char), accessFlags := 24, slot := 3, constantValue := 0 }, { name := "DigitTens", type := (.array .byte), accessFlags := 24, slot := 4, constantValue := 0 }, { name := "DigitOnes", type := (.array .byte), accessFlags := 24, slot := 5, constantValue := 0 }, { name := "value", type := .int, accessFlags := 18, slot := 0, constantValue := 0 }, { name := "SIZE", type := .int, accessFlags := 25, slot := 6, constantValue := 0 }, { name := "BYTES", type := .int, accessFlags := 25, slot := 7, constantValue := 0 }, { name := "serialVersionUID", type := .long, accessFlags := 26, slot := 8, constantValue := 0 }]
  methods := #[k8m0, k8m1]
  instanceTypes := #[.int]
  staticTypes := #[.int, .int, (.object "java/lang/Class"), (.array .char), (.array .byte), (.array .byte), .int, .int, .long]
  resolved := Array.replicate 453 none
  statics := none }

def pool9 : Array CpInfo := pool [(2, .class_ 4), (1, u "java/lang/Object"), (0, u "<init>"), (0, u "()V"), (0, .class_ 8), (0, u "java/lang/Integer"), (7, .class_ 18), (1, u "java/lang/Integer$IntegerCache"), (0, u "$assertionsDisabled"), (0, u "Z"), (26, u "high"), (0, u "I"), (8, u "archivedCache"), (0, u "[Ljava/lang/Integer;"), (12, u "cache"), (0, u "low")] 27

def k9m0 : Method := { name := "<init>", desc := "()V", sig := { parameters := [], returnType := none }, accessFlags := 2, code := none }
/-- java/lang/Integer$IntegerCache -/
def k9 : Class := { plain "java/lang/Integer$IntegerCache" (some 0) with
  accessFlags := 48
  interfaces := #[]
  cf := some (fileOf pool9 16 #[.nestHost 7] #[{ accessFlags := 2, nameIndex := 5, descriptorIndex := 6, attributes := #[] }] 48 2 #[] #[{ accessFlags := 24, nameIndex := 72, descriptorIndex := 48, attributes := #[] }, { accessFlags := 24, nameIndex := 47, descriptorIndex := 48, attributes := #[] }, { accessFlags := 24, nameIndex := 71, descriptorIndex := 58, attributes := #[] }, { accessFlags := 8, nameIndex := 57, descriptorIndex := 58, attributes := #[] }, { accessFlags := 4120, nameIndex := 19, descriptorIndex := 20, attributes := #[] }])
  fields := #[{ name := "low", type := .int, accessFlags := 24, slot := 0, constantValue := 0 }, { name := "high", type := .int, accessFlags := 24, slot := 1, constantValue := 0 }, { name := "cache", type := (.array (.object "java/lang/Integer")), accessFlags := 24, slot := 2, constantValue := 0 }, { name := "archivedCache", type := (.array (.object "java/lang/Integer")), accessFlags := 8, slot := 3, constantValue := 0 }, { name := "$assertionsDisabled", type := .boolean, accessFlags := 4120, slot := 4, constantValue := 0 }]
  methods := #[k9m0]
  instanceTypes := #[]
  staticTypes := #[.int, .int, (.array (.object "java/lang/Integer")), (.array (.object "java/lang/Integer")), .boolean]
  resolved := Array.replicate 100 none
  statics := some 0 }

def pool10 : Array CpInfo := pool [(1, u "java/lang/Cloneable"), (0, .class_ 1), (0, u "java/lang/Object"), (0, .class_ 3)] 3

/-- java/lang/Cloneable -/
def k10 : Class := { plain "java/lang/Cloneable" (some 0) with
  accessFlags := 1537
  interfaces := #[]
  cf := some (fileOf pool10 2 #[] #[] 1537 4 #[] #[])
  fields := #[]
  methods := #[]
  instanceTypes := #[]
  staticTypes := #[]
  resolved := Array.replicate 8 none
  statics := none }

/-- the primitive boolean -/
def k11 : Class := { plain "boolean" none with kind := .primitive 'Z', accessFlags := 0x411 }
/-- [Z -/
def k12 : Class := { plain "[Z" (some 0) with kind := .array 11 .boolean, interfaces := #[10, 3], accessFlags := 1041 }

/-- the primitive byte -/
def k13 : Class := { plain "byte" none with kind := .primitive 'B', accessFlags := 0x411 }
/-- [B -/
def k14 : Class := { plain "[B" (some 0) with kind := .array 13 .byte, interfaces := #[10, 3], accessFlags := 1041 }

/-- the primitive int -/
def k15 : Class := { plain "int" none with kind := .primitive 'I', accessFlags := 0x411 }
/-- [I -/
def k16 : Class := { plain "[I" (some 0) with kind := .array 15 .int, interfaces := #[10, 3], accessFlags := 1041 }

/-- the primitive long -/
def k17 : Class := { plain "long" none with kind := .primitive 'J', accessFlags := 0x411 }
/-- [J -/
def k18 : Class := { plain "[J" (some 0) with kind := .array 17 .long, interfaces := #[10, 3], accessFlags := 1041 }

/-- [Ljava/lang/Integer; -/
def k19 : Class := { plain "[Ljava/lang/Integer;" (some 0) with kind := .array 8 (.object "java/lang/Integer"), interfaces := #[10, 3], accessFlags := 1041 }

def heap : Heap := #[{ cls := 9, slots := #[.int 0, .int 127, .ref 1, .null, .int 0], vm := .statics 9 },
  { cls := 19, slots := #[.ref 2, .ref 3, .ref 4, .ref 5, .ref 6, .ref 7, .ref 8, .ref 9, .ref 10, .ref 11, .ref 12, .ref 13, .ref 14, .ref 15, .ref 16, .ref 17, .ref 18, .ref 19, .ref 20, .ref 21, .ref 22, .ref 23, .ref 24, .ref 25, .ref 26, .ref 27, .ref 28, .ref 29, .ref 30, .ref 31, .ref 32, .ref 33, .ref 34, .ref 35, .ref 36, .ref 37, .ref 38, .ref 39, .ref 40, .ref 41, .ref 42, .ref 43, .ref 44, .ref 45, .ref 46, .ref 47, .ref 48, .ref 49, .ref 50, .ref 51, .ref 52, .ref 53, .ref 54, .ref 55, .ref 56, .ref 57, .ref 58, .ref 59, .ref 60, .ref 61, .ref 62, .ref 63, .ref 64, .ref 65, .ref 66, .ref 67, .ref 68, .ref 69, .ref 70, .ref 71, .ref 72, .ref 73, .ref 74, .ref 75, .ref 76, .ref 77, .ref 78, .ref 79, .ref 80, .ref 81, .ref 82, .ref 83, .ref 84, .ref 85, .ref 86, .ref 87, .ref 88, .ref 89, .ref 90, .ref 91, .ref 92, .ref 93, .ref 94, .ref 95, .ref 96, .ref 97, .ref 98, .ref 99, .ref 100, .ref 101, .ref 102, .ref 103, .ref 104, .ref 105, .ref 106, .ref 107, .ref 108, .ref 109, .ref 110, .ref 111, .ref 112, .ref 113, .ref 114, .ref 115, .ref 116, .ref 117, .ref 118, .ref 119, .ref 120, .ref 121, .ref 122, .ref 123, .ref 124, .ref 125, .ref 126, .ref 127, .ref 128, .ref 129, .ref 130, .ref 131, .ref 132, .ref 133, .ref 134, .ref 135, .ref 136, .ref 137, .ref 138, .ref 139, .ref 140, .ref 141, .ref 142, .ref 143, .ref 144, .ref 145, .ref 146, .ref 147, .ref 148, .ref 149, .ref 150, .ref 151, .ref 152, .ref 153, .ref 154, .ref 155, .ref 156, .ref 157, .ref 158, .ref 159, .ref 160, .ref 161, .ref 162, .ref 163, .ref 164, .ref 165, .ref 166, .ref 167, .ref 168, .ref 169, .ref 170, .ref 171, .ref 172, .ref 173, .ref 174, .ref 175, .ref 176, .ref 177, .ref 178, .ref 179, .ref 180, .ref 181, .ref 182, .ref 183, .ref 184, .ref 185, .ref 186, .ref 187, .ref 188, .ref 189, .ref 190, .ref 191, .ref 192, .ref 193, .ref 194, .ref 195, .ref 196, .ref 197, .ref 198, .ref 199, .ref 200, .ref 201, .ref 202, .ref 203, .ref 204, .ref 205, .ref 206, .ref 207, .ref 208, .ref 209, .ref 210, .ref 211, .ref 212, .ref 213, .ref 214, .ref 215, .ref 216, .ref 217, .ref 218, .ref 219, .ref 220, .ref 221, .ref 222, .ref 223, .ref 224, .ref 225, .ref 226, .ref 227, .ref 228, .ref 229, .ref 230, .ref 231, .ref 232, .ref 233, .ref 234, .ref 235, .ref 236, .ref 237, .ref 238, .ref 239, .ref 240, .ref 241, .ref 242, .ref 243, .ref 244, .ref 245, .ref 246, .ref 247, .ref 248, .ref 249, .ref 250, .ref 251, .ref 252, .ref 253, .ref 254, .ref 255, .ref 256, .ref 257], vm := .none },
  { cls := 8, slots := #[.int (-128)], vm := .none },
  { cls := 8, slots := #[.int (-127)], vm := .none },
  { cls := 8, slots := #[.int (-126)], vm := .none },
  { cls := 8, slots := #[.int (-125)], vm := .none },
  { cls := 8, slots := #[.int (-124)], vm := .none },
  { cls := 8, slots := #[.int (-123)], vm := .none },
  { cls := 8, slots := #[.int (-122)], vm := .none },
  { cls := 8, slots := #[.int (-121)], vm := .none },
  { cls := 8, slots := #[.int (-120)], vm := .none },
  { cls := 8, slots := #[.int (-119)], vm := .none },
  { cls := 8, slots := #[.int (-118)], vm := .none },
  { cls := 8, slots := #[.int (-117)], vm := .none },
  { cls := 8, slots := #[.int (-116)], vm := .none },
  { cls := 8, slots := #[.int (-115)], vm := .none },
  { cls := 8, slots := #[.int (-114)], vm := .none },
  { cls := 8, slots := #[.int (-113)], vm := .none },
  { cls := 8, slots := #[.int (-112)], vm := .none },
  { cls := 8, slots := #[.int (-111)], vm := .none },
  { cls := 8, slots := #[.int (-110)], vm := .none },
  { cls := 8, slots := #[.int (-109)], vm := .none },
  { cls := 8, slots := #[.int (-108)], vm := .none },
  { cls := 8, slots := #[.int (-107)], vm := .none },
  { cls := 8, slots := #[.int (-106)], vm := .none },
  { cls := 8, slots := #[.int (-105)], vm := .none },
  { cls := 8, slots := #[.int (-104)], vm := .none },
  { cls := 8, slots := #[.int (-103)], vm := .none },
  { cls := 8, slots := #[.int (-102)], vm := .none },
  { cls := 8, slots := #[.int (-101)], vm := .none },
  { cls := 8, slots := #[.int (-100)], vm := .none },
  { cls := 8, slots := #[.int (-99)], vm := .none },
  { cls := 8, slots := #[.int (-98)], vm := .none },
  { cls := 8, slots := #[.int (-97)], vm := .none },
  { cls := 8, slots := #[.int (-96)], vm := .none },
  { cls := 8, slots := #[.int (-95)], vm := .none },
  { cls := 8, slots := #[.int (-94)], vm := .none },
  { cls := 8, slots := #[.int (-93)], vm := .none },
  { cls := 8, slots := #[.int (-92)], vm := .none },
  { cls := 8, slots := #[.int (-91)], vm := .none },
  { cls := 8, slots := #[.int (-90)], vm := .none },
  { cls := 8, slots := #[.int (-89)], vm := .none },
  { cls := 8, slots := #[.int (-88)], vm := .none },
  { cls := 8, slots := #[.int (-87)], vm := .none },
  { cls := 8, slots := #[.int (-86)], vm := .none },
  { cls := 8, slots := #[.int (-85)], vm := .none },
  { cls := 8, slots := #[.int (-84)], vm := .none },
  { cls := 8, slots := #[.int (-83)], vm := .none },
  { cls := 8, slots := #[.int (-82)], vm := .none },
  { cls := 8, slots := #[.int (-81)], vm := .none },
  { cls := 8, slots := #[.int (-80)], vm := .none },
  { cls := 8, slots := #[.int (-79)], vm := .none },
  { cls := 8, slots := #[.int (-78)], vm := .none },
  { cls := 8, slots := #[.int (-77)], vm := .none },
  { cls := 8, slots := #[.int (-76)], vm := .none },
  { cls := 8, slots := #[.int (-75)], vm := .none },
  { cls := 8, slots := #[.int (-74)], vm := .none },
  { cls := 8, slots := #[.int (-73)], vm := .none },
  { cls := 8, slots := #[.int (-72)], vm := .none },
  { cls := 8, slots := #[.int (-71)], vm := .none },
  { cls := 8, slots := #[.int (-70)], vm := .none },
  { cls := 8, slots := #[.int (-69)], vm := .none },
  { cls := 8, slots := #[.int (-68)], vm := .none },
  { cls := 8, slots := #[.int (-67)], vm := .none },
  { cls := 8, slots := #[.int (-66)], vm := .none },
  { cls := 8, slots := #[.int (-65)], vm := .none },
  { cls := 8, slots := #[.int (-64)], vm := .none },
  { cls := 8, slots := #[.int (-63)], vm := .none },
  { cls := 8, slots := #[.int (-62)], vm := .none },
  { cls := 8, slots := #[.int (-61)], vm := .none },
  { cls := 8, slots := #[.int (-60)], vm := .none },
  { cls := 8, slots := #[.int (-59)], vm := .none },
  { cls := 8, slots := #[.int (-58)], vm := .none },
  { cls := 8, slots := #[.int (-57)], vm := .none },
  { cls := 8, slots := #[.int (-56)], vm := .none },
  { cls := 8, slots := #[.int (-55)], vm := .none },
  { cls := 8, slots := #[.int (-54)], vm := .none },
  { cls := 8, slots := #[.int (-53)], vm := .none },
  { cls := 8, slots := #[.int (-52)], vm := .none },
  { cls := 8, slots := #[.int (-51)], vm := .none },
  { cls := 8, slots := #[.int (-50)], vm := .none },
  { cls := 8, slots := #[.int (-49)], vm := .none },
  { cls := 8, slots := #[.int (-48)], vm := .none },
  { cls := 8, slots := #[.int (-47)], vm := .none },
  { cls := 8, slots := #[.int (-46)], vm := .none },
  { cls := 8, slots := #[.int (-45)], vm := .none },
  { cls := 8, slots := #[.int (-44)], vm := .none },
  { cls := 8, slots := #[.int (-43)], vm := .none },
  { cls := 8, slots := #[.int (-42)], vm := .none },
  { cls := 8, slots := #[.int (-41)], vm := .none },
  { cls := 8, slots := #[.int (-40)], vm := .none },
  { cls := 8, slots := #[.int (-39)], vm := .none },
  { cls := 8, slots := #[.int (-38)], vm := .none },
  { cls := 8, slots := #[.int (-37)], vm := .none },
  { cls := 8, slots := #[.int (-36)], vm := .none },
  { cls := 8, slots := #[.int (-35)], vm := .none },
  { cls := 8, slots := #[.int (-34)], vm := .none },
  { cls := 8, slots := #[.int (-33)], vm := .none },
  { cls := 8, slots := #[.int (-32)], vm := .none },
  { cls := 8, slots := #[.int (-31)], vm := .none },
  { cls := 8, slots := #[.int (-30)], vm := .none },
  { cls := 8, slots := #[.int (-29)], vm := .none },
  { cls := 8, slots := #[.int (-28)], vm := .none },
  { cls := 8, slots := #[.int (-27)], vm := .none },
  { cls := 8, slots := #[.int (-26)], vm := .none },
  { cls := 8, slots := #[.int (-25)], vm := .none },
  { cls := 8, slots := #[.int (-24)], vm := .none },
  { cls := 8, slots := #[.int (-23)], vm := .none },
  { cls := 8, slots := #[.int (-22)], vm := .none },
  { cls := 8, slots := #[.int (-21)], vm := .none },
  { cls := 8, slots := #[.int (-20)], vm := .none },
  { cls := 8, slots := #[.int (-19)], vm := .none },
  { cls := 8, slots := #[.int (-18)], vm := .none },
  { cls := 8, slots := #[.int (-17)], vm := .none },
  { cls := 8, slots := #[.int (-16)], vm := .none },
  { cls := 8, slots := #[.int (-15)], vm := .none },
  { cls := 8, slots := #[.int (-14)], vm := .none },
  { cls := 8, slots := #[.int (-13)], vm := .none },
  { cls := 8, slots := #[.int (-12)], vm := .none },
  { cls := 8, slots := #[.int (-11)], vm := .none },
  { cls := 8, slots := #[.int (-10)], vm := .none },
  { cls := 8, slots := #[.int (-9)], vm := .none },
  { cls := 8, slots := #[.int (-8)], vm := .none },
  { cls := 8, slots := #[.int (-7)], vm := .none },
  { cls := 8, slots := #[.int (-6)], vm := .none },
  { cls := 8, slots := #[.int (-5)], vm := .none },
  { cls := 8, slots := #[.int (-4)], vm := .none },
  { cls := 8, slots := #[.int (-3)], vm := .none },
  { cls := 8, slots := #[.int (-2)], vm := .none },
  { cls := 8, slots := #[.int (-1)], vm := .none },
  { cls := 8, slots := #[.int 0], vm := .none },
  { cls := 8, slots := #[.int 1], vm := .none },
  { cls := 8, slots := #[.int 2], vm := .none },
  { cls := 8, slots := #[.int 3], vm := .none },
  { cls := 8, slots := #[.int 4], vm := .none },
  { cls := 8, slots := #[.int 5], vm := .none },
  { cls := 8, slots := #[.int 6], vm := .none },
  { cls := 8, slots := #[.int 7], vm := .none },
  { cls := 8, slots := #[.int 8], vm := .none },
  { cls := 8, slots := #[.int 9], vm := .none },
  { cls := 8, slots := #[.int 10], vm := .none },
  { cls := 8, slots := #[.int 11], vm := .none },
  { cls := 8, slots := #[.int 12], vm := .none },
  { cls := 8, slots := #[.int 13], vm := .none },
  { cls := 8, slots := #[.int 14], vm := .none },
  { cls := 8, slots := #[.int 15], vm := .none },
  { cls := 8, slots := #[.int 16], vm := .none },
  { cls := 8, slots := #[.int 17], vm := .none },
  { cls := 8, slots := #[.int 18], vm := .none },
  { cls := 8, slots := #[.int 19], vm := .none },
  { cls := 8, slots := #[.int 20], vm := .none },
  { cls := 8, slots := #[.int 21], vm := .none },
  { cls := 8, slots := #[.int 22], vm := .none },
  { cls := 8, slots := #[.int 23], vm := .none },
  { cls := 8, slots := #[.int 24], vm := .none },
  { cls := 8, slots := #[.int 25], vm := .none },
  { cls := 8, slots := #[.int 26], vm := .none },
  { cls := 8, slots := #[.int 27], vm := .none },
  { cls := 8, slots := #[.int 28], vm := .none },
  { cls := 8, slots := #[.int 29], vm := .none },
  { cls := 8, slots := #[.int 30], vm := .none },
  { cls := 8, slots := #[.int 31], vm := .none },
  { cls := 8, slots := #[.int 32], vm := .none },
  { cls := 8, slots := #[.int 33], vm := .none },
  { cls := 8, slots := #[.int 34], vm := .none },
  { cls := 8, slots := #[.int 35], vm := .none },
  { cls := 8, slots := #[.int 36], vm := .none },
  { cls := 8, slots := #[.int 37], vm := .none },
  { cls := 8, slots := #[.int 38], vm := .none },
  { cls := 8, slots := #[.int 39], vm := .none },
  { cls := 8, slots := #[.int 40], vm := .none },
  { cls := 8, slots := #[.int 41], vm := .none },
  { cls := 8, slots := #[.int 42], vm := .none },
  { cls := 8, slots := #[.int 43], vm := .none },
  { cls := 8, slots := #[.int 44], vm := .none },
  { cls := 8, slots := #[.int 45], vm := .none },
  { cls := 8, slots := #[.int 46], vm := .none },
  { cls := 8, slots := #[.int 47], vm := .none },
  { cls := 8, slots := #[.int 48], vm := .none },
  { cls := 8, slots := #[.int 49], vm := .none },
  { cls := 8, slots := #[.int 50], vm := .none },
  { cls := 8, slots := #[.int 51], vm := .none },
  { cls := 8, slots := #[.int 52], vm := .none },
  { cls := 8, slots := #[.int 53], vm := .none },
  { cls := 8, slots := #[.int 54], vm := .none },
  { cls := 8, slots := #[.int 55], vm := .none },
  { cls := 8, slots := #[.int 56], vm := .none },
  { cls := 8, slots := #[.int 57], vm := .none },
  { cls := 8, slots := #[.int 58], vm := .none },
  { cls := 8, slots := #[.int 59], vm := .none },
  { cls := 8, slots := #[.int 60], vm := .none },
  { cls := 8, slots := #[.int 61], vm := .none },
  { cls := 8, slots := #[.int 62], vm := .none },
  { cls := 8, slots := #[.int 63], vm := .none },
  { cls := 8, slots := #[.int 64], vm := .none },
  { cls := 8, slots := #[.int 65], vm := .none },
  { cls := 8, slots := #[.int 66], vm := .none },
  { cls := 8, slots := #[.int 67], vm := .none },
  { cls := 8, slots := #[.int 68], vm := .none },
  { cls := 8, slots := #[.int 69], vm := .none },
  { cls := 8, slots := #[.int 70], vm := .none },
  { cls := 8, slots := #[.int 71], vm := .none },
  { cls := 8, slots := #[.int 72], vm := .none },
  { cls := 8, slots := #[.int 73], vm := .none },
  { cls := 8, slots := #[.int 74], vm := .none },
  { cls := 8, slots := #[.int 75], vm := .none },
  { cls := 8, slots := #[.int 76], vm := .none },
  { cls := 8, slots := #[.int 77], vm := .none },
  { cls := 8, slots := #[.int 78], vm := .none },
  { cls := 8, slots := #[.int 79], vm := .none },
  { cls := 8, slots := #[.int 80], vm := .none },
  { cls := 8, slots := #[.int 81], vm := .none },
  { cls := 8, slots := #[.int 82], vm := .none },
  { cls := 8, slots := #[.int 83], vm := .none },
  { cls := 8, slots := #[.int 84], vm := .none },
  { cls := 8, slots := #[.int 85], vm := .none },
  { cls := 8, slots := #[.int 86], vm := .none },
  { cls := 8, slots := #[.int 87], vm := .none },
  { cls := 8, slots := #[.int 88], vm := .none },
  { cls := 8, slots := #[.int 89], vm := .none },
  { cls := 8, slots := #[.int 90], vm := .none },
  { cls := 8, slots := #[.int 91], vm := .none },
  { cls := 8, slots := #[.int 92], vm := .none },
  { cls := 8, slots := #[.int 93], vm := .none },
  { cls := 8, slots := #[.int 94], vm := .none },
  { cls := 8, slots := #[.int 95], vm := .none },
  { cls := 8, slots := #[.int 96], vm := .none },
  { cls := 8, slots := #[.int 97], vm := .none },
  { cls := 8, slots := #[.int 98], vm := .none },
  { cls := 8, slots := #[.int 99], vm := .none },
  { cls := 8, slots := #[.int 100], vm := .none },
  { cls := 8, slots := #[.int 101], vm := .none },
  { cls := 8, slots := #[.int 102], vm := .none },
  { cls := 8, slots := #[.int 103], vm := .none },
  { cls := 8, slots := #[.int 104], vm := .none },
  { cls := 8, slots := #[.int 105], vm := .none },
  { cls := 8, slots := #[.int 106], vm := .none },
  { cls := 8, slots := #[.int 107], vm := .none },
  { cls := 8, slots := #[.int 108], vm := .none },
  { cls := 8, slots := #[.int 109], vm := .none },
  { cls := 8, slots := #[.int 110], vm := .none },
  { cls := 8, slots := #[.int 111], vm := .none },
  { cls := 8, slots := #[.int 112], vm := .none },
  { cls := 8, slots := #[.int 113], vm := .none },
  { cls := 8, slots := #[.int 114], vm := .none },
  { cls := 8, slots := #[.int 115], vm := .none },
  { cls := 8, slots := #[.int 116], vm := .none },
  { cls := 8, slots := #[.int 117], vm := .none },
  { cls := 8, slots := #[.int 118], vm := .none },
  { cls := 8, slots := #[.int 119], vm := .none },
  { cls := 8, slots := #[.int 120], vm := .none },
  { cls := 8, slots := #[.int 121], vm := .none },
  { cls := 8, slots := #[.int 122], vm := .none },
  { cls := 8, slots := #[.int 123], vm := .none },
  { cls := 8, slots := #[.int 124], vm := .none },
  { cls := 8, slots := #[.int 125], vm := .none },
  { cls := 8, slots := #[.int 126], vm := .none },
  { cls := 8, slots := #[.int 127], vm := .none }]
def classes : Array Class := #[k0, k1, k2, k3, k4, k5, k6, k7, k8, k9, k10, k11, k12, k13, k14, k15, k16, k17, k18, k19]
def interned : List (Array UInt16 × Addr) := []
def slotsUsed : Nat := 517
def theMethod : MethodId := ⟨1, 1⟩
def args0 : Array Value := #[.int 5, .int 7, .long 9, .long 3, .long 2, .long 8]
def aboutOver (below : List Frame) : State where
  vm := { classes := classes, interned := interned.toArray }
  heap := heap
  slotsUsed := slotsUsed
  threads := #[{ frames := .invoking theMethod args0 :: below }]
def below0 : List Frame := [.native { method := ⟨0, 0⟩, args := #[] }]
def about1 : State := aboutOver below0
def p0 : Program := .bare "" "" ""
def e0 : Env := launch0.env 0 0 0
theorem w_frames : about1.frames = Frame.invoking theMethod args0 :: below0 := rfl
set_option maxRecDepth 65536 in
theorem w_args : argsFit about1.vm theMethod args0 = true := by decide +kernel
set_option maxRecDepth 65536 in
theorem w_heap : heapFits about1 = true := by decide +kernel
set_option maxRecDepth 65536 in
theorem w_runnable : about1.curStatus? = some .runnable := by decide +kernel
set_option maxRecDepth 65536 in
theorem w_alone : about1.alone = true := by decide +kernel
set_option maxRecDepth 65536 in
theorem w_named : about1.methodNamed? x = some theMethod := by decide +kernel
set_option maxRecDepth 65536 in
theorem w_hears : about1.hears theMethod below0 = true := by decide +kernel
set_option maxRecDepth 65536 in
theorem w_ripe : about1.ripe theMethod args0 below0 = true := by decide +kernel
theorem w_running : about1.status = .running := rfl
set_option maxRecDepth 65536 in
theorem w_room : about1.hasRoom e0.platform room_1 = true :=
  launch0.hasRoom_least _ room_1 (by decide +kernel) (by decide +kernel) (by decide +kernel) (by decide +kernel) (by decide +kernel) (by decide +kernel)
theorem allAtoms_all (ts : List Jvm.Cond) (a : Array Jvm.Value) (st : Jvm.State) : (allAtoms ts).before a st = ts.all (fun c => c.before a st) := by
  induction ts with
  | nil => rfl
  | cons c t ih =>
    show (Jvm.Cond.and c (allAtoms t)).before a st = _
    rw [Jvm.Cond.before_and, ih, List.all_cons]
def words1 : List Jvm.Cond := Jvm.Cond.code x code maxLocals ret :: tables_1
/-- a 'code' word, met by the world's own term for the bytes: nothing is compared byte by byte -/
theorem code_word {y : MethodName} {bytes : ByteArray} {mx : Nat} {rt : Option FieldType} {a : Array Value} {s : State} {m : MethodId} {meth : Method} {c : Code} (h1 : s.methodNamed? y = some m) (h2 : s.vm.method? m = some meth) (h3 : meth.code = some c) (h4 : c.code = bytes)
    (h5 : (c.maxLocals == mx && c.exceptionTable.isEmpty && decide (c.maxStack ≤ mostOperands) && decide (meth.sig.returnType = rt) && !meth.locks && decide (parseMethodDescriptor y.desc = some meth.sig)) = true) : (Jvm.Cond.code y bytes mx rt).before a s = true := by
  simp only [Bool.and_eq_true, beq_iff_eq, Bool.not_eq_true', decide_eq_true_eq] at h5
  obtain ⟨⟨⟨⟨⟨g1, g2⟩, g3⟩, g4⟩, g5⟩, g6⟩ := h5
  simp [Cond.before, Cond.holds, Cond.value, h1, h2, h3, h4, g1, g2, g3, g4, g5, g6]
def isCode : Jvm.Cond → Bool
  | .code _ _ _ _ => true
  | _ => false
theorem all_split {L : List Jvm.Cond} {P : Jvm.Cond → Bool} (h1 : L.all (fun c => isCode c || P c) = true) (h2 : ∀ c ∈ L.filter isCode, P c = true) : L.all P = true := by
  refine List.all_eq_true.mpr fun c hc => ?_
  have h := List.all_eq_true.mp h1 c hc
  rcases Bool.eq_false_or_eq_true (isCode c) with hi | hi
  · exact h2 c (List.mem_filter.mpr ⟨hc, hi⟩)
  · simpa [hi] using h
set_option maxRecDepth 65536 in
theorem w_c0 : (Jvm.Cond.code x code maxLocals ret).before args0 about1 = true := code_word (m := ⟨1, 1⟩) (meth := k1m1) (c := k1c1) (by decide +kernel) rfl rfl rfl (by decide +kernel)
set_option maxRecDepth 65536 in
theorem w_c1 : (Jvm.Cond.code ({ cls := "com/example/calchas/calchas/check/Hypothesis$Standing", name := "<init>", desc := "(I[J[Z)V" } : Jvm.MethodName) prog_18_method_1_code (4 : Nat) (Option.none : Option Jvm.ClassFile.FieldType)).before args0 about1 = true := code_word (m := ⟨2, 0⟩) (meth := k2m0) (c := k2c0) (by decide +kernel) rfl rfl rfl (by decide +kernel)
set_option maxRecDepth 65536 in
theorem w_c2 : (Jvm.Cond.code ({ cls := "java/lang/Object", name := "<init>", desc := "()V" } : Jvm.MethodName) object_method_1_code (1 : Nat) (Option.none : Option Jvm.ClassFile.FieldType)).before args0 about1 = true := code_word (m := ⟨0, 0⟩) (meth := k0m0) (c := k0c0) (by decide +kernel) rfl rfl rfl (by decide +kernel)
set_option maxRecDepth 65536 in
theorem w_c3 : (Jvm.Cond.code ({ cls := "com/example/calchas/calchas/check/Hypothesis$Standing", name := "equals", desc := "(Ljava/lang/Object;)Z" } : Jvm.MethodName) prog_18_method_5_code (4 : Nat) (Option.some Jvm.ClassFile.FieldType.boolean)).before args0 about1 = true := code_word (m := ⟨2, 1⟩) (meth := k2m1) (c := k2c1) (by decide +kernel) rfl rfl rfl (by decide +kernel)
set_option maxRecDepth 65536 in
theorem w_c4 : (Jvm.Cond.code ({ cls := "java/lang/Integer", name := "valueOf", desc := "(I)Ljava/lang/Integer;" } : Jvm.MethodName) jdk_33_method_22_code (1 : Nat) (Option.some (Jvm.ClassFile.FieldType.object "java/lang/Integer"))).before args0 about1 = true := code_word (m := ⟨8, 0⟩) (meth := k8m0) (c := k8c0) (by decide +kernel) rfl rfl rfl (by decide +kernel)
set_option maxRecDepth 65536 in
theorem w_c5 : (Jvm.Cond.code ({ cls := "java/lang/Integer", name := "<init>", desc := "(I)V" } : Jvm.MethodName) jdk_33_method_23_code (2 : Nat) (Option.none : Option Jvm.ClassFile.FieldType)).before args0 about1 = true := code_word (m := ⟨8, 1⟩) (meth := k8m1) (c := k8c1) (by decide +kernel) rfl rfl rfl (by decide +kernel)
set_option maxRecDepth 65536 in
theorem w_c6 : (Jvm.Cond.code ({ cls := "java/lang/Number", name := "<init>", desc := "()V" } : Jvm.MethodName) jdk_18_method_1_code (1 : Nat) (Option.none : Option Jvm.ClassFile.FieldType)).before args0 about1 = true := code_word (m := ⟨4, 0⟩) (meth := k4m0) (c := k4c0) (by decide +kernel) rfl rfl rfl (by decide +kernel)
def codes1 : List Jvm.Cond := [Jvm.Cond.code x code maxLocals ret, Jvm.Cond.code ({ cls := "com/example/calchas/calchas/check/Hypothesis$Standing", name := "<init>", desc := "(I[J[Z)V" } : Jvm.MethodName) prog_18_method_1_code (4 : Nat) (Option.none : Option Jvm.ClassFile.FieldType), Jvm.Cond.code ({ cls := "java/lang/Object", name := "<init>", desc := "()V" } : Jvm.MethodName) object_method_1_code (1 : Nat) (Option.none : Option Jvm.ClassFile.FieldType), Jvm.Cond.code ({ cls := "com/example/calchas/calchas/check/Hypothesis$Standing", name := "equals", desc := "(Ljava/lang/Object;)Z" } : Jvm.MethodName) prog_18_method_5_code (4 : Nat) (Option.some Jvm.ClassFile.FieldType.boolean), Jvm.Cond.code ({ cls := "java/lang/Integer", name := "valueOf", desc := "(I)Ljava/lang/Integer;" } : Jvm.MethodName) jdk_33_method_22_code (1 : Nat) (Option.some (Jvm.ClassFile.FieldType.object "java/lang/Integer")), Jvm.Cond.code ({ cls := "java/lang/Integer", name := "<init>", desc := "(I)V" } : Jvm.MethodName) jdk_33_method_23_code (2 : Nat) (Option.none : Option Jvm.ClassFile.FieldType), Jvm.Cond.code ({ cls := "java/lang/Number", name := "<init>", desc := "()V" } : Jvm.MethodName) jdk_18_method_1_code (1 : Nat) (Option.none : Option Jvm.ClassFile.FieldType)]
set_option maxRecDepth 65536 in
theorem codes_eq : words1.filter isCode = codes1 := rfl
theorem w_codes : ∀ c ∈ words1.filter isCode, c.before args0 about1 = true := by
  rw [codes_eq]
  intro c hc
  simp only [codes1, List.mem_cons, List.not_mem_nil, or_false] at hc
  rcases hc with rfl | rfl | rfl | rfl | rfl | rfl | rfl
  · exact w_c0
  · exact w_c1
  · exact w_c2
  · exact w_c3
  · exact w_c4
  · exact w_c5
  · exact w_c6
set_option maxRecDepth 65536 in
theorem w_t1 : (words1.take 24).all (fun c => isCode c || c.before args0 about1) = true := by decide +kernel
set_option maxRecDepth 65536 in
theorem w_t2 : ((words1.drop 24).take 24).all (fun c => isCode c || c.before args0 about1) = true := by decide +kernel
set_option maxRecDepth 65536 in
theorem w_t3 : ((words1.drop 24).drop 24).all (fun c => isCode c || c.before args0 about1) = true := by decide +kernel
theorem w_tables : (allAtoms (Jvm.Cond.code x code maxLocals ret :: tables_1)).before args0 about1 = true := by
  rw [allAtoms_all]
  show words1.all (fun c => c.before args0 about1) = true
  refine all_split ?_ w_codes
  rw [← List.take_append_drop 24 words1, List.all_append, w_t1, ← List.take_append_drop 24 (words1.drop 24), List.all_append, w_t2, w_t3]
  rfl
set_option maxRecDepth 65536 in
theorem w_rest : rest_1_c.before args0 about1 = true := by decide +kernel
set_option maxRecDepth 65536 in
theorem w_case : (Jvm.Cond.and given_1 narrow_1).before args0 about1 = true := by decide +kernel
theorem w_applies : (headSpec (Jvm.Cond.code x code maxLocals ret :: tables_1) room_1).applies x e0.platform about1 = true :=
  (Spec.applies_iff w_frames).mpr ⟨w_running, w_runnable, w_alone, w_named, w_hears, w_ripe, w_room, w_tables⟩
theorem atStart : AtStart classFile x code maxLocals ret World_1 tables_1 room_1 Calls_1 rest_1 Pre_1 launch0 p0 e0 about1 theMethod args0 below0 :=
  ⟨lists_1, trivial, launch0.admits_env _ _ _, launch0.least_env, fairChoices_fair.cas, fairChoices_fair.clock, w_frames, w_args, w_heap, w_applies, trivial, w_rest, w_case⟩
end start1
theorem witness_1 : WitnessClaimed_1 := ⟨start1.p0, start1.e0, start1.about1, start1.theMethod, start1.args0, start1.below0, start1.atStart⟩
end Jvm.Pilot.@@N@@
