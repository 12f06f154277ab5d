import JvmDerived
import JvmDerived.Pilot.@@N@@Statement
import JvmDerived.Pilot.@@N@@Code
set_option linter.unusedVariables false
set_option linter.unusedSimpArgs false
namespace Jvm.Pilot.@@N@@
open Jvm Jvm.ClassFile Sem Op Lib Jvm.Free Jvm.Stand Jvm.LawKit Jvm.RoadKit Bundle Jvm.Pilot.@@N@@.Jvm.D
/-- from A the run comes to B -/
abbrev Go (p : Program) (e : Env) (below : List Frame) (A B : State) : Prop := ∀ t, Steps p.tables e below B t → Steps p.tables e below A t
section Own
variable {p : Program} {l : Launch} {e : Env} {R : Room} {s : State} {m : MethodId} {args : Array Value} {below : List Frame} {meth : Method} {c : Code} {T : State} {locs : List Loc} {cells slots : Nat} {t : State} {A : ByteArray} {pc : Nat} {L : Array Slot} {S : List Value}
theorem o_iloadN (X : Stand p l e R s m args below meth c T locs cells slots) (hx : p.tables.exec = Jvm.exec) (hby : c.code = A) {k : Fin 4} {v : Int32} (hd : decode A pc = .ok (.iload_n k, 1)) (n : Nat) (hn : pc + 1 = n) (hl : L[k.val]? = some (.val (.int v))) (hr : Steps p.tables e below (T.setTop (mkF m n L (.int v :: S))) t) : Steps p.tables e below (T.setTop (mkF m pc L S)) t := by
  subst hn; exact XS.iloadN X.here hx rfl (hb hby hd) hl hr
theorem o_lloadN (X : Stand p l e R s m args below meth c T locs cells slots) (hx : p.tables.exec = Jvm.exec) (hby : c.code = A) {k : Fin 4} {v : Int64} (hd : decode A pc = .ok (.lload_n k, 1)) (n : Nat) (hn : pc + 1 = n) (hl : L[k.val]? = some (.val (.long v))) (hr : Steps p.tables e below (T.setTop (mkF m n L (.long v :: S))) t) : Steps p.tables e below (T.setTop (mkF m pc L S)) t := by
  subst hn; exact XS.lloadN X.here hx rfl (hb hby hd) hl hr
theorem o_aloadN (X : Stand p l e R s m args below meth c T locs cells slots) (hx : p.tables.exec = Jvm.exec) (hby : c.code = A) {k : Fin 4} {v : Value} (hd : decode A pc = .ok (.aload_n k, 1)) (n : Nat) (hn : pc + 1 = n) (hl : L[k.val]? = some (.val v)) (hv : v.isRef = true) (hr : Steps p.tables e below (T.setTop (mkF m n L (v :: S))) t) : Steps p.tables e below (T.setTop (mkF m pc L S)) t := by
  subst hn; exact XS.aloadN X.here hx rfl (hb hby hd) hl hv hr
theorem o_istoreN (X : Stand p l e R s m args below meth c T locs cells slots) (hx : p.tables.exec = Jvm.exec) (hby : c.code = A) {k : Fin 4} {v : Int32} {l' : Array Slot} (hd : decode A pc = .ok (.istore_n k, 1)) (n : Nat) (hn : pc + 1 = n) (hl : storeLocals L k.val (.int v) = some l') (hr : Steps p.tables e below (T.setTop (mkF m n l' S)) t) : Steps p.tables e below (T.setTop (mkF m pc L (.int v :: S))) t := by
  subst hn; exact XS.istoreN X.here hx rfl (hb hby hd) rfl hl hr
theorem o_lstoreN (X : Stand p l e R s m args below meth c T locs cells slots) (hx : p.tables.exec = Jvm.exec) (hby : c.code = A) {k : Fin 4} {v : Int64} {l' : Array Slot} (hd : decode A pc = .ok (.lstore_n k, 1)) (n : Nat) (hn : pc + 1 = n) (hl : storeLocals L k.val (.long v) = some l') (hr : Steps p.tables e below (T.setTop (mkF m n l' S)) t) : Steps p.tables e below (T.setTop (mkF m pc L (.long v :: S))) t := by
  subst hn; exact XS.lstoreN X.here hx rfl (hb hby hd) rfl hl hr
theorem o_astoreN (X : Stand p l e R s m args below meth c T locs cells slots) (hx : p.tables.exec = Jvm.exec) (hby : c.code = A) {k : Fin 4} {v : Value} {l' : Array Slot} (hd : decode A pc = .ok (.astore_n k, 1)) (n : Nat) (hn : pc + 1 = n) (hv : v.isRef = true) (hl : storeLocals L k.val v = some l') (hr : Steps p.tables e below (T.setTop (mkF m n l' S)) t) : Steps p.tables e below (T.setTop (mkF m pc L (v :: S))) t := by
  subst hn; exact XS.astoreN X.here hx rfl (hb hby hd) rfl hv hl hr
theorem o_iload (X : Stand p l e R s m args below meth c T locs cells slots) (hx : p.tables.exec = Jvm.exec) (hby : c.code = A) {k : Nat} {v : Int32} (hd : decode A pc = .ok (.iload k, 2)) (n : Nat) (hn : pc + 2 = n) (hl : L[k]? = some (.val (.int v))) (hr : Steps p.tables e below (T.setTop (mkF m n L (.int v :: S))) t) : Steps p.tables e below (T.setTop (mkF m pc L S)) t := by
  subst hn; exact XS.iload X.here hx rfl (hb hby hd) hl hr
theorem o_lload (X : Stand p l e R s m args below meth c T locs cells slots) (hx : p.tables.exec = Jvm.exec) (hby : c.code = A) {k : Nat} {v : Int64} (hd : decode A pc = .ok (.lload k, 2)) (n : Nat) (hn : pc + 2 = n) (hl : L[k]? = some (.val (.long v))) (hr : Steps p.tables e below (T.setTop (mkF m n L (.long v :: S))) t) : Steps p.tables e below (T.setTop (mkF m pc L S)) t := by
  subst hn; exact XS.lload X.here hx rfl (hb hby hd) hl hr
theorem o_aload (X : Stand p l e R s m args below meth c T locs cells slots) (hx : p.tables.exec = Jvm.exec) (hby : c.code = A) {k : Nat} {v : Value} (hd : decode A pc = .ok (.aload k, 2)) (n : Nat) (hn : pc + 2 = n) (hl : L[k]? = some (.val v)) (hv : v.isRef = true) (hr : Steps p.tables e below (T.setTop (mkF m n L (v :: S))) t) : Steps p.tables e below (T.setTop (mkF m pc L S)) t := by
  subst hn; exact XS.aload X.here hx rfl (hb hby hd) hl hv hr
theorem o_istore (X : Stand p l e R s m args below meth c T locs cells slots) (hx : p.tables.exec = Jvm.exec) (hby : c.code = A) {k : Nat} {v : Int32} {l' : Array Slot} (hd : decode A pc = .ok (.istore k, 2)) (n : Nat) (hn : pc + 2 = n) (hl : storeLocals L k (.int v) = some l') (hr : Steps p.tables e below (T.setTop (mkF m n l' S)) t) : Steps p.tables e below (T.setTop (mkF m pc L (.int v :: S))) t := by
  subst hn; exact XS.istore X.here hx rfl (hb hby hd) rfl hl hr
theorem o_lstore (X : Stand p l e R s m args below meth c T locs cells slots) (hx : p.tables.exec = Jvm.exec) (hby : c.code = A) {k : Nat} {v : Int64} {l' : Array Slot} (hd : decode A pc = .ok (.lstore k, 2)) (n : Nat) (hn : pc + 2 = n) (hl : storeLocals L k (.long v) = some l') (hr : Steps p.tables e below (T.setTop (mkF m n l' S)) t) : Steps p.tables e below (T.setTop (mkF m pc L (.long v :: S))) t := by
  subst hn; exact XS.lstore X.here hx rfl (hb hby hd) rfl hl hr
theorem o_astore (X : Stand p l e R s m args below meth c T locs cells slots) (hx : p.tables.exec = Jvm.exec) (hby : c.code = A) {k : Nat} {v : Value} {l' : Array Slot} (hd : decode A pc = .ok (.astore k, 2)) (n : Nat) (hn : pc + 2 = n) (hv : v.isRef = true) (hl : storeLocals L k v = some l') (hr : Steps p.tables e below (T.setTop (mkF m n l' S)) t) : Steps p.tables e below (T.setTop (mkF m pc L (v :: S))) t := by
  subst hn; exact XS.astore X.here hx rfl (hb hby hd) rfl hv hl hr
theorem o_iconst (X : Stand p l e R s m args below meth c T locs cells slots) (hx : p.tables.exec = Jvm.exec) (hby : c.code = A) {i : Int} (hd : decode A pc = .ok (.iconst i, 1)) (n : Nat) (hn : pc + 1 = n) {v : Int32} (hv : Int32.ofInt i = v) (hr : Steps p.tables e below (T.setTop (mkF m n L (.int v :: S))) t) : Steps p.tables e below (T.setTop (mkF m pc L S)) t := by
  subst hn; subst hv; exact XS.iconst X.here hx rfl (hb hby hd) hr
theorem o_bipush (X : Stand p l e R s m args below meth c T locs cells slots) (hx : p.tables.exec = Jvm.exec) (hby : c.code = A) {i : Int} (hd : decode A pc = .ok (.bipush i, 2)) (n : Nat) (hn : pc + 2 = n) {v : Int32} (hv : (Int8.ofInt i).toInt32 = v) (hr : Steps p.tables e below (T.setTop (mkF m n L (.int v :: S))) t) : Steps p.tables e below (T.setTop (mkF m pc L S)) t := by
  subst hn; subst hv; exact XS.bipush X.here hx rfl (hb hby hd) hr
theorem o_sipush (X : Stand p l e R s m args below meth c T locs cells slots) (hx : p.tables.exec = Jvm.exec) (hby : c.code = A) {i : Int} (hd : decode A pc = .ok (.sipush i, 3)) (n : Nat) (hn : pc + 3 = n) {v : Int32} (hv : (Int16.ofInt i).toInt32 = v) (hr : Steps p.tables e below (T.setTop (mkF m n L (.int v :: S))) t) : Steps p.tables e below (T.setTop (mkF m pc L S)) t := by
  subst hn; subst hv; exact XS.sipush X.here hx rfl (hb hby hd) hr
theorem o_lconst (X : Stand p l e R s m args below meth c T locs cells slots) (hx : p.tables.exec = Jvm.exec) (hby : c.code = A) {i : Fin 2} (hd : decode A pc = .ok (.lconst i, 1)) (n : Nat) (hn : pc + 1 = n) {v : Int64} (hv : Int64.ofNat i.val = v) (hr : Steps p.tables e below (T.setTop (mkF m n L (.long v :: S))) t) : Steps p.tables e below (T.setTop (mkF m pc L S)) t := by
  subst hn; subst hv; exact XS.lconst X.here hx rfl (hb hby hd) hr
theorem o_aconstNull (X : Stand p l e R s m args below meth c T locs cells slots) (hx : p.tables.exec = Jvm.exec) (hby : c.code = A) (hd : decode A pc = .ok (.aconst_null, 1)) (n : Nat) (hn : pc + 1 = n) (hr : Steps p.tables e below (T.setTop (mkF m n L (.null :: S))) t) : Steps p.tables e below (T.setTop (mkF m pc L S)) t := by
  subst hn; exact XS.aconstNull X.here hx rfl (hb hby hd) hr
theorem o_iadd (X : Stand p l e R s m args below meth c T locs cells slots) (hx : p.tables.exec = Jvm.exec) (hby : c.code = A) {x y : Int32} (hd : decode A pc = .ok (.iadd, 1)) (n : Nat) (hn : pc + 1 = n) (hr : Steps p.tables e below (T.setTop (mkF m n L (.int (x + y) :: S))) t) : Steps p.tables e below (T.setTop (mkF m pc L (.int y :: .int x :: S))) t := by
  subst hn; exact XS.iadd X.here hx rfl (hb hby hd) rfl hr
theorem o_ladd (X : Stand p l e R s m args below meth c T locs cells slots) (hx : p.tables.exec = Jvm.exec) (hby : c.code = A) {x y : Int64} (hd : decode A pc = .ok (.ladd, 1)) (n : Nat) (hn : pc + 1 = n) (hr : Steps p.tables e below (T.setTop (mkF m n L (.long (x + y) :: S))) t) : Steps p.tables e below (T.setTop (mkF m pc L (.long y :: .long x :: S))) t := by
  subst hn; exact XS.ladd X.here hx rfl (hb hby hd) rfl hr
theorem o_isub (X : Stand p l e R s m args below meth c T locs cells slots) (hx : p.tables.exec = Jvm.exec) (hby : c.code = A) {x y : Int32} (hd : decode A pc = .ok (.isub, 1)) (n : Nat) (hn : pc + 1 = n) (hr : Steps p.tables e below (T.setTop (mkF m n L (.int (x - y) :: S))) t) : Steps p.tables e below (T.setTop (mkF m pc L (.int y :: .int x :: S))) t := by
  subst hn; exact XS.isub X.here hx rfl (hb hby hd) rfl hr
theorem o_lsub (X : Stand p l e R s m args below meth c T locs cells slots) (hx : p.tables.exec = Jvm.exec) (hby : c.code = A) {x y : Int64} (hd : decode A pc = .ok (.lsub, 1)) (n : Nat) (hn : pc + 1 = n) (hr : Steps p.tables e below (T.setTop (mkF m n L (.long (x - y) :: S))) t) : Steps p.tables e below (T.setTop (mkF m pc L (.long y :: .long x :: S))) t := by
  subst hn; exact XS.lsub X.here hx rfl (hb hby hd) rfl hr
theorem o_imul (X : Stand p l e R s m args below meth c T locs cells slots) (hx : p.tables.exec = Jvm.exec) (hby : c.code = A) {x y : Int32} (hd : decode A pc = .ok (.imul, 1)) (n : Nat) (hn : pc + 1 = n) (hr : Steps p.tables e below (T.setTop (mkF m n L (.int (x * y) :: S))) t) : Steps p.tables e below (T.setTop (mkF m pc L (.int y :: .int x :: S))) t := by
  subst hn; exact XS.imul X.here hx rfl (hb hby hd) rfl hr
theorem o_lmul (X : Stand p l e R s m args below meth c T locs cells slots) (hx : p.tables.exec = Jvm.exec) (hby : c.code = A) {x y : Int64} (hd : decode A pc = .ok (.lmul, 1)) (n : Nat) (hn : pc + 1 = n) (hr : Steps p.tables e below (T.setTop (mkF m n L (.long (x * y) :: S))) t) : Steps p.tables e below (T.setTop (mkF m pc L (.long y :: .long x :: S))) t := by
  subst hn; exact XS.lmul X.here hx rfl (hb hby hd) rfl hr
theorem o_iand (X : Stand p l e R s m args below meth c T locs cells slots) (hx : p.tables.exec = Jvm.exec) (hby : c.code = A) {x y : Int32} (hd : decode A pc = .ok (.iand, 1)) (n : Nat) (hn : pc + 1 = n) (hr : Steps p.tables e below (T.setTop (mkF m n L (.int (x &&& y) :: S))) t) : Steps p.tables e below (T.setTop (mkF m pc L (.int y :: .int x :: S))) t := by
  subst hn; exact XS.iand X.here hx rfl (hb hby hd) rfl hr
theorem o_land (X : Stand p l e R s m args below meth c T locs cells slots) (hx : p.tables.exec = Jvm.exec) (hby : c.code = A) {x y : Int64} (hd : decode A pc = .ok (.land, 1)) (n : Nat) (hn : pc + 1 = n) (hr : Steps p.tables e below (T.setTop (mkF m n L (.long (x &&& y) :: S))) t) : Steps p.tables e below (T.setTop (mkF m pc L (.long y :: .long x :: S))) t := by
  subst hn; exact XS.land X.here hx rfl (hb hby hd) rfl hr
theorem o_ior (X : Stand p l e R s m args below meth c T locs cells slots) (hx : p.tables.exec = Jvm.exec) (hby : c.code = A) {x y : Int32} (hd : decode A pc = .ok (.ior, 1)) (n : Nat) (hn : pc + 1 = n) (hr : Steps p.tables e below (T.setTop (mkF m n L (.int (x ||| y) :: S))) t) : Steps p.tables e below (T.setTop (mkF m pc L (.int y :: .int x :: S))) t := by
  subst hn; exact XS.ior X.here hx rfl (hb hby hd) rfl hr
theorem o_lor (X : Stand p l e R s m args below meth c T locs cells slots) (hx : p.tables.exec = Jvm.exec) (hby : c.code = A) {x y : Int64} (hd : decode A pc = .ok (.lor, 1)) (n : Nat) (hn : pc + 1 = n) (hr : Steps p.tables e below (T.setTop (mkF m n L (.long (x ||| y) :: S))) t) : Steps p.tables e below (T.setTop (mkF m pc L (.long y :: .long x :: S))) t := by
  subst hn; exact XS.lor X.here hx rfl (hb hby hd) rfl hr
theorem o_ixor (X : Stand p l e R s m args below meth c T locs cells slots) (hx : p.tables.exec = Jvm.exec) (hby : c.code = A) {x y : Int32} (hd : decode A pc = .ok (.ixor, 1)) (n : Nat) (hn : pc + 1 = n) (hr : Steps p.tables e below (T.setTop (mkF m n L (.int (x ^^^ y) :: S))) t) : Steps p.tables e below (T.setTop (mkF m pc L (.int y :: .int x :: S))) t := by
  subst hn; exact XS.ixor X.here hx rfl (hb hby hd) rfl hr
theorem o_lxor (X : Stand p l e R s m args below meth c T locs cells slots) (hx : p.tables.exec = Jvm.exec) (hby : c.code = A) {x y : Int64} (hd : decode A pc = .ok (.lxor, 1)) (n : Nat) (hn : pc + 1 = n) (hr : Steps p.tables e below (T.setTop (mkF m n L (.long (x ^^^ y) :: S))) t) : Steps p.tables e below (T.setTop (mkF m pc L (.long y :: .long x :: S))) t := by
  subst hn; exact XS.lxor X.here hx rfl (hb hby hd) rfl hr
theorem o_idiv (X : Stand p l e R s m args below meth c T locs cells slots) (hx : p.tables.exec = Jvm.exec) (hby : c.code = A) {x y : Int32} (hd : decode A pc = .ok (.idiv, 1)) (n : Nat) (hn : pc + 1 = n) (hy : ¬ (y = 0)) (hr : Steps p.tables e below (T.setTop (mkF m n L (.int (x / y) :: S))) t) : Steps p.tables e below (T.setTop (mkF m pc L (.int y :: .int x :: S))) t := by
  subst hn; exact XS.idiv X.here hx rfl (hb hby hd) rfl hy hr
theorem o_ldiv (X : Stand p l e R s m args below meth c T locs cells slots) (hx : p.tables.exec = Jvm.exec) (hby : c.code = A) {x y : Int64} (hd : decode A pc = .ok (.ldiv, 1)) (n : Nat) (hn : pc + 1 = n) (hy : ¬ (y = 0)) (hr : Steps p.tables e below (T.setTop (mkF m n L (.long (x / y) :: S))) t) : Steps p.tables e below (T.setTop (mkF m pc L (.long y :: .long x :: S))) t := by
  subst hn; exact XS.ldiv X.here hx rfl (hb hby hd) rfl hy hr
theorem o_irem (X : Stand p l e R s m args below meth c T locs cells slots) (hx : p.tables.exec = Jvm.exec) (hby : c.code = A) {x y : Int32} (hd : decode A pc = .ok (.irem, 1)) (n : Nat) (hn : pc + 1 = n) (hy : ¬ (y = 0)) (hr : Steps p.tables e below (T.setTop (mkF m n L (.int (x % y) :: S))) t) : Steps p.tables e below (T.setTop (mkF m pc L (.int y :: .int x :: S))) t := by
  subst hn; exact XS.irem X.here hx rfl (hb hby hd) rfl hy (by rw [irem_eq_mod]; exact hr)
theorem o_lrem (X : Stand p l e R s m args below meth c T locs cells slots) (hx : p.tables.exec = Jvm.exec) (hby : c.code = A) {x y : Int64} (hd : decode A pc = .ok (.lrem, 1)) (n : Nat) (hn : pc + 1 = n) (hy : ¬ (y = 0)) (hr : Steps p.tables e below (T.setTop (mkF m n L (.long (x % y) :: S))) t) : Steps p.tables e below (T.setTop (mkF m pc L (.long y :: .long x :: S))) t := by
  subst hn; exact XS.lrem X.here hx rfl (hb hby hd) rfl hy (by rw [lrem_mod]; exact hr)
theorem o_ineg (X : Stand p l e R s m args below meth c T locs cells slots) (hx : p.tables.exec = Jvm.exec) (hby : c.code = A) {x : Int32} (hd : decode A pc = .ok (.ineg, 1)) (n : Nat) (hn : pc + 1 = n) (hr : Steps p.tables e below (T.setTop (mkF m n L (.int (-x) :: S))) t) : Steps p.tables e below (T.setTop (mkF m pc L (.int x :: S))) t := by
  subst hn; exact XS.ineg X.here hx rfl (hb hby hd) rfl hr
theorem o_lneg (X : Stand p l e R s m args below meth c T locs cells slots) (hx : p.tables.exec = Jvm.exec) (hby : c.code = A) {x : Int64} (hd : decode A pc = .ok (.lneg, 1)) (n : Nat) (hn : pc + 1 = n) (hr : Steps p.tables e below (T.setTop (mkF m n L (.long (-x) :: S))) t) : Steps p.tables e below (T.setTop (mkF m pc L (.long x :: S))) t := by
  subst hn; exact XS.lneg X.here hx rfl (hb hby hd) rfl hr
theorem o_i2l (X : Stand p l e R s m args below meth c T locs cells slots) (hx : p.tables.exec = Jvm.exec) (hby : c.code = A) {x : Int32} (hd : decode A pc = .ok (.i2l, 1)) (n : Nat) (hn : pc + 1 = n) (hr : Steps p.tables e below (T.setTop (mkF m n L (.long (x.toInt64) :: S))) t) : Steps p.tables e below (T.setTop (mkF m pc L (.int x :: S))) t := by
  subst hn; exact XS.i2l X.here hx rfl (hb hby hd) rfl hr
theorem o_l2i (X : Stand p l e R s m args below meth c T locs cells slots) (hx : p.tables.exec = Jvm.exec) (hby : c.code = A) {x : Int64} (hd : decode A pc = .ok (.l2i, 1)) (n : Nat) (hn : pc + 1 = n) (hr : Steps p.tables e below (T.setTop (mkF m n L (.int (x.toInt32) :: S))) t) : Steps p.tables e below (T.setTop (mkF m pc L (.long x :: S))) t := by
  subst hn; exact XS.l2i X.here hx rfl (hb hby hd) rfl hr
theorem o_i2b (X : Stand p l e R s m args below meth c T locs cells slots) (hx : p.tables.exec = Jvm.exec) (hby : c.code = A) {x : Int32} (hd : decode A pc = .ok (.i2b, 1)) (n : Nat) (hn : pc + 1 = n) (hr : Steps p.tables e below (T.setTop (mkF m n L (.int (x.toInt8.toInt32) :: S))) t) : Steps p.tables e below (T.setTop (mkF m pc L (.int x :: S))) t := by
  subst hn; exact XS.i2b X.here hx rfl (hb hby hd) rfl hr
theorem o_i2s (X : Stand p l e R s m args below meth c T locs cells slots) (hx : p.tables.exec = Jvm.exec) (hby : c.code = A) {x : Int32} (hd : decode A pc = .ok (.i2s, 1)) (n : Nat) (hn : pc + 1 = n) (hr : Steps p.tables e below (T.setTop (mkF m n L (.int (x.toInt16.toInt32) :: S))) t) : Steps p.tables e below (T.setTop (mkF m pc L (.int x :: S))) t := by
  subst hn; exact XS.i2s X.here hx rfl (hb hby hd) rfl hr
theorem o_i2c (X : Stand p l e R s m args below meth c T locs cells slots) (hx : p.tables.exec = Jvm.exec) (hby : c.code = A) {x : Int32} (hd : decode A pc = .ok (.i2c, 1)) (n : Nat) (hn : pc + 1 = n) (hr : Steps p.tables e below (T.setTop (mkF m n L (.int (x.toUInt32.toUInt16.toUInt32.toInt32) :: S))) t) : Steps p.tables e below (T.setTop (mkF m pc L (.int x :: S))) t := by
  subst hn; exact XS.i2c X.here hx rfl (hb hby hd) rfl hr
theorem o_ishl (X : Stand p l e R s m args below meth c T locs cells slots) (hx : p.tables.exec = Jvm.exec) (hby : c.code = A) {x y : Int32} (hd : decode A pc = .ok (.ishl, 1)) (n : Nat) (hn : pc + 1 = n) (hr : Steps p.tables e below (T.setTop (mkF m n L (.int (x <<< (y &&& 31)) :: S))) t) : Steps p.tables e below (T.setTop (mkF m pc L (.int y :: .int x :: S))) t := by
  subst hn; exact XS.ishl X.here hx rfl (hb hby hd) rfl hr
theorem o_ishr (X : Stand p l e R s m args below meth c T locs cells slots) (hx : p.tables.exec = Jvm.exec) (hby : c.code = A) {x y : Int32} (hd : decode A pc = .ok (.ishr, 1)) (n : Nat) (hn : pc + 1 = n) (hr : Steps p.tables e below (T.setTop (mkF m n L (.int (x >>> (y &&& 31)) :: S))) t) : Steps p.tables e below (T.setTop (mkF m pc L (.int y :: .int x :: S))) t := by
  subst hn; exact XS.ishr X.here hx rfl (hb hby hd) rfl hr
theorem o_iushr (X : Stand p l e R s m args below meth c T locs cells slots) (hx : p.tables.exec = Jvm.exec) (hby : c.code = A) {x y : Int32} (hd : decode A pc = .ok (.iushr, 1)) (n : Nat) (hn : pc + 1 = n) (hr : Steps p.tables e below (T.setTop (mkF m n L (.int ((x.toUInt32 >>> (y &&& 31).toUInt32).toInt32) :: S))) t) : Steps p.tables e below (T.setTop (mkF m pc L (.int y :: .int x :: S))) t := by
  subst hn; exact XS.iushr X.here hx rfl (hb hby hd) rfl hr
theorem o_lshl (X : Stand p l e R s m args below meth c T locs cells slots) (hx : p.tables.exec = Jvm.exec) (hby : c.code = A) {x : Int64} {y : Int32} (hd : decode A pc = .ok (.lshl, 1)) (n : Nat) (hn : pc + 1 = n) (hr : Steps p.tables e below (T.setTop (mkF m n L (.long (x <<< (y &&& 0x3f).toInt64) :: S))) t) : Steps p.tables e below (T.setTop (mkF m pc L (.int y :: .long x :: S))) t := by
  subst hn; exact XS.lshl X.here hx rfl (hb hby hd) rfl hr
theorem o_lshr (X : Stand p l e R s m args below meth c T locs cells slots) (hx : p.tables.exec = Jvm.exec) (hby : c.code = A) {x : Int64} {y : Int32} (hd : decode A pc = .ok (.lshr, 1)) (n : Nat) (hn : pc + 1 = n) (hr : Steps p.tables e below (T.setTop (mkF m n L (.long (x >>> (y &&& 0x3f).toInt64) :: S))) t) : Steps p.tables e below (T.setTop (mkF m pc L (.int y :: .long x :: S))) t := by
  subst hn; exact XS.lshr X.here hx rfl (hb hby hd) rfl hr
theorem o_lushr (X : Stand p l e R s m args below meth c T locs cells slots) (hx : p.tables.exec = Jvm.exec) (hby : c.code = A) {x : Int64} {y : Int32} (hd : decode A pc = .ok (.lushr, 1)) (n : Nat) (hn : pc + 1 = n) (hr : Steps p.tables e below (T.setTop (mkF m n L (.long ((x.toUInt64 >>> (y &&& 0x3f).toInt64.toUInt64).toInt64) :: S))) t) : Steps p.tables e below (T.setTop (mkF m pc L (.int y :: .long x :: S))) t := by
  subst hn; exact XS.lushr X.here hx rfl (hb hby hd) rfl hr
theorem o_lcmp (X : Stand p l e R s m args below meth c T locs cells slots) (hx : p.tables.exec = Jvm.exec) (hby : c.code = A) {x y : Int64} (hd : decode A pc = .ok (.lcmp, 1)) (n : Nat) (hn : pc + 1 = n) (hr : Steps p.tables e below (T.setTop (mkF m n L (.int (lcmpW x y) :: S))) t) : Steps p.tables e below (T.setTop (mkF m pc L (.long y :: .long x :: S))) t := by
  subst hn; exact XS.lcmp X.here hx rfl (hb hby hd) rfl hr
theorem o_dup (X : Stand p l e R s m args below meth c T locs cells slots) (hx : p.tables.exec = Jvm.exec) (hby : c.code = A) {x : Value} (hd : decode A pc = .ok (.dup, 1)) (n : Nat) (hn : pc + 1 = n) (hc : x.category = 1) (hr : Steps p.tables e below (T.setTop (mkF m n L (x :: x :: S))) t) : Steps p.tables e below (T.setTop (mkF m pc L (x :: S))) t := by
  subst hn; exact XS.dup X.here hx rfl (hb hby hd) rfl hc hr
theorem o_dupX1 (X : Stand p l e R s m args below meth c T locs cells slots) (hx : p.tables.exec = Jvm.exec) (hby : c.code = A) {x y : Value} (hd : decode A pc = .ok (.dup_x1, 1)) (n : Nat) (hn : pc + 1 = n) (hc : x.category = 1) (hc' : y.category = 1) (hr : Steps p.tables e below (T.setTop (mkF m n L (x :: y :: x :: S))) t) : Steps p.tables e below (T.setTop (mkF m pc L (x :: y :: S))) t := by
  subst hn; exact XT.dupX1 X.here hx rfl (hb hby hd) rfl hc hc' hr
theorem o_dup2 (X : Stand p l e R s m args below meth c T locs cells slots) (hx : p.tables.exec = Jvm.exec) (hby : c.code = A) {x y : Value} (hd : decode A pc = .ok (.dup2, 1)) (n : Nat) (hn : pc + 1 = n) (hc : x.category = 1) (hc' : y.category = 1) (hr : Steps p.tables e below (T.setTop (mkF m n L (x :: y :: x :: y :: S))) t) : Steps p.tables e below (T.setTop (mkF m pc L (x :: y :: S))) t := by
  subst hn; exact XT.dup2 X.here hx rfl (hb hby hd) rfl hc hc' hr
theorem o_iinc (X : Stand p l e R s m args below meth c T locs cells slots) (hx : p.tables.exec = Jvm.exec) (hby : c.code = A) {k : Nat} {cst : Int} {x : Int32} {l' : Array Slot} (hd : decode A pc = .ok (.iinc k cst, 3)) (n : Nat) (hn : pc + 3 = n) (hl : L[k]? = some (.val (.int x))) {i : Int32} (hi : Int32.ofInt cst = i) (hl' : storeLocals L k (.int (x + i)) = some l') (hr : Steps p.tables e below (T.setTop (mkF m n l' S)) t) : Steps p.tables e below (T.setTop (mkF m pc L S)) t := by
  subst hn; subst hi; exact XS.iinc X.here hx rfl (hb hby hd) hl hl' hr
theorem o_pop (X : Stand p l e R s m args below meth c T locs cells slots) (hx : p.tables.exec = Jvm.exec) (hby : c.code = A) {x : Value} (hd : decode A pc = .ok (.pop, 1)) (n : Nat) (hn : pc + 1 = n) (hc : x.category = 1) (hr : Steps p.tables e below (T.setTop (mkF m n L S)) t) : Steps p.tables e below (T.setTop (mkF m pc L (x :: S))) t := by
  subst hn; exact XT.pop X.here hx rfl (hb hby hd) rfl hc hr
theorem o_goto (X : Stand p l e R s m args below meth c T locs cells slots) (hx : p.tables.exec = Jvm.exec) (hby : c.code = A) {o : Int} (hd : decode A pc = .ok (.goto o, 3)) (n : Nat) (hn : (pc : Int) + o = (n : Int)) (hr : Steps p.tables e below (T.setTop (mkF m n L S)) t) : Steps p.tables e below (T.setTop (mkF m pc L S)) t :=
  XS.goto X.here hx rfl (pc0 := pc) (pc' := n) rfl (hb hby hd) (by omega) (by omega) hr
theorem o_ifY (X : Stand p l e R s m args below meth c T locs cells slots) (hx : p.tables.exec = Jvm.exec) (hby : c.code = A) {cd : ClassFile.Cond} {x : Int32} {o : Int} (hd : decode A pc = .ok (.ifCond cd o, 3)) (n : Nat) (hn : (pc : Int) + o = (n : Int)) (hc : if_icmp.holds cd x 0 = true) (hr : Steps p.tables e below (T.setTop (mkF m n L S)) t) : Steps p.tables e below (T.setTop (mkF m pc L (.int x :: S))) t :=
  XS.ifYes X.here hx rfl (pc0 := pc) (pc' := n) rfl (hb hby hd) rfl ((if0 _ _).trans hc) (by omega) (by omega) hr
theorem o_ifN (X : Stand p l e R s m args below meth c T locs cells slots) (hx : p.tables.exec = Jvm.exec) (hby : c.code = A) {cd : ClassFile.Cond} {x : Int32} {o : Int} (hd : decode A pc = .ok (.ifCond cd o, 3)) (n : Nat) (hn : pc + 3 = n) (hc : if_icmp.holds cd x 0 = false) (hr : Steps p.tables e below (T.setTop (mkF m n L S)) t) : Steps p.tables e below (T.setTop (mkF m pc L (.int x :: S))) t := by
  subst hn; exact XS.ifNo X.here hx rfl (hb hby hd) rfl ((if0 _ _).trans hc) hr
theorem o_icmpY (X : Stand p l e R s m args below meth c T locs cells slots) (hx : p.tables.exec = Jvm.exec) (hby : c.code = A) {cd : ClassFile.Cond} {x y : Int32} {o : Int} (hd : decode A pc = .ok (.if_icmp cd o, 3)) (n : Nat) (hn : (pc : Int) + o = (n : Int)) (hc : if_icmp.holds cd x y = true) (hr : Steps p.tables e below (T.setTop (mkF m n L S)) t) : Steps p.tables e below (T.setTop (mkF m pc L (.int y :: .int x :: S))) t :=
  XS.icmpYes X.here hx rfl (pc0 := pc) (pc' := n) rfl (hb hby hd) rfl hc (by omega) (by omega) hr
theorem o_icmpN (X : Stand p l e R s m args below meth c T locs cells slots) (hx : p.tables.exec = Jvm.exec) (hby : c.code = A) {cd : ClassFile.Cond} {x y : Int32} {o : Int} (hd : decode A pc = .ok (.if_icmp cd o, 3)) (n : Nat) (hn : pc + 3 = n) (hc : if_icmp.holds cd x y = false) (hr : Steps p.tables e below (T.setTop (mkF m n L S)) t) : Steps p.tables e below (T.setTop (mkF m pc L (.int y :: .int x :: S))) t := by
  subst hn; exact XS.icmpNo X.here hx rfl (hb hby hd) rfl hc hr
theorem o_ifnullY (X : Stand p l e R s m args below meth c T locs cells slots) (hx : p.tables.exec = Jvm.exec) (hby : c.code = A) {o : Int} (hd : decode A pc = .ok (.ifnull o, 3)) (n : Nat) (hn : (pc : Int) + o = (n : Int)) (hr : Steps p.tables e below (T.setTop (mkF m n L S)) t) : Steps p.tables e below (T.setTop (mkF m pc L (.null :: S))) t :=
  XS.ifnullYes X.here hx rfl (pc0 := pc) (pc' := n) rfl (hb hby hd) rfl (by omega) (by omega) hr
theorem o_ifnullN (X : Stand p l e R s m args below meth c T locs cells slots) (hx : p.tables.exec = Jvm.exec) (hby : c.code = A) {a : Addr} {o : Int} (hd : decode A pc = .ok (.ifnull o, 3)) (n : Nat) (hn : pc + 3 = n) (hr : Steps p.tables e below (T.setTop (mkF m n L S)) t) : Steps p.tables e below (T.setTop (mkF m pc L (.ref a :: S))) t := by
  subst hn; exact XS.ifnullNo X.here hx rfl (hb hby hd) rfl hr
theorem o_ifnonnullY (X : Stand p l e R s m args below meth c T locs cells slots) (hx : p.tables.exec = Jvm.exec) (hby : c.code = A) {a : Addr} {o : Int} (hd : decode A pc = .ok (.ifnonnull o, 3)) (n : Nat) (hn : (pc : Int) + o = (n : Int)) (hr : Steps p.tables e below (T.setTop (mkF m n L S)) t) : Steps p.tables e below (T.setTop (mkF m pc L (.ref a :: S))) t :=
  XS.ifnonnullYes X.here hx rfl (pc0 := pc) (pc' := n) rfl (hb hby hd) rfl (by omega) (by omega) hr
theorem o_ifnonnullN (X : Stand p l e R s m args below meth c T locs cells slots) (hx : p.tables.exec = Jvm.exec) (hby : c.code = A) {o : Int} (hd : decode A pc = .ok (.ifnonnull o, 3)) (n : Nat) (hn : pc + 3 = n) (hr : Steps p.tables e below (T.setTop (mkF m n L S)) t) : Steps p.tables e below (T.setTop (mkF m pc L (.null :: S))) t := by
  subst hn; exact XS.ifnonnullNo X.here hx rfl (hb hby hd) rfl hr
theorem o_acmp (X : Stand p l e R s m args below meth c T locs cells slots) (hx : p.tables.exec = Jvm.exec) (hby : c.code = A) {cd : ClassFile.ACond} {x y : Value} {o : Int} (hd : decode A pc = .ok (.if_acmp cd o, 3)) (n : Nat) {same : Bool} (h1 : x.isRef = true) (h2 : y.isRef = true) (hq : decide (x = y) = same) (ho : 0 ≤ (pc : Int) + o) (hp : n = if acV cd same = true then ((pc : Int) + o).toNat else pc + 3) (hr : Steps p.tables e below (T.setTop (mkF m n L S)) t) : Steps p.tables e below (T.setTop (mkF m pc L (y :: x :: S))) t :=
  Jvm.RoadKit.acmp X hx rfl h1 h2 (pc0 := pc) (pc' := n) rfl (hb hby hd) rfl hq ho hp hr
theorem o_ldcInt (X : Stand p l e R s m args below meth c T locs cells slots) (hx : p.tables.exec = Jvm.exec) (hby : c.code = A) {own : String} {i : Nat} {v : Int32} (hown : s.vm.findClass own = some m.cls) (hc : (Cond.constant own i v).before args s = true) (hd : decode A pc = .ok (.ldc i, 2)) (n : Nat) (hn : pc + 2 = n) (hr : Steps p.tables e below (T.setTop (mkF m n L (.int v :: S))) t) : Steps p.tables e below (T.setTop (mkF m pc L S)) t := by
  subst hn; exact X.ldcInt hx hown hc (g := mkF m pc L S) rfl (hb hby hd) t hr
theorem o_ldcwInt (X : Stand p l e R s m args below meth c T locs cells slots) (hx : p.tables.exec = Jvm.exec) (hby : c.code = A) {own : String} {i : Nat} {v : Int32} (hown : s.vm.findClass own = some m.cls) (hc : (Cond.constant own i v).before args s = true) (hd : decode A pc = .ok (.ldc_w i, 3)) (n : Nat) (hn : pc + 3 = n) (hr : Steps p.tables e below (T.setTop (mkF m n L (.int v :: S))) t) : Steps p.tables e below (T.setTop (mkF m pc L S)) t := by
  subst hn; exact X.ldcwInt hx hown hc (g := mkF m pc L S) rfl (hb hby hd) t hr
theorem o_ldc2Long (X : Stand p l e R s m args below meth c T locs cells slots) (hx : p.tables.exec = Jvm.exec) (hby : c.code = A) {own : String} {i : Nat} {v : Int64} (hown : s.vm.findClass own = some m.cls) (hc : (Cond.constantLong own i v).before args s = true) (hd : decode A pc = .ok (.ldc2_w i, 3)) (n : Nat) (hn : pc + 3 = n) (hr : Steps p.tables e below (T.setTop (mkF m n L (.long v :: S))) t) : Steps p.tables e below (T.setTop (mkF m pc L S)) t := by
  subst hn; exact X.ldc2Long hx hown hc (g := mkF m pc L S) rfl (hb hby hd) t hr
theorem o_b0 : narrow .boolean (.int (0 : Int32)) = .int (0 : Int32) := by decide
theorem o_b1 : narrow .boolean (.int (1 : Int32)) = .int (1 : Int32) := by decide
theorem o_b01 {z : Int32} (h : z = 0 ∨ z = 1) : narrow .boolean (.int z) = .int z := by rcases h with rfl | rfl <;> decide
theorem o_nf {z : Int32} (h : z = 0 ∨ z = 1) : narrow .boolean (.int z) = .int z ∧ fits .boolean (.int z) = true := by rcases h with rfl | rfl <;> decide
theorem o_retZ (X : Stand p l e R s m args below meth c T locs cells slots) (hx : p.tables.exec = Jvm.exec) {Ls : Array Slot} {z : Int32} {rest : List Value} (hret : meth.sig.returnType = some .boolean)
    (hd : decode c.code pc = .ok (.ireturn, 1)) (hz : z = 0 ∨ z = 1) {fs : List Frame} (hl : ∀ (f : JFrame) (acts : List Action), f.method = m → f.locked = none → f.entered = [] → (doReturn e (T.setTop f) acts (some (.int z))).1 = T.setFrames fs) :
    Steps p.tables e below (T.setTop (mkF m pc Ls (.int z :: rest))) (T.setFrames fs) :=
  retOut X hx hret (o_b01 hz) (Or.inl ⟨rfl, Or.inr (Or.inl rfl), z, rfl⟩) hd hl
theorem o_retI (X : Stand p l e R s m args below meth c T locs cells slots) (hx : p.tables.exec = Jvm.exec) {Ls : Array Slot} {z : Int32} {rest : List Value} (hret : meth.sig.returnType = some .int)
    (hd : decode c.code pc = .ok (.ireturn, 1)) {fs : List Frame} (hl : ∀ (f : JFrame) (acts : List Action), f.method = m → f.locked = none → f.entered = [] → (doReturn e (T.setTop f) acts (some (.int z))).1 = T.setFrames fs) :
    Steps p.tables e below (T.setTop (mkF m pc Ls (.int z :: rest))) (T.setFrames fs) :=
  retOut X hx hret rfl (Or.inl ⟨rfl, Or.inl rfl, z, rfl⟩) hd hl
theorem o_retB (X : Stand p l e R s m args below meth c T locs cells slots) (hx : p.tables.exec = Jvm.exec) {Ls : Array Slot} {z : Int32} {rest : List Value} (hret : meth.sig.returnType = some .byte)
    (hd : decode c.code pc = .ok (.ireturn, 1)) (hz : narrow .byte (.int z) = .int z) {fs : List Frame} (hl : ∀ (f : JFrame) (acts : List Action), f.method = m → f.locked = none → f.entered = [] → (doReturn e (T.setTop f) acts (some (.int z))).1 = T.setFrames fs) :
    Steps p.tables e below (T.setTop (mkF m pc Ls (.int z :: rest))) (T.setFrames fs) :=
  retOut X hx hret hz (Or.inl ⟨rfl, Or.inr (Or.inr (Or.inl rfl)), z, rfl⟩) hd hl
theorem o_retJ (X : Stand p l e R s m args below meth c T locs cells slots) (hx : p.tables.exec = Jvm.exec) {Ls : Array Slot} {z : Int64} {rest : List Value} (hret : meth.sig.returnType = some .long)
    (hd : decode c.code pc = .ok (.lreturn, 1)) {fs : List Frame} (hl : ∀ (f : JFrame) (acts : List Action), f.method = m → f.locked = none → f.entered = [] → (doReturn e (T.setTop f) acts (some (.long z))).1 = T.setFrames fs) :
    Steps p.tables e below (T.setTop (mkF m pc Ls (.long z :: rest))) (T.setFrames fs) :=
  retOut X hx hret rfl (Or.inr (Or.inl ⟨rfl, rfl, z, rfl⟩)) hd hl
theorem o_retR (X : Stand p l e R s m args below meth c T locs cells slots) (hx : p.tables.exec = Jvm.exec) {Ls : Array Slot} {w : Value} {ty : FieldType} {rest : List Value} (hret : meth.sig.returnType = some ty) (ht : ty.isReference = true)
    (hd : decode c.code pc = .ok (.areturn, 1)) (hw : w.isRef = true) (hn : narrow ty w = w) {fs : List Frame} (hl : ∀ (f : JFrame) (acts : List Action), f.method = m → f.locked = none → f.entered = [] → (doReturn e (T.setTop f) acts (some w)).1 = T.setFrames fs) :
    Steps p.tables e below (T.setTop (mkF m pc Ls (w :: rest))) (T.setFrames fs) :=
  retOut X hx hret hn (Or.inr (Or.inr (Or.inr (Or.inr ⟨rfl, ht, hw⟩)))) hd hl
end Own

theorem d1_0 : decode jdk_29_method_70_code 0 = .ok (.lload_n 0, 1) := by decide +kernel
theorem d1_1 : decode jdk_29_method_70_code 1 = .ok (.lload_n 2, 1) := by decide +kernel
theorem d1_2 : decode jdk_29_method_70_code 2 = .ok (.lcmp, 1) := by decide +kernel
theorem d1_3 : decode jdk_29_method_70_code 3 = .ok (.ifCond .gt 7, 3) := by decide +kernel
theorem d1_6 : decode jdk_29_method_70_code 6 = .ok (.lload_n 0, 1) := by decide +kernel
theorem d1_7 : decode jdk_29_method_70_code 7 = .ok (.goto 4, 3) := by decide +kernel
theorem d1_10 : decode jdk_29_method_70_code 10 = .ok (.lload_n 2, 1) := by decide +kernel
theorem d1_11 : decode jdk_29_method_70_code 11 = .ok (.lreturn, 1) := by decide +kernel
theorem ef_1 (m : MethodId) (x0 : Int64) (x1 : Int64) : entryFrame m #[(.long x0), (.long x1)] 4 = mkF m 0 #[.val (.long x0), .second, .val (.long x1), .second] [] := by first | (simp [entryFrame, mkF, argsToLocals, Value.category]; done) | rfl
def Fmin (q0 : Int64) (q1 : Int64) : Int64 := let v1 : Int64 := (if q1 < q0 then q1 else q0); v1
def Q1 (Z : State) (q0 : Int64) (q1 : Int64) (h0 : Heap) (n0 : Nat) (v : Option Value) (h : Heap) (L : List Loc) : Prop := v = some (.long (Fmin q0 q1)) ∧ Fr n0 L ∧ h = h0
set_option maxRecDepth 65536 in
set_option maxHeartbeats 40000000 in
theorem rm1 (l : Launch) (Z : State) (aw : Array Value) (hw : ∀ d ∈ tables_1, d.before aw Z = true) (ws : List Jvm.Cond) (q0 : Int64) (q1 : Int64) (h0 : Heap) (n0 : Nat) (Z0 : n0 ≤ h0.size) :
    MetFree l (⟨"java/lang/Math", "min", "(JJ)J"⟩ : MethodName) (head1 (Jvm.Cond.code (⟨"java/lang/Math", "min", "(JJ)J"⟩ : MethodName) jdk_29_method_70_code 4 (some .long) :: ws) ({ frames := 0, cells := 0, slots := 0, locals := 0 } : Room)) (fun a U => a = #[(.long q0), (.long q1)] ∧ Z.Warmed39 U.vm ∧ U.heap = h0) (fun _ _ _ _ _ => True) (fun _ U o U' => ∃ v L, o = .returned v ∧ Q1 Z q0 q1 h0 n0 v U'.heap L ∧ FrameEnd U o U' L ({ frames := 0, cells := 0, slots := 0, locals := 0 } : Room).cells ({ frames := 0, cells := 0, slots := 0, locals := 0 } : Room).slots) := by
  refine MetFree.of_bodySF (Jvm.Free.JP.mathPlain rfl (by decide +kernel)) hisR ?_
  intro p e s m args below meth c s₁ Bd hml0 hP hK
  obtain ⟨rfl, hZ, hh⟩ := hP
  have hx := Bd.exec
  have hby := Bd.bytes
  have hml : c.maxLocals = 4 := hml0
  have hown : s.vm.findClass "java/lang/Math" = some m.cls := findClass_of_methodNamed Bd.named
  have hnm := (name_of_methodNamed Bd.named Bd.method).1
  have X0 : Stand p l e ({ frames := 0, cells := 0, slots := 0, locals := 0 } : Room) s m #[(.long q0), (.long q1)] below meth c s₁ [] 0 0 := Stand.of_body Bd
  have e0 : s₁.heap = h0 := by rw [← hh, Bd.state]; rfl
  have N0 := Fr.nil n0
  obtain ⟨A0, hA0⟩ : ∃ A0, A0 = s₁.setTop (entryFrame m #[(.long q0), (.long q1)] 4) := ⟨_, rfl⟩
  have go0 : Go p e below A0 (s₁.setTop (mkF m 0 #[.val (.long q0), .second, .val (.long q1), .second] [])) := fun t k => by rw [hA0]; exact castTop (ef_1 m q0 q1) k
  have go1 : Go p e below A0 (s₁.setTop (mkF m 3 #[.val (.long q0), .second, .val (.long q1), .second] [(.int (lcmpW q0 q1))])) := by
    intro t k
    refine go0 t ?_
    refine o_lloadN X0 hx hby d1_0 1 rfl rfl ?_
    refine o_lloadN X0 hx hby d1_1 2 rfl rfl ?_
    refine o_lcmp X0 hx hby d1_2 3 rfl ?_
    exact k
  obtain ⟨v1, hv1, go4⟩ : ∃ (v1 : Int64), v1 = (if q1 < q0 then q1 else q0) ∧ Go p e below A0 (s₁.setTop (mkF m 11 #[.val (.long q0), .second, .val (.long q1), .second] [(.long v1)])) := by
    by_cases hc3_1 : q1 < q0
    · have go2 : Go p e below A0 (s₁.setTop (mkF m 11 #[.val (.long q0), .second, .val (.long q1), .second] [(.long q1)])) := by
        intro t k
        refine go1 t ?_
        refine o_ifY X0 hx hby d1_3 10 rfl (tlt ((lw_gt q0 q1).mpr hc3_1)).2.2.1 ?_
        refine o_lloadN X0 hx hby d1_10 11 rfl rfl ?_
        exact k
      exact ⟨q1, (if_pos hc3_1).symm, go2⟩
    · have go3 : Go p e below A0 (s₁.setTop (mkF m 11 #[.val (.long q0), .second, .val (.long q1), .second] [(.long q0)])) := by
        intro t k
        refine go1 t ?_
        refine o_ifN X0 hx hby d1_3 6 rfl (flt (fun q => hc3_1 ((lw_gt q0 q1).mp q))).2.2.1 ?_
        refine o_lloadN X0 hx hby d1_6 7 rfl rfl ?_
        refine o_goto X0 hx hby d1_7 11 rfl ?_
        exact k
      exact ⟨q0, (if_neg hc3_1).symm, go3⟩
  have hF : v1 = Fmin q0 q1 := by subst hv1; rfl
  subst hA0
  obtain ⟨fs, hr, hrun, hended, hW, hsame⟩ := X0.leave (v := some (.long v1)) (fun h => by rw [Bd.returns] at h; cases h)
  refine ⟨_, _, go4 _ (o_retJ X0 hx Bd.returns (hb hby d1_11) hr), hrun, hended, _, _, rfl, ?_, ⟨_, rfl⟩, hW, hsame.mono (by decide) (by decide)⟩
  show Q1 Z q0 q1 h0 n0 _ s₁.heap _
  rw [e0]
  exact ⟨congrArg (fun z => some (Value.long z)) hF, N0, rfl⟩
theorem d2_0 : decode jdk_29_method_66_code 0 = .ok (.lload_n 0, 1) := by decide +kernel
theorem d2_1 : decode jdk_29_method_66_code 1 = .ok (.lload_n 2, 1) := by decide +kernel
theorem d2_2 : decode jdk_29_method_66_code 2 = .ok (.lcmp, 1) := by decide +kernel
theorem d2_3 : decode jdk_29_method_66_code 3 = .ok (.ifCond .lt 7, 3) := by decide +kernel
theorem d2_6 : decode jdk_29_method_66_code 6 = .ok (.lload_n 0, 1) := by decide +kernel
theorem d2_7 : decode jdk_29_method_66_code 7 = .ok (.goto 4, 3) := by decide +kernel
theorem d2_10 : decode jdk_29_method_66_code 10 = .ok (.lload_n 2, 1) := by decide +kernel
theorem d2_11 : decode jdk_29_method_66_code 11 = .ok (.lreturn, 1) := by decide +kernel
theorem ef_2 (m : MethodId) (x0 : Int64) (x1 : Int64) : entryFrame m #[(.long x0), (.long x1)] 4 = mkF m 0 #[.val (.long x0), .second, .val (.long x1), .second] [] := by first | (simp [entryFrame, mkF, argsToLocals, Value.category]; done) | rfl
def Fmax (q0 : Int64) (q1 : Int64) : Int64 := let v1 : Int64 := (if q0 < q1 then q1 else q0); v1
def Q2 (Z : State) (q0 : Int64) (q1 : Int64) (h0 : Heap) (n0 : Nat) (v : Option Value) (h : Heap) (L : List Loc) : Prop := v = some (.long (Fmax q0 q1)) ∧ Fr n0 L ∧ h = h0
set_option maxRecDepth 65536 in
set_option maxHeartbeats 40000000 in
theorem rm2 (l : Launch) (Z : State) (aw : Array Value) (hw : ∀ d ∈ tables_1, d.before aw Z = true) (ws : List Jvm.Cond) (q0 : Int64) (q1 : Int64) (h0 : Heap) (n0 : Nat) (Z0 : n0 ≤ h0.size) :
    MetFree l (⟨"java/lang/Math", "max", "(JJ)J"⟩ : MethodName) (head1 (Jvm.Cond.code (⟨"java/lang/Math", "max", "(JJ)J"⟩ : MethodName) jdk_29_method_66_code 4 (some .long) :: ws) ({ frames := 0, cells := 0, slots := 0, locals := 0 } : Room)) (fun a U => a = #[(.long q0), (.long q1)] ∧ Z.Warmed39 U.vm ∧ U.heap = h0) (fun _ _ _ _ _ => True) (fun _ U o U' => ∃ v L, o = .returned v ∧ Q2 Z q0 q1 h0 n0 v U'.heap L ∧ FrameEnd U o U' L ({ frames := 0, cells := 0, slots := 0, locals := 0 } : Room).cells ({ frames := 0, cells := 0, slots := 0, locals := 0 } : Room).slots) := by
  refine MetFree.of_bodySF (Jvm.Free.JP.mathPlain rfl (by decide +kernel)) hisR ?_
  intro p e s m args below meth c s₁ Bd hml0 hP hK
  obtain ⟨rfl, hZ, hh⟩ := hP
  have hx := Bd.exec
  have hby := Bd.bytes
  have hml : c.maxLocals = 4 := hml0
  have hown : s.vm.findClass "java/lang/Math" = some m.cls := findClass_of_methodNamed Bd.named
  have hnm := (name_of_methodNamed Bd.named Bd.method).1
  have X0 : Stand p l e ({ frames := 0, cells := 0, slots := 0, locals := 0 } : Room) s m #[(.long q0), (.long q1)] below meth c s₁ [] 0 0 := Stand.of_body Bd
  have e0 : s₁.heap = h0 := by rw [← hh, Bd.state]; rfl
  have N0 := Fr.nil n0
  obtain ⟨A0, hA0⟩ : ∃ A0, A0 = s₁.setTop (entryFrame m #[(.long q0), (.long q1)] 4) := ⟨_, rfl⟩
  have go0 : Go p e below A0 (s₁.setTop (mkF m 0 #[.val (.long q0), .second, .val (.long q1), .second] [])) := fun t k => by rw [hA0]; exact castTop (ef_2 m q0 q1) k
  have go1 : Go p e below A0 (s₁.setTop (mkF m 3 #[.val (.long q0), .second, .val (.long q1), .second] [(.int (lcmpW q0 q1))])) := by
    intro t k
    refine go0 t ?_
    refine o_lloadN X0 hx hby d2_0 1 rfl rfl ?_
    refine o_lloadN X0 hx hby d2_1 2 rfl rfl ?_
    refine o_lcmp X0 hx hby d2_2 3 rfl ?_
    exact k
  obtain ⟨v1, hv1, go4⟩ : ∃ (v1 : Int64), v1 = (if q0 < q1 then q1 else q0) ∧ Go p e below A0 (s₁.setTop (mkF m 11 #[.val (.long q0), .second, .val (.long q1), .second] [(.long v1)])) := by
    by_cases hc3_1 : q0 < q1
    · have go2 : Go p e below A0 (s₁.setTop (mkF m 11 #[.val (.long q0), .second, .val (.long q1), .second] [(.long q1)])) := by
        intro t k
        refine go1 t ?_
        refine o_ifY X0 hx hby d2_3 10 rfl (tlt ((lw_lt q0 q1).mpr hc3_1)).1 ?_
        refine o_lloadN X0 hx hby d2_10 11 rfl rfl ?_
        exact k
      exact ⟨q1, (if_pos hc3_1).symm, go2⟩
    · have go3 : Go p e below A0 (s₁.setTop (mkF m 11 #[.val (.long q0), .second, .val (.long q1), .second] [(.long q0)])) := by
        intro t k
        refine go1 t ?_
        refine o_ifN X0 hx hby d2_3 6 rfl (flt (fun q => hc3_1 ((lw_lt q0 q1).mp q))).1 ?_
        refine o_lloadN X0 hx hby d2_6 7 rfl rfl ?_
        refine o_goto X0 hx hby d2_7 11 rfl ?_
        exact k
      exact ⟨q0, (if_neg hc3_1).symm, go3⟩
  have hF : v1 = Fmax q0 q1 := by subst hv1; rfl
  subst hA0
  obtain ⟨fs, hr, hrun, hended, hW, hsame⟩ := X0.leave (v := some (.long v1)) (fun h => by rw [Bd.returns] at h; cases h)
  refine ⟨_, _, go4 _ (o_retJ X0 hx Bd.returns (hb hby d2_11) hr), hrun, hended, _, _, rfl, ?_, ⟨_, rfl⟩, hW, hsame.mono (by decide) (by decide)⟩
  show Q2 Z q0 q1 h0 n0 _ s₁.heap _
  rw [e0]
  exact ⟨congrArg (fun z => some (Value.long z)) hF, N0, rfl⟩
theorem d3_0 : decode prog_70_method_1_code 0 = .ok (.aload_n 0, 1) := by decide +kernel
theorem d3_1 : decode prog_70_method_1_code 1 = .ok (.invokespecial 1, 3) := by decide +kernel
theorem d3_4 : decode prog_70_method_1_code 4 = .ok (.aload_n 0, 1) := by decide +kernel
theorem d3_5 : decode prog_70_method_1_code 5 = .ok (.lload_n 1, 1) := by decide +kernel
theorem d3_6 : decode prog_70_method_1_code 6 = .ok (.putfield 7, 3) := by decide +kernel
theorem d3_9 : decode prog_70_method_1_code 9 = .ok (.aload_n 0, 1) := by decide +kernel
theorem d3_10 : decode prog_70_method_1_code 10 = .ok (.lload_n 3, 1) := by decide +kernel
theorem d3_11 : decode prog_70_method_1_code 11 = .ok (.putfield 13, 3) := by decide +kernel
theorem d3_14 : decode prog_70_method_1_code 14 = .ok (.return_, 1) := by decide +kernel
theorem pn_3 : plainName "com/example/calchas/calchas/model/Range" = true := by first | (simp [plainName, overriddenIn]; done) | decide +kernel
theorem ef_3 (m : MethodId) (x0 : Addr) (x1 : Int64) (x2 : Int64) : entryFrame m #[(.ref x0), (.long x1), (.long x2)] 5 = mkF m 0 #[.val (.ref x0), .val (.long x1), .second, .val (.long x2), .second] [] := by first | (simp [entryFrame, mkF, argsToLocals, Value.category]; done) | rfl
def Q3 (Z : State) (a0 : Addr) (q1 : Int64) (q2 : Int64) (h0 : Heap) (n0 : Nat) (v : Option Value) (h : Heap) (L : List Loc) : Prop := v = none ∧ Fr n0 L ∧ Keep h0 h [a0] ∧ Fld Z h a0 "com/example/calchas/calchas/model/Range" "low" "J" (.long q1) ∧ Fld Z h a0 "com/example/calchas/calchas/model/Range" "high" "J" (.long q2) ∧ True
set_option maxRecDepth 65536 in
set_option maxHeartbeats 40000000 in
theorem rm3 (l : Launch) (Z : State) (aw : Array Value) (hw : ∀ d ∈ tables_1, d.before aw Z = true) (ws : List Jvm.Cond) (a0 : Addr) (q1 : Int64) (q2 : Int64) (h0 : Heap) (n0 : Nat) (Z0 : n0 ≤ h0.size) (r0 : Exa Z h0 a0 "com/example/calchas/calchas/model/Range") (r1 : n0 ≤ a0) (r2 : Fld Z h0 a0 "com/example/calchas/calchas/model/Range" "low" "J" (.long (0 : Int64))) (r3 : Fld Z h0 a0 "com/example/calchas/calchas/model/Range" "high" "J" (.long (0 : Int64))) :
    MetFree l (⟨"com/example/calchas/calchas/model/Range", "<init>", "(JJ)V"⟩ : MethodName) (head1 (Jvm.Cond.code (⟨"com/example/calchas/calchas/model/Range", "<init>", "(JJ)V"⟩ : MethodName) prog_70_method_1_code 5 none :: ws) ({ frames := 1, cells := 0, slots := 0, locals := 12 } : Room)) (fun a U => a = #[(.ref a0), (.long q1), (.long q2)] ∧ Z.Warmed39 U.vm ∧ U.heap = h0) (fun _ _ _ _ _ => True) (fun _ U o U' => ∃ v L, o = .returned v ∧ Q3 Z a0 q1 q2 h0 n0 v U'.heap L ∧ FrameEnd U o U' L ({ frames := 1, cells := 0, slots := 0, locals := 12 } : Room).cells ({ frames := 1, cells := 0, slots := 0, locals := 12 } : Room).slots) := by
  refine MetFree.of_bodySF (plainFor_of_name pn_3) hisR ?_
  intro p e s m args below meth c s₁ Bd hml0 hP hK
  obtain ⟨rfl, hZ, hh⟩ := hP
  have hx := Bd.exec
  have hby := Bd.bytes
  have hml : c.maxLocals = 5 := hml0
  have hown : s.vm.findClass "com/example/calchas/calchas/model/Range" = some m.cls := findClass_of_methodNamed Bd.named
  have hnm := (name_of_methodNamed Bd.named Bd.method).1
  have X0 : Stand p l e ({ frames := 1, cells := 0, slots := 0, locals := 12 } : Room) s m #[(.ref a0), (.long q1), (.long q2)] below meth c s₁ [] 0 0 := Stand.of_body Bd
  have e0 : s₁.heap = h0 := by rw [← hh, Bd.state]; rfl
  have N0 := Fr.nil n0
  obtain ⟨A0, hA0⟩ : ∃ A0, A0 = s₁.setTop (entryFrame m #[(.ref a0), (.long q1), (.long q2)] 5) := ⟨_, rfl⟩
  have go0 : Go p e below A0 (s₁.setTop (mkF m 0 #[.val (.ref a0), .val (.long q1), .second, .val (.long q2), .second] [])) := fun t k => by rw [hA0]; exact castTop (ef_3 m a0 q1 q2) k
  obtain ⟨T1, X1, e1, st1⟩ := initO X0 hx hZ hown (hw _ (List.mem_of_getElem? (i := 13) rfl)) (hw _ (List.mem_of_getElem? (i := 14) rfl)) (hw _ (List.mem_of_getElem? (i := 15) rfl)) e0 (g := (mkF m 1 #[.val (.ref a0), .val (.long q1), .second, .val (.long q2), .second] [(.ref a0)])) rfl (by rw [hml]; rfl) rfl (hb hby d3_1) (by decide) (W := 0) (by show 2 * 0 + _ ≤ _; exact Nat.le_of_eq rfl) (by decide)
  have go1 : Go p e below A0 (T1.setTop (mkF m 6 #[.val (.ref a0), .val (.long q1), .second, .val (.long q2), .second] [(.long q1), (.ref a0)])) := by
    intro t k
    refine go0 t ?_
    refine o_aloadN X0 hx hby d3_0 1 rfl rfl rfl ?_
    refine st1 _ ?_
    refine o_aloadN X1 hx hby d3_4 5 rfl rfl rfl ?_
    refine o_lloadN X1 hx hby d3_5 6 rfl rfl ?_
    exact k
  obtain ⟨T2, h2, X2, e2, W2, st2⟩ := putF X1 hx hZ hown (host := "") (Or.inl (hw _ (List.mem_of_getElem? (i := 16) rfl))) Via.refl e1 r2 r0 (Or.inr ⟨(hw _ (List.mem_of_getElem? (i := 17) rfl)), rfl, hnm⟩) (hw _ (List.mem_of_getElem? (i := 8) rfl)) (ty := .long) (by decide) rfl rfl (g := (mkF m 6 #[.val (.ref a0), .val (.long q1), .second, .val (.long q2), .second] [(.long q1), (.ref a0)])) rfl rfl (hb hby d3_6)
  have f1 : Exa Z h2 a0 "com/example/calchas/calchas/model/Range" := r0.wr W2
  have f2 : Fld Z h2 a0 "com/example/calchas/calchas/model/Range" "high" "J" (.long (0 : Int64)) := r3.other W2 (Or.inr (slot_ne (Or.inr (hw _ (List.mem_of_getElem? (i := 19) rfl))) (Or.inr (hw _ (List.mem_of_getElem? (i := 17) rfl))) (by decide) (t := .long) (t' := .long) (by decide) (by decide)))
  have Zp2 : n0 ≤ h2.size := Nat.le_trans Z0 (Keep.of_wr W2).1
  have K2 : Keep h0 h2 [a0] := (Keep.refl h0 [a0]).wr W2 (Or.inl (List.mem_of_getElem? (i := 0) rfl))
  have N2 := Fr.snoc X2 N0 r1
  have f3 : Fld Z h2 a0 "com/example/calchas/calchas/model/Range" "low" "J" (.long q1) := r2.same W2
  have go2 : Go p e below A0 (T2.setTop (mkF m 11 #[.val (.ref a0), .val (.long q1), .second, .val (.long q2), .second] [(.long q2), (.ref a0)])) := by
    intro t k
    refine go1 t ?_
    refine st2 _ ?_
    show Steps p.tables e below (T2.setTop (mkF m 9 #[.val (.ref a0), .val (.long q1), .second, .val (.long q2), .second] [])) _
    refine o_aloadN X2 hx hby d3_9 10 rfl rfl rfl ?_
    refine o_lloadN X2 hx hby d3_10 11 rfl rfl ?_
    exact k
  obtain ⟨T3, h3, X3, e3, W3, st3⟩ := putF X2 hx hZ hown (host := "") (Or.inl (hw _ (List.mem_of_getElem? (i := 18) rfl))) Via.refl e2 f2 f1 (Or.inr ⟨(hw _ (List.mem_of_getElem? (i := 19) rfl)), rfl, hnm⟩) (hw _ (List.mem_of_getElem? (i := 8) rfl)) (ty := .long) (by decide) rfl rfl (g := (mkF m 11 #[.val (.ref a0), .val (.long q1), .second, .val (.long q2), .second] [(.long q2), (.ref a0)])) rfl rfl (hb hby d3_11)
  have f4 : Exa Z h3 a0 "com/example/calchas/calchas/model/Range" := f1.wr W3
  have f5 : Fld Z h3 a0 "com/example/calchas/calchas/model/Range" "low" "J" (.long q1) := f3.other W3 (Or.inr (slot_ne (Or.inr (hw _ (List.mem_of_getElem? (i := 17) rfl))) (Or.inr (hw _ (List.mem_of_getElem? (i := 19) rfl))) (by decide) (t := .long) (t' := .long) (by decide) (by decide)))
  have Zp3 : n0 ≤ h3.size := Nat.le_trans Zp2 (Keep.of_wr W3).1
  have K3 : Keep h0 h3 [a0] := K2.wr W3 (Or.inl (List.mem_of_getElem? (i := 0) rfl))
  have N3 := Fr.snoc X3 N2 r1
  have f6 : Fld Z h3 a0 "com/example/calchas/calchas/model/Range" "high" "J" (.long q2) := f2.same W3
  have go3 : Go p e below A0 (T3.setTop (mkF m 14 #[.val (.ref a0), .val (.long q1), .second, .val (.long q2), .second] [])) := by
    intro t k
    refine go2 t ?_
    refine st3 _ ?_
    show Steps p.tables e below (T3.setTop (mkF m 14 #[.val (.ref a0), .val (.long q1), .second, .val (.long q2), .second] [])) _
    exact k
  subst hA0
  obtain ⟨fs, hr, hrun, hended, hW, hsame⟩ := X3.leave (v := none) (fun _ => rfl)
  refine ⟨_, _, go3 _ (X3.returnOut hx Bd.returns (hb hby d3_14) hr), hrun, hended, _, _, rfl, ?_, ⟨_, rfl⟩, hW, hsame.mono (by decide) (by decide)⟩
  show Q3 Z a0 q1 q2 h0 n0 _ T3.heap _
  rw [e3]
  exact ⟨rfl, N3, K3, f5, f6, trivial⟩
theorem d5_0 : decode method_2_code 0 = .ok (.lload_n 0, 1) := by decide +kernel
theorem d5_1 : decode method_2_code 1 = .ok (.ldc2_w 9, 3) := by decide +kernel
theorem d5_4 : decode method_2_code 4 = .ok (.lxor, 1) := by decide +kernel
theorem d5_5 : decode method_2_code 5 = .ok (.lload_n 2, 1) := by decide +kernel
theorem d5_6 : decode method_2_code 6 = .ok (.ldc2_w 9, 3) := by decide +kernel
theorem d5_9 : decode method_2_code 9 = .ok (.lxor, 1) := by decide +kernel
theorem d5_10 : decode method_2_code 10 = .ok (.lcmp, 1) := by decide +kernel
theorem d5_11 : decode method_2_code 11 = .ok (.ifCond .gt 7, 3) := by decide +kernel
theorem d5_14 : decode method_2_code 14 = .ok (.iconst 1, 1) := by decide +kernel
theorem d5_15 : decode method_2_code 15 = .ok (.goto 4, 3) := by decide +kernel
theorem d5_18 : decode method_2_code 18 = .ok (.iconst 0, 1) := by decide +kernel
theorem d5_19 : decode method_2_code 19 = .ok (.ireturn, 1) := by decide +kernel
theorem pn_5 : plainName "com/example/calchas/calchas/model/RangeContainsPinLaw" = true := by first | (simp [plainName, overriddenIn]; done) | decide +kernel
theorem ef_5 (m : MethodId) (x0 : Int64) (x1 : Int64) : entryFrame m #[(.long x0), (.long x1)] 4 = mkF m 0 #[.val (.long x0), .second, .val (.long x1), .second] [] := by first | (simp [entryFrame, mkF, argsToLocals, Value.category]; done) | rfl
def Fule (q0 : Int64) (q1 : Int64) : Int32 := let v1 : Int32 := (if (q1 ^^^ (-9223372036854775808 : Int64)) < (q0 ^^^ (-9223372036854775808 : Int64)) then (0 : Int32) else (1 : Int32)); v1
def Q5 (Z : State) (q0 : Int64) (q1 : Int64) (h0 : Heap) (n0 : Nat) (v : Option Value) (h : Heap) (L : List Loc) : Prop := v = some (.int (Fule q0 q1)) ∧ Fr n0 L ∧ h = h0
set_option maxRecDepth 65536 in
set_option maxHeartbeats 40000000 in
theorem rm5 (l : Launch) (Z : State) (aw : Array Value) (hw : ∀ d ∈ tables_1, d.before aw Z = true) (ws : List Jvm.Cond) (q0 : Int64) (q1 : Int64) (h0 : Heap) (n0 : Nat) (Z0 : n0 ≤ h0.size) :
    MetFree l (⟨"com/example/calchas/calchas/model/RangeContainsPinLaw", "unsignedLe", "(JJ)Z"⟩ : MethodName) (head1 (Jvm.Cond.code (⟨"com/example/calchas/calchas/model/RangeContainsPinLaw", "unsignedLe", "(JJ)Z"⟩ : MethodName) method_2_code 4 (some .boolean) :: ws) ({ frames := 0, cells := 0, slots := 0, locals := 0 } : Room)) (fun a U => a = #[(.long q0), (.long q1)] ∧ Z.Warmed39 U.vm ∧ U.heap = h0) (fun _ _ _ _ _ => True) (fun _ U o U' => ∃ v L, o = .returned v ∧ Q5 Z q0 q1 h0 n0 v U'.heap L ∧ FrameEnd U o U' L ({ frames := 0, cells := 0, slots := 0, locals := 0 } : Room).cells ({ frames := 0, cells := 0, slots := 0, locals := 0 } : Room).slots) := by
  refine MetFree.of_bodySF (plainFor_of_name pn_5) hisR ?_
  intro p e s m args below meth c s₁ Bd hml0 hP hK
  obtain ⟨rfl, hZ, hh⟩ := hP
  have hx := Bd.exec
  have hby := Bd.bytes
  have hml : c.maxLocals = 4 := hml0
  have hown : s.vm.findClass "com/example/calchas/calchas/model/RangeContainsPinLaw" = some m.cls := findClass_of_methodNamed Bd.named
  have hnm := (name_of_methodNamed Bd.named Bd.method).1
  have X0 : Stand p l e ({ frames := 0, cells := 0, slots := 0, locals := 0 } : Room) s m #[(.long q0), (.long q1)] below meth c s₁ [] 0 0 := Stand.of_body Bd
  have e0 : s₁.heap = h0 := by rw [← hh, Bd.state]; rfl
  have N0 := Fr.nil n0
  obtain ⟨A0, hA0⟩ : ∃ A0, A0 = s₁.setTop (entryFrame m #[(.long q0), (.long q1)] 4) := ⟨_, rfl⟩
  have go0 : Go p e below A0 (s₁.setTop (mkF m 0 #[.val (.long q0), .second, .val (.long q1), .second] [])) := fun t k => by rw [hA0]; exact castTop (ef_5 m q0 q1) k
  have go1 : Go p e below A0 (s₁.setTop (mkF m 11 #[.val (.long q0), .second, .val (.long q1), .second] [(.int (lcmpW (q0 ^^^ (-9223372036854775808 : Int64)) (q1 ^^^ (-9223372036854775808 : Int64))))])) := by
    intro t k
    refine go0 t ?_
    refine o_lloadN X0 hx hby d5_0 1 rfl rfl ?_
    refine o_ldc2Long X0 hx hby hown (mvT hZ (hw _ (List.mem_of_getElem? (i := 24) rfl))) d5_1 4 rfl ?_
    refine o_lxor X0 hx hby d5_4 5 rfl ?_
    refine o_lloadN X0 hx hby d5_5 6 rfl rfl ?_
    refine o_ldc2Long X0 hx hby hown (mvT hZ (hw _ (List.mem_of_getElem? (i := 24) rfl))) d5_6 9 rfl ?_
    refine o_lxor X0 hx hby d5_9 10 rfl ?_
    refine o_lcmp X0 hx hby d5_10 11 rfl ?_
    exact k
  obtain ⟨v1, hv1, go4⟩ : ∃ (v1 : Int32), v1 = (if (q1 ^^^ (-9223372036854775808 : Int64)) < (q0 ^^^ (-9223372036854775808 : Int64)) then (0 : Int32) else (1 : Int32)) ∧ Go p e below A0 (s₁.setTop (mkF m 19 #[.val (.long q0), .second, .val (.long q1), .second] [(.int v1)])) := by
    by_cases hc11_1 : (q1 ^^^ (-9223372036854775808 : Int64)) < (q0 ^^^ (-9223372036854775808 : Int64))
    · have go2 : Go p e below A0 (s₁.setTop (mkF m 19 #[.val (.long q0), .second, .val (.long q1), .second] [(.int (0 : Int32))])) := by
        intro t k
        refine go1 t ?_
        refine o_ifY X0 hx hby d5_11 18 rfl (tlt ((lw_gt (q0 ^^^ (-9223372036854775808 : Int64)) (q1 ^^^ (-9223372036854775808 : Int64))).mpr hc11_1)).2.2.1 ?_
        refine o_iconst X0 hx hby d5_18 19 rfl (v := (0 : Int32)) rfl ?_
        exact k
      exact ⟨(0 : Int32), (if_pos hc11_1).symm, go2⟩
    · have go3 : Go p e below A0 (s₁.setTop (mkF m 19 #[.val (.long q0), .second, .val (.long q1), .second] [(.int (1 : Int32))])) := by
        intro t k
        refine go1 t ?_
        refine o_ifN X0 hx hby d5_11 14 rfl (flt (fun q => hc11_1 ((lw_gt (q0 ^^^ (-9223372036854775808 : Int64)) (q1 ^^^ (-9223372036854775808 : Int64))).mp q))).2.2.1 ?_
        refine o_iconst X0 hx hby d5_14 15 rfl (v := (1 : Int32)) rfl ?_
        refine o_goto X0 hx hby d5_15 19 rfl ?_
        exact k
      exact ⟨(1 : Int32), (if_neg hc11_1).symm, go3⟩
  have hF : v1 = Fule q0 q1 := by subst hv1; rfl
  subst hA0
  obtain ⟨fs, hr, hrun, hended, hW, hsame⟩ := X0.leave (v := some (.int v1)) (fun h => by rw [Bd.returns] at h; cases h)
  refine ⟨_, _, go4 _ (o_retZ X0 hx Bd.returns (hb hby d5_19) (by rw [hv1]; repeat' (first | exact Or.inl rfl | exact Or.inr rfl | split)) hr), hrun, hended, _, _, rfl, ?_, ⟨_, rfl⟩, hW, hsame.mono (by decide) (by decide)⟩
  show Q5 Z q0 q1 h0 n0 _ s₁.heap _
  rw [e0]
  exact ⟨congrArg (fun z => some (Value.int z)) hF, N0, rfl⟩
theorem d6_0 : decode prog_70_method_4_code 0 = .ok (.lload_n 1, 1) := by decide +kernel
theorem d6_1 : decode prog_70_method_4_code 1 = .ok (.aload_n 0, 1) := by decide +kernel
theorem d6_2 : decode prog_70_method_4_code 2 = .ok (.getfield 7, 3) := by decide +kernel
theorem d6_5 : decode prog_70_method_4_code 5 = .ok (.lcmp, 1) := by decide +kernel
theorem d6_6 : decode prog_70_method_4_code 6 = .ok (.ifCond .lt 16, 3) := by decide +kernel
theorem d6_9 : decode prog_70_method_4_code 9 = .ok (.lload_n 1, 1) := by decide +kernel
theorem d6_10 : decode prog_70_method_4_code 10 = .ok (.aload_n 0, 1) := by decide +kernel
theorem d6_11 : decode prog_70_method_4_code 11 = .ok (.getfield 13, 3) := by decide +kernel
theorem d6_14 : decode prog_70_method_4_code 14 = .ok (.lcmp, 1) := by decide +kernel
theorem d6_15 : decode prog_70_method_4_code 15 = .ok (.ifCond .gt 7, 3) := by decide +kernel
theorem d6_18 : decode prog_70_method_4_code 18 = .ok (.iconst 1, 1) := by decide +kernel
theorem d6_19 : decode prog_70_method_4_code 19 = .ok (.goto 4, 3) := by decide +kernel
theorem d6_22 : decode prog_70_method_4_code 22 = .ok (.iconst 0, 1) := by decide +kernel
theorem d6_23 : decode prog_70_method_4_code 23 = .ok (.ireturn, 1) := by decide +kernel
theorem ef_6 (m : MethodId) (x0 : Addr) (x1 : Int64) : entryFrame m #[(.ref x0), (.long x1)] 3 = mkF m 0 #[.val (.ref x0), .val (.long x1), .second] [] := by first | (simp [entryFrame, mkF, argsToLocals, Value.category]; done) | rfl
def Fctn (q1 : Int64) (u1 : Int64) (u2 : Int64) : Int32 := let v2 : Int32 := (if q1 < u1 then (0 : Int32) else (if u2 < q1 then (0 : Int32) else (1 : Int32))); v2
def Q6 (Z : State) (a0 : Addr) (q1 : Int64) (u1 : Int64) (u2 : Int64) (h0 : Heap) (n0 : Nat) (v : Option Value) (h : Heap) (L : List Loc) : Prop := v = some (.int (Fctn q1 u1 u2)) ∧ Fr n0 L ∧ h = h0
set_option maxRecDepth 65536 in
set_option maxHeartbeats 40000000 in
theorem rm6 (l : Launch) (Z : State) (aw : Array Value) (hw : ∀ d ∈ tables_1, d.before aw Z = true) (ws : List Jvm.Cond) (a0 : Addr) (q1 : Int64) (u1 : Int64) (u2 : Int64) (h0 : Heap) (n0 : Nat) (Z0 : n0 ≤ h0.size) (r0 : Fld Z h0 a0 "com/example/calchas/calchas/model/Range" "low" "J" (.long u1)) (r1 : Fld Z h0 a0 "com/example/calchas/calchas/model/Range" "high" "J" (.long u2)) :
    MetFree l (⟨"com/example/calchas/calchas/model/Range", "contains", "(J)Z"⟩ : MethodName) (head1 (Jvm.Cond.code (⟨"com/example/calchas/calchas/model/Range", "contains", "(J)Z"⟩ : MethodName) prog_70_method_4_code 3 (some .boolean) :: ws) ({ frames := 0, cells := 0, slots := 0, locals := 0 } : Room)) (fun a U => a = #[(.ref a0), (.long q1)] ∧ Z.Warmed39 U.vm ∧ U.heap = h0) (fun _ _ _ _ _ => True) (fun _ U o U' => ∃ v L, o = .returned v ∧ Q6 Z a0 q1 u1 u2 h0 n0 v U'.heap L ∧ FrameEnd U o U' L ({ frames := 0, cells := 0, slots := 0, locals := 0 } : Room).cells ({ frames := 0, cells := 0, slots := 0, locals := 0 } : Room).slots) := by
  refine MetFree.of_bodySF (plainFor_of_name pn_3) hisR ?_
  intro p e s m args below meth c s₁ Bd hml0 hP hK
  obtain ⟨rfl, hZ, hh⟩ := hP
  have hx := Bd.exec
  have hby := Bd.bytes
  have hml : c.maxLocals = 3 := hml0
  have hown : s.vm.findClass "com/example/calchas/calchas/model/Range" = some m.cls := findClass_of_methodNamed Bd.named
  have hnm := (name_of_methodNamed Bd.named Bd.method).1
  have X0 : Stand p l e ({ frames := 0, cells := 0, slots := 0, locals := 0 } : Room) s m #[(.ref a0), (.long q1)] below meth c s₁ [] 0 0 := Stand.of_body Bd
  have e0 : s₁.heap = h0 := by rw [← hh, Bd.state]; rfl
  have N0 := Fr.nil n0
  obtain ⟨A0, hA0⟩ : ∃ A0, A0 = s₁.setTop (entryFrame m #[(.ref a0), (.long q1)] 3) := ⟨_, rfl⟩
  have go0 : Go p e below A0 (s₁.setTop (mkF m 0 #[.val (.ref a0), .val (.long q1), .second] [])) := fun t k => by rw [hA0]; exact castTop (ef_6 m a0 q1) k
  obtain ⟨T1, X1, e1, st1⟩ := getF X0 hx hZ hown (host := "") (Or.inl (hw _ (List.mem_of_getElem? (i := 16) rfl))) Via.refl e0 r0 (g := (mkF m 2 #[.val (.ref a0), .val (.long q1), .second] [(.ref a0), (.long q1)])) rfl rfl (hb hby d6_2)
  have go1 : Go p e below A0 (T1.setTop (mkF m 6 #[.val (.ref a0), .val (.long q1), .second] [(.int (lcmpW q1 u1))])) := by
    intro t k
    refine go0 t ?_
    refine o_lloadN X0 hx hby d6_0 1 rfl rfl ?_
    refine o_aloadN X0 hx hby d6_1 2 rfl rfl rfl ?_
    refine st1 _ ?_
    show Steps p.tables e below (T1.setTop (mkF m 5 #[.val (.ref a0), .val (.long q1), .second] [(.long u1), (.long q1)])) _
    refine o_lcmp X1 hx hby d6_5 6 rfl ?_
    exact k
  obtain ⟨T5, l5, v2, X5, N5, e5, hv2, go7⟩ : ∃ (T5 : State) (l5 : List Loc) (v2 : Int32), Stand p l e ({ frames := 0, cells := 0, slots := 0, locals := 0 } : Room) s m #[(.ref a0), (.long q1)] below meth c T5 l5 0 0 ∧ Fr n0 l5 ∧ T5.heap = h0 ∧ v2 = (if q1 < u1 then (0 : Int32) else (if u2 < q1 then (0 : Int32) else (1 : Int32))) ∧ Go p e below A0 (T5.setTop (mkF m 23 #[.val (.ref a0), .val (.long q1), .second] [(.int v2)])) := by
    by_cases hc6_2 : q1 < u1
    · have go2 : Go p e below A0 (T1.setTop (mkF m 23 #[.val (.ref a0), .val (.long q1), .second] [(.int (0 : Int32))])) := by
        intro t k
        refine go1 t ?_
        refine o_ifY X1 hx hby d6_6 22 rfl (tlt ((lw_lt q1 u1).mpr hc6_2)).1 ?_
        refine o_iconst X1 hx hby d6_22 23 rfl (v := (0 : Int32)) rfl ?_
        exact k
      exact ⟨T1, _, (0 : Int32), X1, N0, e1, (if_pos hc6_2).symm, go2⟩
    · obtain ⟨T3, X3, e3, st3⟩ := getF X1 hx hZ hown (host := "") (Or.inl (hw _ (List.mem_of_getElem? (i := 18) rfl))) Via.refl e1 r1 (g := (mkF m 11 #[.val (.ref a0), .val (.long q1), .second] [(.ref a0), (.long q1)])) rfl rfl (hb hby d6_11)
      have go3 : Go p e below A0 (T3.setTop (mkF m 15 #[.val (.ref a0), .val (.long q1), .second] [(.int (lcmpW q1 u2))])) := by
        intro t k
        refine go1 t ?_
        refine o_ifN X1 hx hby d6_6 9 rfl (flt (fun q => hc6_2 ((lw_lt q1 u1).mp q))).1 ?_
        refine o_lloadN X1 hx hby d6_9 10 rfl rfl ?_
        refine o_aloadN X1 hx hby d6_10 11 rfl rfl rfl ?_
        refine st3 _ ?_
        show Steps p.tables e below (T3.setTop (mkF m 14 #[.val (.ref a0), .val (.long q1), .second] [(.long u2), (.long q1)])) _
        refine o_lcmp X3 hx hby d6_14 15 rfl ?_
        exact k
      obtain ⟨v1, hv1, go6⟩ : ∃ (v1 : Int32), v1 = (if u2 < q1 then (0 : Int32) else (1 : Int32)) ∧ Go p e below A0 (T3.setTop (mkF m 23 #[.val (.ref a0), .val (.long q1), .second] [(.int v1)])) := by
        by_cases hc15_4 : u2 < q1
        · have go4 : Go p e below A0 (T3.setTop (mkF m 23 #[.val (.ref a0), .val (.long q1), .second] [(.int (0 : Int32))])) := by
            intro t k
            refine go3 t ?_
            refine o_ifY X3 hx hby d6_15 22 rfl (tlt ((lw_gt q1 u2).mpr hc15_4)).2.2.1 ?_
            refine o_iconst X3 hx hby d6_22 23 rfl (v := (0 : Int32)) rfl ?_
            exact k
          exact ⟨(0 : Int32), (if_pos hc15_4).symm, go4⟩
        · have go5 : Go p e below A0 (T3.setTop (mkF m 23 #[.val (.ref a0), .val (.long q1), .second] [(.int (1 : Int32))])) := by
            intro t k
            refine go3 t ?_
            refine o_ifN X3 hx hby d6_15 18 rfl (flt (fun q => hc15_4 ((lw_gt q1 u2).mp q))).2.2.1 ?_
            refine o_iconst X3 hx hby d6_18 19 rfl (v := (1 : Int32)) rfl ?_
            refine o_goto X3 hx hby d6_19 23 rfl ?_
            exact k
          exact ⟨(1 : Int32), (if_neg hc15_4).symm, go5⟩
      subst hv1
      exact ⟨T3, _, (if u2 < q1 then (0 : Int32) else (1 : Int32)), X3, N0, e3, (if_neg hc6_2).symm, go6⟩
  have hF : v2 = (Fctn q1 u1 u2) := by subst hv2; rfl
  subst hA0
  obtain ⟨fs, hr, hrun, hended, hW, hsame⟩ := X5.leave (v := some (.int v2)) (fun h => by rw [Bd.returns] at h; cases h)
  refine ⟨_, _, go7 _ (o_retZ X5 hx Bd.returns (hb hby d6_23) (by rw [hv2]; repeat' (first | exact Or.inl rfl | exact Or.inr rfl | split)) hr), hrun, hended, _, _, rfl, ?_, ⟨_, rfl⟩, hW, hsame.mono (by decide) (by decide)⟩
  show Q6 Z a0 q1 u1 u2 h0 n0 _ T5.heap _
  rw [e5]
  exact ⟨congrArg (fun z => some (Value.int z)) hF, N5, rfl⟩
theorem own_xor (n : Nat) (h : n < 18446744073709551616) : n ^^^ 9223372036854775808 = if n < 9223372036854775808 then n + 9223372036854775808 else n - 9223372036854775808 := by
  have h1 : (n ^^^ 9223372036854775808) % 9223372036854775808 = n % 9223372036854775808 := by show (n ^^^ 2 ^ 63) % 2 ^ 63 = n % 2 ^ 63; rw [Nat.xor_mod_two_pow, Nat.mod_self, Nat.xor_zero]
  have h2 : (n ^^^ 9223372036854775808) / 9223372036854775808 = (n / 9223372036854775808) ^^^ 1 := by show (n ^^^ 2 ^ 63) / 2 ^ 63 = (n / 2 ^ 63) ^^^ 1; rw [Nat.xor_div_two_pow, Nat.div_self (by decide)]
  have h3 : n / 9223372036854775808 = 0 ∨ n / 9223372036854775808 = 1 := by omega
  rcases h3 with h3 | h3 <;> rw [h3] at h2
  · rw [show (0 ^^^ 1 : Nat) = 1 from rfl] at h2; split <;> omega
  · rw [show (1 ^^^ 1 : Nat) = 0 from rfl] at h2; split <;> omega
theorem own_xorL (x : Int64) : (x ^^^ (-9223372036854775808 : Int64)).toInt = x.toInt % 18446744073709551616 - 9223372036854775808 := by
  have h1 : (x ^^^ (-9223372036854775808 : Int64)).toBitVec.toNat = x.toBitVec.toNat ^^^ 9223372036854775808 := by
    show (x.toBitVec ^^^ (-9223372036854775808 : Int64).toBitVec).toNat = _
    rw [BitVec.toNat_xor]; rfl
  have h2 := x.toBitVec.isLt
  rw [own_xor _ h2] at h1
  show (x ^^^ (-9223372036854775808 : Int64)).toBitVec.toInt = x.toBitVec.toInt % _ - _
  rw [BitVec.toInt_eq_toNat_cond, BitVec.toInt_eq_toNat_cond, h1]
  split <;> split <;> split <;> omega
theorem own_ord (a b : Int64) : (Fmin a b).toInt ≤ (Fmax a b).toInt := by
  unfold Fmin Fmax
  by_cases h : a < b <;> by_cases h' : b < a <;> simp only [h, h', if_true, if_false] <;> simp only [Int64.lt_iff_toInt_lt] at h h' <;> omega
theorem own_in (v lo hi : Int64) (h : lo.toInt ≤ hi.toInt) : Fctn v lo hi = if lo.toInt ≤ v.toInt ∧ v.toInt ≤ hi.toInt then 1 else 0 := by
  unfold Fctn
  simp only [Int64.lt_iff_toInt_lt]
  split
  · rw [if_neg (by omega)]
  · split
    · rw [if_neg (by omega)]
    · rw [if_pos (by omega)]
theorem own_le (v lo hi : Int64) (h : lo.toInt ≤ hi.toInt) : Fule (v - lo) (hi - lo) = Fctn v lo hi := by
  rw [own_in v lo hi h]; unfold Fule
  have k1 := c_lsub v lo; have k2 := c_lsub hi lo; have r1 := rng64 v; have r2 := rng64 lo; have r3 := rng64 hi
  simp only [Int64.lt_iff_toInt_lt, own_xorL]
  split
  · rw [if_neg (by omega)]
  · rw [if_pos (by omega)]
theorem pd_2 : parseMethodDescriptor "(JJ)J" = some ⟨[.long, .long], some .long⟩ := by decide +kernel
theorem pd_3 : parseMethodDescriptor "(JJ)V" = some ⟨[.long, .long], none⟩ := by decide +kernel
theorem pd_4 : parseMethodDescriptor "(JJ)Z" = some ⟨[.long, .long], some .boolean⟩ := by decide +kernel
theorem pd_5 : parseMethodDescriptor "(J)Z" = some ⟨[.long], some .boolean⟩ := by decide +kernel
theorem ef_0 (m : MethodId) (x0 : Int64) (x1 : Int64) (x2 : Int64) : entryFrame m #[(.long x0), (.long x1), (.long x2)] maxLocals = mkF m 0 #[.val (.long x0), .second, .val (.long x1), .second, .val (.long x2), .second, .unset, .unset, .unset, .unset, .unset, .unset, .unset] [] := by first | (simp [entryFrame, mkF, argsToLocals, Value.category, maxLocals]; done) | rfl
set_option maxRecDepth 65536 in
set_option maxHeartbeats 4000000 in
theorem pl_0_0 (q0 : Int64) (q1 : Int64) (q2 : Int64) (v1 : Int64) (v2 : Int64) (v3 : Int64) (v4 : Int64) (v5 : Int32) (v6 : Int32) (v7 : Int32) (v9 : Int32) (v11 : Int32) (v14 : Int32) (v17 : Int32) (hv1 : v1 = (Fmin q0 q1)) (hv2 : v2 = (Fmax q0 q1)) (hv3 : v3 = (v2 - v1)) (hv4 : v4 = (q2 - v1)) (hv5 : v5 = (Fule v4 v3)) (hv6 : v6 = (Fctn q2 v1 v2)) (hv7 : v7 = (if v6 = v5 then (1 : Int32) else (0 : Int32))) (hv9 : v9 = (if v7 = (0 : Int32) then (0 : Int32) else (if (Fctn v1 v1 v2) = (0 : Int32) then (0 : Int32) else (1 : Int32)))) (hv11 : v11 = (if v9 = (0 : Int32) then (0 : Int32) else (if (Fctn v2 v1 v2) = (0 : Int32) then (0 : Int32) else (1 : Int32)))) (hv14 : v14 = (if v1 = (-9223372036854775808 : Int64) then v11 else (if v11 = (0 : Int32) then (0 : Int32) else (if (Fctn (v1 - (1 : Int64)) v1 v2) = (0 : Int32) then (1 : Int32) else (0 : Int32))))) (hv17 : v17 = (if v2 = (9223372036854775807 : Int64) then v14 else (if v14 = (0 : Int32) then (0 : Int32) else (if (Fctn (v2 + (1 : Int64)) v1 v2) = (0 : Int32) then (1 : Int32) else (0 : Int32))))) : v17 = (1 : Int32) := by
  have h : v1.toInt ≤ v2.toInt := by rw [hv1, hv2]; exact own_ord q0 q1
  have e7 : v7 = 1 := by rw [hv7, if_pos]; rw [hv6, hv5, hv4, hv3, own_le _ _ _ h]
  have e9 : v9 = 1 := by
    have t : Fctn v1 v1 v2 = 1 := by rw [own_in _ _ _ h, if_pos ⟨by omega, h⟩]
    rw [hv9, e7, t]; decide
  have e11 : v11 = 1 := by
    have t : Fctn v2 v1 v2 = 1 := by rw [own_in _ _ _ h, if_pos ⟨h, by omega⟩]
    rw [hv11, e9, t]; decide
  have e14 : v14 = 1 := by
    rw [hv14]
    split
    · exact e11
    · rename_i n
      have t : Fctn (v1 - 1) v1 v2 = 0 := by
        rw [own_in _ _ _ h, if_neg]
        have k := c_lsub v1 1; have r := rng64 (v1 - 1); have r' := rng64 v1
        rw [← Int64.toInt_inj] at n; simp only [Int64.reduceToInt] at k n; omega
      rw [e11, t]; decide
  rw [hv17]
  split
  · exact e14
  · rename_i n
    have t : Fctn (v2 + 1) v1 v2 = 0 := by
      rw [own_in _ _ _ h, if_neg]
      have k := c_ladd v2 1; have r := rng64 (v2 + 1); have r' := rng64 v2
      rw [← Int64.toInt_inj] at n; simp only [Int64.reduceToInt] at k n; omega
    rw [e14, t]; decide
def Q0 (Z : State) (q0 : Int64) (q1 : Int64) (q2 : Int64) (h0 : Heap) (n0 : Nat) (v : Option Value) (h : Heap) (L : List Loc) : Prop := v = some (.int 1) ∧ Fr n0 L
set_option maxRecDepth 65536 in
set_option maxHeartbeats 40000000 in
theorem rm0 (l : Launch) (Z : State) (aw : Array Value) (hw : ∀ d ∈ tables_1, d.before aw Z = true) (ws : List Jvm.Cond) (q0 : Int64) (q1 : Int64) (q2 : Int64) (h0 : Heap) (n0 : Nat) (Z0 : n0 ≤ h0.size) :
    MetFree l x (head1 (Jvm.Cond.code x code maxLocals ret :: ws) room_1) (fun a U => a = #[(.long q0), (.long q1), (.long q2)] ∧ Z.Warmed39 U.vm ∧ U.heap = h0) (fun _ _ _ _ _ => True) (fun _ U o U' => ∃ v L, o = .returned v ∧ Q0 Z q0 q1 q2 h0 n0 v U'.heap L ∧ FrameEnd U o U' L room_1.cells room_1.slots) := by
  refine MetFree.of_bodySF (plainFor_of_name pn_5) hisR ?_
  intro p e s m args below meth c s₁ Bd hml0 hP hK
  obtain ⟨rfl, hZ, hh⟩ := hP
  have hx := Bd.exec
  have hby := Bd.bytes
  have hml : c.maxLocals = 13 := hml0
  have hown : s.vm.findClass "com/example/calchas/calchas/model/RangeContainsPinLaw" = some m.cls := findClass_of_methodNamed Bd.named
  have hnm := (name_of_methodNamed Bd.named Bd.method).1
  have X0 : Stand p l e room_1 s m #[(.long q0), (.long q1), (.long q2)] below meth c s₁ [] 0 0 := Stand.of_body Bd
  have e0 : s₁.heap = h0 := by rw [← hh, Bd.state]; rfl
  have N0 := Fr.nil n0
  obtain ⟨A0, hA0⟩ : ∃ A0, A0 = s₁.setTop (entryFrame m #[(.long q0), (.long q1), (.long q2)] maxLocals) := ⟨_, rfl⟩
  have go0 : Go p e below A0 (s₁.setTop (mkF m 0 #[.val (.long q0), .second, .val (.long q1), .second, .val (.long q2), .second, .unset, .unset, .unset, .unset, .unset, .unset, .unset] [])) := fun t k => by rw [hA0]; exact castTop (ef_0 m q0 q1 q2) k
  have go1 : Go p e below A0 (s₁.setTop (mkF m 2 #[.val (.long q0), .second, .val (.long q1), .second, .val (.long q2), .second, .unset, .unset, .unset, .unset, .unset, .unset, .unset] [(.long q1), (.long q0)])) := by
    intro t k
    refine go0 t ?_
    refine o_lloadN X0 hx hby at_0 1 rfl rfl ?_
    refine o_lloadN X0 hx hby at_1 2 rfl rfl ?_
    exact k
  obtain ⟨_, _, ⟨T1, L1, k1, n1⟩, -, X1, ⟨Lc1, hQ1, l1, y1, z1⟩, st1⟩ := Jvm.LawKit.callS X0 hx (y := (⟨"java/lang/Math", "min", "(JJ)J"⟩ : MethodName)) hown (mvT hZ (hw _ (List.mem_of_getElem? (i := 0) rfl))) (mvT hZ (hw _ (List.mem_of_getElem? (i := 1) rfl))) (mvT hZ (hw _ (List.mem_of_getElem? (i := 2) rfl))) (mvT hZ (hw _ (List.mem_of_getElem? (i := 3) rfl))) (by decide) (backOf (W := 0) (rm1 l Z aw hw [] q0 q1 h0 n0 Z0) hZ (hw _ (List.mem_of_getElem? (i := 3) rfl)) (hw _ (List.mem_of_getElem? (i := 2) rfl)) (by decide) (by decide)) (g := (mkF m 2 #[.val (.long q0), .second, .val (.long q1), .second, .val (.long q2), .second, .unset, .unset, .unset, .unset, .unset, .unset, .unset] [(.long q1), (.long q0)])) rfl (by rw [hml]; rfl) (argsL := [(.long q0), (.long q1)]) (rest := []) (lenOf pd_2 rfl) rfl (by show 2 * 0 + _ ≤ _; exact Nat.le_of_eq rfl) (hb hby at_2) (fun _ _ => ⟨rfl, e0, (by decide : 0 + 0 ≤ _), (by decide : 0 + 0 ≤ _)⟩)
  dsimp only [Pt.U, Pt.locs, Pt.cells, Pt.slots] at X1 l1 y1 z1 st1 hQ1
  subst l1 y1 z1
  obtain ⟨rfl, N1q, e1⟩ := hQ1
  have N1 := Fr.app N0 N1q
  have go2 : Go p e below A0 (T1.setTop (mkF m 5 #[.val (.long q0), .second, .val (.long q1), .second, .val (.long q2), .second, .unset, .unset, .unset, .unset, .unset, .unset, .unset] [(.long (Fmin q0 q1))])) := by
    intro t k
    refine go1 t ?_
    refine st1 _ ?_
    show Steps p.tables e below (T1.setTop (mkF m 5 #[.val (.long q0), .second, .val (.long q1), .second, .val (.long q2), .second, .unset, .unset, .unset, .unset, .unset, .unset, .unset] [(.long (Fmin q0 q1))])) _
    exact k
  obtain ⟨v1, hv1, go3⟩ : ∃ v1 : Int64, v1 = (Fmin q0 q1) ∧ Go p e below A0 (T1.setTop (mkF m 5 #[.val (.long q0), .second, .val (.long q1), .second, .val (.long q2), .second, .unset, .unset, .unset, .unset, .unset, .unset, .unset] [(.long v1)])) := ⟨_, rfl, go2⟩
  have go4 : Go p e below A0 (T1.setTop (mkF m 7 #[.val (.long q0), .second, .val (.long q1), .second, .val (.long q2), .second, .val (.long v1), .second, .unset, .unset, .unset, .unset, .unset] [])) := by
    intro t k
    refine go3 t ?_
    refine o_lstore X1 hx hby at_5 7 rfl (l' := #[.val (.long q0), .second, .val (.long q1), .second, .val (.long q2), .second, .val (.long v1), .second, .unset, .unset, .unset, .unset, .unset]) rfl ?_
    exact k
  have go5 : Go p e below A0 (T1.setTop (mkF m 9 #[.val (.long q0), .second, .val (.long q1), .second, .val (.long q2), .second, .val (.long v1), .second, .unset, .unset, .unset, .unset, .unset] [(.long q1), (.long q0)])) := by
    intro t k
    refine go4 t ?_
    refine o_lloadN X1 hx hby at_7 8 rfl rfl ?_
    refine o_lloadN X1 hx hby at_8 9 rfl rfl ?_
    exact k
  obtain ⟨_, _, ⟨T2, L2, k2, n2⟩, -, X2, ⟨Lc2, hQ2, l2, y2, z2⟩, st2⟩ := Jvm.LawKit.callS X1 hx (y := (⟨"java/lang/Math", "max", "(JJ)J"⟩ : MethodName)) hown (mvT hZ (hw _ (List.mem_of_getElem? (i := 4) rfl))) (mvT hZ (hw _ (List.mem_of_getElem? (i := 5) rfl))) (mvT hZ (hw _ (List.mem_of_getElem? (i := 2) rfl))) (mvT hZ (hw _ (List.mem_of_getElem? (i := 6) rfl))) (by decide) (backOf (W := 0) (rm2 l Z aw hw [] q0 q1 h0 n0 Z0) hZ (hw _ (List.mem_of_getElem? (i := 6) rfl)) (hw _ (List.mem_of_getElem? (i := 2) rfl)) (by decide) (by decide)) (g := (mkF m 9 #[.val (.long q0), .second, .val (.long q1), .second, .val (.long q2), .second, .val (.long v1), .second, .unset, .unset, .unset, .unset, .unset] [(.long q1), (.long q0)])) rfl (by rw [hml]; rfl) (argsL := [(.long q0), (.long q1)]) (rest := []) (lenOf pd_2 rfl) rfl (by show 2 * 0 + _ ≤ _; exact Nat.le_of_eq rfl) (hb hby at_9) (fun _ _ => ⟨rfl, e1, (by decide : 0 + 0 ≤ _), (by decide : 0 + 0 ≤ _)⟩)
  dsimp only [Pt.U, Pt.locs, Pt.cells, Pt.slots] at X2 l2 y2 z2 st2 hQ2
  subst l2 y2 z2
  obtain ⟨rfl, N2q, e2⟩ := hQ2
  have N2 := Fr.app N1 N2q
  have go6 : Go p e below A0 (T2.setTop (mkF m 12 #[.val (.long q0), .second, .val (.long q1), .second, .val (.long q2), .second, .val (.long v1), .second, .unset, .unset, .unset, .unset, .unset] [(.long (Fmax q0 q1))])) := by
    intro t k
    refine go5 t ?_
    refine st2 _ ?_
    show Steps p.tables e below (T2.setTop (mkF m 12 #[.val (.long q0), .second, .val (.long q1), .second, .val (.long q2), .second, .val (.long v1), .second, .unset, .unset, .unset, .unset, .unset] [(.long (Fmax q0 q1))])) _
    exact k
  obtain ⟨v2, hv2, go7⟩ : ∃ v2 : Int64, v2 = (Fmax q0 q1) ∧ Go p e below A0 (T2.setTop (mkF m 12 #[.val (.long q0), .second, .val (.long q1), .second, .val (.long q2), .second, .val (.long v1), .second, .unset, .unset, .unset, .unset, .unset] [(.long v2)])) := ⟨_, rfl, go6⟩
  have go8 : Go p e below A0 (T2.setTop (mkF m 14 #[.val (.long q0), .second, .val (.long q1), .second, .val (.long q2), .second, .val (.long v1), .second, .val (.long v2), .second, .unset, .unset, .unset] [])) := by
    intro t k
    refine go7 t ?_
    refine o_lstore X2 hx hby at_12 14 rfl (l' := #[.val (.long q0), .second, .val (.long q1), .second, .val (.long q2), .second, .val (.long v1), .second, .val (.long v2), .second, .unset, .unset, .unset]) rfl ?_
    exact k
  obtain ⟨T3, h3, X3, e3, E3, A3, D3, -, st3⟩ := newO X2 hx hZ hown (hw _ (List.mem_of_getElem? (i := 7) rfl)) (hw _ (List.mem_of_getElem? (i := 8) rfl)) (hw _ (List.mem_of_getElem? (i := 9) rfl)) e2 (g := (mkF m 14 #[.val (.long q0), .second, .val (.long q1), .second, .val (.long q2), .second, .val (.long v1), .second, .val (.long v2), .second, .unset, .unset, .unset] [])) rfl (hb hby at_14) (by decide) (by decide)
  obtain ⟨b3, g3⟩ : ∃ z, z = h0.size := ⟨_, rfl⟩
  rw [← g3] at A3 D3 st3
  have g_b3 : n0 ≤ b3 := Nat.le_trans Z0 (Nat.le_of_eq g3.symm)
  have sz_b3 : h0.size ≤ b3 := Nat.le_trans (Keep.refl h0 []).1 (Nat.le_of_eq g3.symm)
  have Zp3 : n0 ≤ h3.size := Nat.le_trans Z0 E3.1
  have K3 : Keep h0 h3 [] := (Keep.refl h0 []).ext E3
  have f1 : Exa Z h3 b3 "com/example/calchas/calchas/model/Range" := A3
  have f2 : Fld Z h3 b3 "com/example/calchas/calchas/model/Range" "low" "J" (.long (0 : Int64)) := D3 (Or.inr (hw _ (List.mem_of_getElem? (i := 17) rfl))) (ty := .long) (by decide)
  have f3 : Fld Z h3 b3 "com/example/calchas/calchas/model/Range" "high" "J" (.long (0 : Int64)) := D3 (Or.inr (hw _ (List.mem_of_getElem? (i := 19) rfl))) (ty := .long) (by decide)
  have go9 : Go p e below A0 (T3.setTop (mkF m 22 #[.val (.long q0), .second, .val (.long q1), .second, .val (.long q2), .second, .val (.long v1), .second, .val (.long v2), .second, .unset, .unset, .unset] [(.long v2), (.long v1), (.ref b3), (.ref b3)])) := by
    intro t k
    refine go8 t ?_
    refine st3 _ ?_
    show Steps p.tables e below (T3.setTop (mkF m 17 #[.val (.long q0), .second, .val (.long q1), .second, .val (.long q2), .second, .val (.long v1), .second, .val (.long v2), .second, .unset, .unset, .unset] [(.ref b3)])) _
    refine o_dup X3 hx hby at_17 18 rfl rfl ?_
    refine o_lload X3 hx hby at_18 20 rfl rfl ?_
    refine o_lload X3 hx hby at_20 22 rfl rfl ?_
    exact k
  obtain ⟨_, _, ⟨T4, L4, k4, n4⟩, -, X4, ⟨Lc4, hQ4, l4, y4, z4⟩, st4⟩ := X3.specialBack hx (y := (⟨"com/example/calchas/calchas/model/Range", "<init>", "(JJ)V"⟩ : MethodName)) rfl hown (mvT hZ (hw _ (List.mem_of_getElem? (i := 10) rfl))) (mvT hZ (hw _ (List.mem_of_getElem? (i := 11) rfl))) (mvT hZ (hw _ (List.mem_of_getElem? (i := 12) rfl))) (by decide) (backOf (W := 1) (rm3 l Z aw hw [] b3 v1 v2 h3 n0 Zp3 (f1) (g_b3) (f2) (f3)) hZ (hw _ (List.mem_of_getElem? (i := 12) rfl)) (hw _ (List.mem_of_getElem? (i := 9) rfl)) (by decide) (by decide)) (g := (mkF m 22 #[.val (.long q0), .second, .val (.long q1), .second, .val (.long q2), .second, .val (.long v1), .second, .val (.long v2), .second, .unset, .unset, .unset] [(.long v2), (.long v1), (.ref b3), (.ref b3)])) rfl (by rw [hml]; rfl) (Steps.refl _) (a := b3) (argsL := [(.long v1), (.long v2)]) (rest := [(.ref b3)]) (lenOf pd_3 rfl) rfl (by show 2 * 0 + _ ≤ _; exact Nat.le_of_eq rfl) (hb hby at_22) (fun _ _ => ⟨rfl, e3, (by decide : 1 + 0 ≤ _), (by decide : 2 + 0 ≤ _)⟩)
  dsimp only [Pt.U, Pt.locs, Pt.cells, Pt.slots] at X4 l4 y4 z4 st4 hQ4
  subst l4 y4 z4
  obtain ⟨rfl, N4q, K4q, qf4_0, qf4_1, -⟩ := hQ4
  have f4 : Exa Z T4.heap b3 "com/example/calchas/calchas/model/Range" := f1.keep K4q
  have Zp4 : n0 ≤ T4.heap.size := Nat.le_trans Zp3 K4q.1
  have K4 : Keep h0 T4.heap [] := Keep.trans K3 K4q (allS (P := fun x => x ∈ ([] : List Addr) ∨ h0.size ≤ x) (Or.inr sz_b3) all0)
  have f5 : Fld Z T4.heap b3 "com/example/calchas/calchas/model/Range" "low" "J" (.long v1) := qf4_0
  have f6 : Fld Z T4.heap b3 "com/example/calchas/calchas/model/Range" "high" "J" (.long v2) := qf4_1
  have N4 := Fr.app N2 N4q
  have go10 : Go p e below A0 (T4.setTop (mkF m 37 #[.val (.long q0), .second, .val (.long q1), .second, .val (.long q2), .second, .val (.long v1), .second, .val (.long v2), .second, .val (.ref b3), .unset, .unset] [(.long (v2 - v1)), (.long (q2 - v1))])) := by
    intro t k
    refine go9 t ?_
    refine st4.trans ?_
    show Steps p.tables e below (T4.setTop (mkF m 25 #[.val (.long q0), .second, .val (.long q1), .second, .val (.long q2), .second, .val (.long v1), .second, .val (.long v2), .second, .unset, .unset, .unset] [(.ref b3)])) _
    refine o_astore X4 hx hby at_25 27 rfl rfl (l' := #[.val (.long q0), .second, .val (.long q1), .second, .val (.long q2), .second, .val (.long v1), .second, .val (.long v2), .second, .val (.ref b3), .unset, .unset]) rfl ?_
    refine o_lload X4 hx hby at_27 29 rfl rfl ?_
    refine o_lload X4 hx hby at_29 31 rfl rfl ?_
    refine o_lsub X4 hx hby at_31 32 rfl ?_
    refine o_lload X4 hx hby at_32 34 rfl rfl ?_
    refine o_lload X4 hx hby at_34 36 rfl rfl ?_
    refine o_lsub X4 hx hby at_36 37 rfl ?_
    exact k
  obtain ⟨v3, hv3, go11⟩ : ∃ v3 : Int64, v3 = (v2 - v1) ∧ Go p e below A0 (T4.setTop (mkF m 37 #[.val (.long q0), .second, .val (.long q1), .second, .val (.long q2), .second, .val (.long v1), .second, .val (.long v2), .second, .val (.ref b3), .unset, .unset] [(.long v3), (.long (q2 - v1))])) := ⟨_, rfl, go10⟩
  obtain ⟨v4, hv4, go12⟩ : ∃ v4 : Int64, v4 = (q2 - v1) ∧ Go p e below A0 (T4.setTop (mkF m 37 #[.val (.long q0), .second, .val (.long q1), .second, .val (.long q2), .second, .val (.long v1), .second, .val (.long v2), .second, .val (.ref b3), .unset, .unset] [(.long v3), (.long v4)])) := ⟨_, rfl, go11⟩
  obtain ⟨_, _, ⟨T5, L5, k5, n5⟩, -, X5, ⟨Lc5, hQ5, l5, y5, z5⟩, st5⟩ := Jvm.LawKit.callS X4 hx (y := (⟨"com/example/calchas/calchas/model/RangeContainsPinLaw", "unsignedLe", "(JJ)Z"⟩ : MethodName)) hown (mvT hZ (hw _ (List.mem_of_getElem? (i := 20) rfl))) (mvT hZ (hw _ (List.mem_of_getElem? (i := 21) rfl))) (mvT hZ (hw _ (List.mem_of_getElem? (i := 22) rfl))) (mvT hZ (hw _ (List.mem_of_getElem? (i := 23) rfl))) (by decide) (backOf (W := 0) (rm5 l Z aw hw [] v4 v3 T4.heap n0 Zp4) hZ (hw _ (List.mem_of_getElem? (i := 23) rfl)) (hw _ (List.mem_of_getElem? (i := 22) rfl)) (by decide) (by decide)) (g := (mkF m 37 #[.val (.long q0), .second, .val (.long q1), .second, .val (.long q2), .second, .val (.long v1), .second, .val (.long v2), .second, .val (.ref b3), .unset, .unset] [(.long v3), (.long v4)])) rfl (by rw [hml]; rfl) (argsL := [(.long v4), (.long v3)]) (rest := []) (lenOf pd_4 rfl) rfl (by show 2 * 0 + _ ≤ _; exact Nat.le_of_eq rfl) (hb hby at_37) (fun _ _ => ⟨rfl, rfl, (by decide : 1 + 0 ≤ _), (by decide : 2 + 0 ≤ _)⟩)
  dsimp only [Pt.U, Pt.locs, Pt.cells, Pt.slots] at X5 l5 y5 z5 st5 hQ5
  subst l5 y5 z5
  obtain ⟨rfl, N5q, e5⟩ := hQ5
  have N5 := Fr.app N4 N5q
  have go13 : Go p e below A0 (T5.setTop (mkF m 40 #[.val (.long q0), .second, .val (.long q1), .second, .val (.long q2), .second, .val (.long v1), .second, .val (.long v2), .second, .val (.ref b3), .unset, .unset] [(.int (Fule v4 v3))])) := by
    intro t k
    refine go12 t ?_
    refine st5 _ ?_
    show Steps p.tables e below (T5.setTop (mkF m 40 #[.val (.long q0), .second, .val (.long q1), .second, .val (.long q2), .second, .val (.long v1), .second, .val (.long v2), .second, .val (.ref b3), .unset, .unset] [(.int (Fule v4 v3))])) _
    exact k
  obtain ⟨v5, hv5, go14⟩ : ∃ v5 : Int32, v5 = (Fule v4 v3) ∧ Go p e below A0 (T5.setTop (mkF m 40 #[.val (.long q0), .second, .val (.long q1), .second, .val (.long q2), .second, .val (.long v1), .second, .val (.long v2), .second, .val (.ref b3), .unset, .unset] [(.int v5)])) := ⟨_, rfl, go13⟩
  have go15 : Go p e below A0 (T5.setTop (mkF m 42 #[.val (.long q0), .second, .val (.long q1), .second, .val (.long q2), .second, .val (.long v1), .second, .val (.long v2), .second, .val (.ref b3), .val (.int v5), .unset] [])) := by
    intro t k
    refine go14 t ?_
    refine o_istore X5 hx hby at_40 42 rfl (l' := #[.val (.long q0), .second, .val (.long q1), .second, .val (.long q2), .second, .val (.long v1), .second, .val (.long v2), .second, .val (.ref b3), .val (.int v5), .unset]) rfl ?_
    exact k
  have go16 : Go p e below A0 (T5.setTop (mkF m 46 #[.val (.long q0), .second, .val (.long q1), .second, .val (.long q2), .second, .val (.long v1), .second, .val (.long v2), .second, .val (.ref b3), .val (.int v5), .unset] [(.long q2), (.ref b3)])) := by
    intro t k
    refine go15 t ?_
    refine o_aload X5 hx hby at_42 44 rfl rfl rfl ?_
    refine o_lload X5 hx hby at_44 46 rfl rfl ?_
    exact k
  obtain ⟨cq6, kq6, q6a, q6b, q6c⟩ := isOf hZ e5 f4
  obtain ⟨_, _, ⟨T6, L6, k6, n6⟩, -, X6, ⟨Lc6, hQ6, l6, y6, z6⟩, st6⟩ := X5.virtualBack hx (y := (⟨"com/example/calchas/calchas/model/Range", "contains", "(J)Z"⟩ : MethodName)) (z := (⟨"com/example/calchas/calchas/model/Range", "contains", "(J)Z"⟩ : MethodName)) hown (mvT hZ (hw _ (List.mem_of_getElem? (i := 25) rfl))) (mvT hZ (hw _ (List.mem_of_getElem? (i := 26) rfl))) (notFace_of_selects (args := #[]) (mvT hZ (hw _ (List.mem_of_getElem? (i := 28) rfl)))) (mvT hZ (hw _ (List.mem_of_getElem? (i := 28) rfl))) (mvT hZ (hw _ (List.mem_of_getElem? (i := 27) rfl))) (by decide) (backOf (W := 0) (rm6 l Z aw hw [] b3 q2 v1 v2 T4.heap n0 Zp4 (f5) (f6)) hZ (hw _ (List.mem_of_getElem? (i := 29) rfl)) (hw _ (List.mem_of_getElem? (i := 9) rfl)) (by decide) (by decide)) q6a q6c (g := (mkF m 46 #[.val (.long q0), .second, .val (.long q1), .second, .val (.long q2), .second, .val (.long v1), .second, .val (.long v2), .second, .val (.ref b3), .val (.int v5), .unset] [(.long q2), (.ref b3)])) rfl (by rw [hml]; rfl) (Steps.refl _) (argsL := [(.long q2)]) (rest := []) (lenOf pd_5 rfl) rfl (by show 2 * 0 + _ ≤ _; exact Nat.le_of_eq rfl) (hb hby at_46) (fun _ _ => ⟨rfl, e5, (by decide : 1 + 0 ≤ _), (by decide : 2 + 0 ≤ _)⟩)
  dsimp only [Pt.U, Pt.locs, Pt.cells, Pt.slots] at X6 l6 y6 z6 st6 hQ6
  subst l6 y6 z6
  obtain ⟨rfl, N6q, e6⟩ := hQ6
  have N6 := Fr.app N5 N6q
  have go17 : Go p e below A0 (T6.setTop (mkF m 49 #[.val (.long q0), .second, .val (.long q1), .second, .val (.long q2), .second, .val (.long v1), .second, .val (.long v2), .second, .val (.ref b3), .val (.int v5), .unset] [(.int (Fctn q2 v1 v2))])) := by
    intro t k
    refine go16 t ?_
    refine st6.trans ?_
    show Steps p.tables e below (T6.setTop (mkF m 49 #[.val (.long q0), .second, .val (.long q1), .second, .val (.long q2), .second, .val (.long v1), .second, .val (.long v2), .second, .val (.ref b3), .val (.int v5), .unset] [(.int (Fctn q2 v1 v2))])) _
    exact k
  obtain ⟨v6, hv6, go18⟩ : ∃ v6 : Int32, v6 = (Fctn q2 v1 v2) ∧ Go p e below A0 (T6.setTop (mkF m 49 #[.val (.long q0), .second, .val (.long q1), .second, .val (.long q2), .second, .val (.long v1), .second, .val (.long v2), .second, .val (.ref b3), .val (.int v5), .unset] [(.int v6)])) := ⟨_, rfl, go17⟩
  have go19 : Go p e below A0 (T6.setTop (mkF m 51 #[.val (.long q0), .second, .val (.long q1), .second, .val (.long q2), .second, .val (.long v1), .second, .val (.long v2), .second, .val (.ref b3), .val (.int v5), .unset] [(.int v5), (.int v6)])) := by
    intro t k
    refine go18 t ?_
    refine o_iload X6 hx hby at_49 51 rfl rfl ?_
    exact k
  obtain ⟨v7, hv7, go22⟩ : ∃ (v7 : Int32), v7 = (if v6 = v5 then (1 : Int32) else (0 : Int32)) ∧ Go p e below A0 (T6.setTop (mkF m 59 #[.val (.long q0), .second, .val (.long q1), .second, .val (.long q2), .second, .val (.long v1), .second, .val (.long v2), .second, .val (.ref b3), .val (.int v5), .unset] [(.int v7)])) := by
    by_cases hc51_7 : v6 = v5
    · have go20 : Go p e below A0 (T6.setTop (mkF m 59 #[.val (.long q0), .second, .val (.long q1), .second, .val (.long q2), .second, .val (.long v1), .second, .val (.long v2), .second, .val (.ref b3), .val (.int v5), .unset] [(.int (1 : Int32))])) := by
        intro t k
        refine go19 t ?_
        refine o_icmpN X6 hx hby at_51 54 rfl (teq hc51_7).2 ?_
        refine o_iconst X6 hx hby at_54 55 rfl (v := (1 : Int32)) rfl ?_
        refine o_goto X6 hx hby at_55 59 rfl ?_
        exact k
      exact ⟨(1 : Int32), (if_pos hc51_7).symm, go20⟩
    · have go21 : Go p e below A0 (T6.setTop (mkF m 59 #[.val (.long q0), .second, .val (.long q1), .second, .val (.long q2), .second, .val (.long v1), .second, .val (.long v2), .second, .val (.ref b3), .val (.int v5), .unset] [(.int (0 : Int32))])) := by
        intro t k
        refine go19 t ?_
        refine o_icmpY X6 hx hby at_51 58 rfl (feq hc51_7).2 ?_
        refine o_iconst X6 hx hby at_58 59 rfl (v := (0 : Int32)) rfl ?_
        exact k
      exact ⟨(0 : Int32), (if_neg hc51_7).symm, go21⟩
  have go23 : Go p e below A0 (T6.setTop (mkF m 61 #[.val (.long q0), .second, .val (.long q1), .second, .val (.long q2), .second, .val (.long v1), .second, .val (.long v2), .second, .val (.ref b3), .val (.int v5), .val (.int v7)] [])) := by
    intro t k
    refine go22 t ?_
    refine o_istore X6 hx hby at_59 61 rfl (l' := #[.val (.long q0), .second, .val (.long q1), .second, .val (.long q2), .second, .val (.long v1), .second, .val (.long v2), .second, .val (.ref b3), .val (.int v5), .val (.int v7)]) rfl ?_
    exact k
  have go24 : Go p e below A0 (T6.setTop (mkF m 63 #[.val (.long q0), .second, .val (.long q1), .second, .val (.long q2), .second, .val (.long v1), .second, .val (.long v2), .second, .val (.ref b3), .val (.int v5), .val (.int v7)] [(.int v7)])) := by
    intro t k
    refine go23 t ?_
    refine o_iload X6 hx hby at_61 63 rfl rfl ?_
    exact k
  obtain ⟨T11, l11, v9, X11, N11, e11, hv9, go30⟩ : ∃ (T11 : State) (l11 : List Loc) (v9 : Int32), Stand p l e room_1 s m #[(.long q0), (.long q1), (.long q2)] below meth c T11 l11 1 2 ∧ Fr n0 l11 ∧ T11.heap = T4.heap ∧ v9 = (if v7 = (0 : Int32) then (0 : Int32) else (if (Fctn v1 v1 v2) = (0 : Int32) then (0 : Int32) else (1 : Int32))) ∧ Go p e below A0 (T11.setTop (mkF m 81 #[.val (.long q0), .second, .val (.long q1), .second, .val (.long q2), .second, .val (.long v1), .second, .val (.long v2), .second, .val (.ref b3), .val (.int v5), .val (.int v7)] [(.int v9)])) := by
    by_cases hc63_8 : v7 = (0 : Int32)
    · have go25 : Go p e below A0 (T6.setTop (mkF m 81 #[.val (.long q0), .second, .val (.long q1), .second, .val (.long q2), .second, .val (.long v1), .second, .val (.long v2), .second, .val (.ref b3), .val (.int v5), .val (.int v7)] [(.int (0 : Int32))])) := by
        intro t k
        refine go24 t ?_
        refine o_ifY X6 hx hby at_63 80 rfl (teq hc63_8).1 ?_
        refine o_iconst X6 hx hby at_80 81 rfl (v := (0 : Int32)) rfl ?_
        exact k
      exact ⟨T6, _, (0 : Int32), X6, N6, e6, (if_pos hc63_8).symm, go25⟩
    · obtain ⟨cq9, kq9, q9a, q9b, q9c⟩ := isOf hZ e6 f4
      obtain ⟨_, _, ⟨T9, L9, k9, n9⟩, -, X9, ⟨Lc9, hQ9, l9, y9, z9⟩, st9⟩ := X6.virtualBack hx (y := (⟨"com/example/calchas/calchas/model/Range", "contains", "(J)Z"⟩ : MethodName)) (z := (⟨"com/example/calchas/calchas/model/Range", "contains", "(J)Z"⟩ : MethodName)) hown (mvT hZ (hw _ (List.mem_of_getElem? (i := 25) rfl))) (mvT hZ (hw _ (List.mem_of_getElem? (i := 26) rfl))) (notFace_of_selects (args := #[]) (mvT hZ (hw _ (List.mem_of_getElem? (i := 28) rfl)))) (mvT hZ (hw _ (List.mem_of_getElem? (i := 28) rfl))) (mvT hZ (hw _ (List.mem_of_getElem? (i := 27) rfl))) (by decide) (backOf (W := 0) (rm6 l Z aw hw [] b3 v1 v1 v2 T4.heap n0 Zp4 (f5) (f6)) hZ (hw _ (List.mem_of_getElem? (i := 29) rfl)) (hw _ (List.mem_of_getElem? (i := 9) rfl)) (by decide) (by decide)) q9a q9c (g := (mkF m 70 #[.val (.long q0), .second, .val (.long q1), .second, .val (.long q2), .second, .val (.long v1), .second, .val (.long v2), .second, .val (.ref b3), .val (.int v5), .val (.int v7)] [(.long v1), (.ref b3)])) rfl (by rw [hml]; rfl) (Steps.refl _) (argsL := [(.long v1)]) (rest := []) (lenOf pd_5 rfl) rfl (by show 2 * 0 + _ ≤ _; exact Nat.le_of_eq rfl) (hb hby at_70) (fun _ _ => ⟨rfl, e6, (by decide : 1 + 0 ≤ _), (by decide : 2 + 0 ≤ _)⟩)
      dsimp only [Pt.U, Pt.locs, Pt.cells, Pt.slots] at X9 l9 y9 z9 st9 hQ9
      subst l9 y9 z9
      obtain ⟨rfl, N9q, e9⟩ := hQ9
      have N9 := Fr.app N6 N9q
      have go26 : Go p e below A0 (T9.setTop (mkF m 73 #[.val (.long q0), .second, .val (.long q1), .second, .val (.long q2), .second, .val (.long v1), .second, .val (.long v2), .second, .val (.ref b3), .val (.int v5), .val (.int v7)] [(.int (Fctn v1 v1 v2))])) := by
        intro t k
        refine go24 t ?_
        refine o_ifN X6 hx hby at_63 66 rfl (feq hc63_8).1 ?_
        refine o_aload X6 hx hby at_66 68 rfl rfl rfl ?_
        refine o_lload X6 hx hby at_68 70 rfl rfl ?_
        refine st9.trans ?_
        show Steps p.tables e below (T9.setTop (mkF m 73 #[.val (.long q0), .second, .val (.long q1), .second, .val (.long q2), .second, .val (.long v1), .second, .val (.long v2), .second, .val (.ref b3), .val (.int v5), .val (.int v7)] [(.int (Fctn v1 v1 v2))])) _
        exact k
      obtain ⟨v8, hv8, go29⟩ : ∃ (v8 : Int32), v8 = (if (Fctn v1 v1 v2) = (0 : Int32) then (0 : Int32) else (1 : Int32)) ∧ Go p e below A0 (T9.setTop (mkF m 81 #[.val (.long q0), .second, .val (.long q1), .second, .val (.long q2), .second, .val (.long v1), .second, .val (.long v2), .second, .val (.ref b3), .val (.int v5), .val (.int v7)] [(.int v8)])) := by
        by_cases hc73_10 : (Fctn v1 v1 v2) = (0 : Int32)
        · have go27 : Go p e below A0 (T9.setTop (mkF m 81 #[.val (.long q0), .second, .val (.long q1), .second, .val (.long q2), .second, .val (.long v1), .second, .val (.long v2), .second, .val (.ref b3), .val (.int v5), .val (.int v7)] [(.int (0 : Int32))])) := by
            intro t k
            refine go26 t ?_
            refine o_ifY X9 hx hby at_73 80 rfl (teq hc73_10).1 ?_
            refine o_iconst X9 hx hby at_80 81 rfl (v := (0 : Int32)) rfl ?_
            exact k
          exact ⟨(0 : Int32), (if_pos hc73_10).symm, go27⟩
        · have go28 : Go p e below A0 (T9.setTop (mkF m 81 #[.val (.long q0), .second, .val (.long q1), .second, .val (.long q2), .second, .val (.long v1), .second, .val (.long v2), .second, .val (.ref b3), .val (.int v5), .val (.int v7)] [(.int (1 : Int32))])) := by
            intro t k
            refine go26 t ?_
            refine o_ifN X9 hx hby at_73 76 rfl (feq hc73_10).1 ?_
            refine o_iconst X9 hx hby at_76 77 rfl (v := (1 : Int32)) rfl ?_
            refine o_goto X9 hx hby at_77 81 rfl ?_
            exact k
          exact ⟨(1 : Int32), (if_neg hc73_10).symm, go28⟩
      subst hv8
      exact ⟨T9, _, (if (Fctn v1 v1 v2) = (0 : Int32) then (0 : Int32) else (1 : Int32)), X9, N9, e9, (if_neg hc63_8).symm, go29⟩
  have go31 : Go p e below A0 (T11.setTop (mkF m 83 #[.val (.long q0), .second, .val (.long q1), .second, .val (.long q2), .second, .val (.long v1), .second, .val (.long v2), .second, .val (.ref b3), .val (.int v5), .val (.int v9)] [])) := by
    intro t k
    refine go30 t ?_
    refine o_istore X11 hx hby at_81 83 rfl (l' := #[.val (.long q0), .second, .val (.long q1), .second, .val (.long q2), .second, .val (.long v1), .second, .val (.long v2), .second, .val (.ref b3), .val (.int v5), .val (.int v9)]) rfl ?_
    exact k
  have go32 : Go p e below A0 (T11.setTop (mkF m 85 #[.val (.long q0), .second, .val (.long q1), .second, .val (.long q2), .second, .val (.long v1), .second, .val (.long v2), .second, .val (.ref b3), .val (.int v5), .val (.int v9)] [(.int v9)])) := by
    intro t k
    refine go31 t ?_
    refine o_iload X11 hx hby at_83 85 rfl rfl ?_
    exact k
  obtain ⟨T15, l15, v11, X15, N15, e15, hv11, go38⟩ : ∃ (T15 : State) (l15 : List Loc) (v11 : Int32), Stand p l e room_1 s m #[(.long q0), (.long q1), (.long q2)] below meth c T15 l15 1 2 ∧ Fr n0 l15 ∧ T15.heap = T4.heap ∧ v11 = (if v9 = (0 : Int32) then (0 : Int32) else (if (Fctn v2 v1 v2) = (0 : Int32) then (0 : Int32) else (1 : Int32))) ∧ Go p e below A0 (T15.setTop (mkF m 103 #[.val (.long q0), .second, .val (.long q1), .second, .val (.long q2), .second, .val (.long v1), .second, .val (.long v2), .second, .val (.ref b3), .val (.int v5), .val (.int v9)] [(.int v11)])) := by
    by_cases hc85_12 : v9 = (0 : Int32)
    · have go33 : Go p e below A0 (T11.setTop (mkF m 103 #[.val (.long q0), .second, .val (.long q1), .second, .val (.long q2), .second, .val (.long v1), .second, .val (.long v2), .second, .val (.ref b3), .val (.int v5), .val (.int v9)] [(.int (0 : Int32))])) := by
        intro t k
        refine go32 t ?_
        refine o_ifY X11 hx hby at_85 102 rfl (teq hc85_12).1 ?_
        refine o_iconst X11 hx hby at_102 103 rfl (v := (0 : Int32)) rfl ?_
        exact k
      exact ⟨T11, _, (0 : Int32), X11, N11, e11, (if_pos hc85_12).symm, go33⟩
    · obtain ⟨cq13, kq13, q13a, q13b, q13c⟩ := isOf hZ e11 f4
      obtain ⟨_, _, ⟨T13, L13, k13, n13⟩, -, X13, ⟨Lc13, hQ13, l13, y13, z13⟩, st13⟩ := X11.virtualBack hx (y := (⟨"com/example/calchas/calchas/model/Range", "contains", "(J)Z"⟩ : MethodName)) (z := (⟨"com/example/calchas/calchas/model/Range", "contains", "(J)Z"⟩ : MethodName)) hown (mvT hZ (hw _ (List.mem_of_getElem? (i := 25) rfl))) (mvT hZ (hw _ (List.mem_of_getElem? (i := 26) rfl))) (notFace_of_selects (args := #[]) (mvT hZ (hw _ (List.mem_of_getElem? (i := 28) rfl)))) (mvT hZ (hw _ (List.mem_of_getElem? (i := 28) rfl))) (mvT hZ (hw _ (List.mem_of_getElem? (i := 27) rfl))) (by decide) (backOf (W := 0) (rm6 l Z aw hw [] b3 v2 v1 v2 T4.heap n0 Zp4 (f5) (f6)) hZ (hw _ (List.mem_of_getElem? (i := 29) rfl)) (hw _ (List.mem_of_getElem? (i := 9) rfl)) (by decide) (by decide)) q13a q13c (g := (mkF m 92 #[.val (.long q0), .second, .val (.long q1), .second, .val (.long q2), .second, .val (.long v1), .second, .val (.long v2), .second, .val (.ref b3), .val (.int v5), .val (.int v9)] [(.long v2), (.ref b3)])) rfl (by rw [hml]; rfl) (Steps.refl _) (argsL := [(.long v2)]) (rest := []) (lenOf pd_5 rfl) rfl (by show 2 * 0 + _ ≤ _; exact Nat.le_of_eq rfl) (hb hby at_92) (fun _ _ => ⟨rfl, e11, (by decide : 1 + 0 ≤ _), (by decide : 2 + 0 ≤ _)⟩)
      dsimp only [Pt.U, Pt.locs, Pt.cells, Pt.slots] at X13 l13 y13 z13 st13 hQ13
      subst l13 y13 z13
      obtain ⟨rfl, N13q, e13⟩ := hQ13
      have N13 := Fr.app N11 N13q
      have go34 : Go p e below A0 (T13.setTop (mkF m 95 #[.val (.long q0), .second, .val (.long q1), .second, .val (.long q2), .second, .val (.long v1), .second, .val (.long v2), .second, .val (.ref b3), .val (.int v5), .val (.int v9)] [(.int (Fctn v2 v1 v2))])) := by
        intro t k
        refine go32 t ?_
        refine o_ifN X11 hx hby at_85 88 rfl (feq hc85_12).1 ?_
        refine o_aload X11 hx hby at_88 90 rfl rfl rfl ?_
        refine o_lload X11 hx hby at_90 92 rfl rfl ?_
        refine st13.trans ?_
        show Steps p.tables e below (T13.setTop (mkF m 95 #[.val (.long q0), .second, .val (.long q1), .second, .val (.long q2), .second, .val (.long v1), .second, .val (.long v2), .second, .val (.ref b3), .val (.int v5), .val (.int v9)] [(.int (Fctn v2 v1 v2))])) _
        exact k
      obtain ⟨v10, hv10, go37⟩ : ∃ (v10 : Int32), v10 = (if (Fctn v2 v1 v2) = (0 : Int32) then (0 : Int32) else (1 : Int32)) ∧ Go p e below A0 (T13.setTop (mkF m 103 #[.val (.long q0), .second, .val (.long q1), .second, .val (.long q2), .second, .val (.long v1), .second, .val (.long v2), .second, .val (.ref b3), .val (.int v5), .val (.int v9)] [(.int v10)])) := by
        by_cases hc95_14 : (Fctn v2 v1 v2) = (0 : Int32)
        · have go35 : Go p e below A0 (T13.setTop (mkF m 103 #[.val (.long q0), .second, .val (.long q1), .second, .val (.long q2), .second, .val (.long v1), .second, .val (.long v2), .second, .val (.ref b3), .val (.int v5), .val (.int v9)] [(.int (0 : Int32))])) := by
            intro t k
            refine go34 t ?_
            refine o_ifY X13 hx hby at_95 102 rfl (teq hc95_14).1 ?_
            refine o_iconst X13 hx hby at_102 103 rfl (v := (0 : Int32)) rfl ?_
            exact k
          exact ⟨(0 : Int32), (if_pos hc95_14).symm, go35⟩
        · have go36 : Go p e below A0 (T13.setTop (mkF m 103 #[.val (.long q0), .second, .val (.long q1), .second, .val (.long q2), .second, .val (.long v1), .second, .val (.long v2), .second, .val (.ref b3), .val (.int v5), .val (.int v9)] [(.int (1 : Int32))])) := by
            intro t k
            refine go34 t ?_
            refine o_ifN X13 hx hby at_95 98 rfl (feq hc95_14).1 ?_
            refine o_iconst X13 hx hby at_98 99 rfl (v := (1 : Int32)) rfl ?_
            refine o_goto X13 hx hby at_99 103 rfl ?_
            exact k
          exact ⟨(1 : Int32), (if_neg hc95_14).symm, go36⟩
      subst hv10
      exact ⟨T13, _, (if (Fctn v2 v1 v2) = (0 : Int32) then (0 : Int32) else (1 : Int32)), X13, N13, e13, (if_neg hc85_12).symm, go37⟩
  have go39 : Go p e below A0 (T15.setTop (mkF m 105 #[.val (.long q0), .second, .val (.long q1), .second, .val (.long q2), .second, .val (.long v1), .second, .val (.long v2), .second, .val (.ref b3), .val (.int v5), .val (.int v11)] [])) := by
    intro t k
    refine go38 t ?_
    refine o_istore X15 hx hby at_103 105 rfl (l' := #[.val (.long q0), .second, .val (.long q1), .second, .val (.long q2), .second, .val (.long v1), .second, .val (.long v2), .second, .val (.ref b3), .val (.int v5), .val (.int v11)]) rfl ?_
    exact k
  have go40 : Go p e below A0 (T15.setTop (mkF m 111 #[.val (.long q0), .second, .val (.long q1), .second, .val (.long q2), .second, .val (.long v1), .second, .val (.long v2), .second, .val (.ref b3), .val (.int v5), .val (.int v11)] [(.int (lcmpW v1 (-9223372036854775808 : Int64)))])) := by
    intro t k
    refine go39 t ?_
    refine o_lload X15 hx hby at_105 107 rfl rfl ?_
    refine o_ldc2Long X15 hx hby hown (mvT hZ (hw _ (List.mem_of_getElem? (i := 24) rfl))) at_107 110 rfl ?_
    refine o_lcmp X15 hx hby at_110 111 rfl ?_
    exact k
  obtain ⟨T21, l21, v14, X21, N21, e21, hv14, go50⟩ : ∃ (T21 : State) (l21 : List Loc) (v14 : Int32), Stand p l e room_1 s m #[(.long q0), (.long q1), (.long q2)] below meth c T21 l21 1 2 ∧ Fr n0 l21 ∧ T21.heap = T4.heap ∧ v14 = (if v1 = (-9223372036854775808 : Int64) then v11 else (if v11 = (0 : Int32) then (0 : Int32) else (if (Fctn (v1 - (1 : Int64)) v1 v2) = (0 : Int32) then (1 : Int32) else (0 : Int32)))) ∧ Go p e below A0 (T21.setTop (mkF m 138 #[.val (.long q0), .second, .val (.long q1), .second, .val (.long q2), .second, .val (.long v1), .second, .val (.long v2), .second, .val (.ref b3), .val (.int v5), .val (.int v14)] [])) := by
    by_cases hc111_16 : v1 = (-9223372036854775808 : Int64)
    · have go41 : Go p e below A0 (T15.setTop (mkF m 138 #[.val (.long q0), .second, .val (.long q1), .second, .val (.long q2), .second, .val (.long v1), .second, .val (.long v2), .second, .val (.ref b3), .val (.int v5), .val (.int v11)] [])) := by
        intro t k
        refine go40 t ?_
        refine o_ifY X15 hx hby at_111 138 rfl (teq ((lw_eq v1 (-9223372036854775808 : Int64)).mpr hc111_16)).1 ?_
        exact k
      exact ⟨T15, _, v11, X15, N15, e15, (if_pos hc111_16).symm, go41⟩
    · have go42 : Go p e below A0 (T15.setTop (mkF m 116 #[.val (.long q0), .second, .val (.long q1), .second, .val (.long q2), .second, .val (.long v1), .second, .val (.long v2), .second, .val (.ref b3), .val (.int v5), .val (.int v11)] [(.int v11)])) := by
        intro t k
        refine go40 t ?_
        refine o_ifN X15 hx hby at_111 114 rfl (feq (fun q => hc111_16 ((lw_eq v1 (-9223372036854775808 : Int64)).mp q))).1 ?_
        refine o_iload X15 hx hby at_114 116 rfl rfl ?_
        exact k
      obtain ⟨T20, l20, v13, X20, N20, e20, hv13, go48⟩ : ∃ (T20 : State) (l20 : List Loc) (v13 : Int32), Stand p l e room_1 s m #[(.long q0), (.long q1), (.long q2)] below meth c T20 l20 1 2 ∧ Fr n0 l20 ∧ T20.heap = T4.heap ∧ v13 = (if v11 = (0 : Int32) then (0 : Int32) else (if (Fctn (v1 - (1 : Int64)) v1 v2) = (0 : Int32) then (1 : Int32) else (0 : Int32))) ∧ Go p e below A0 (T20.setTop (mkF m 136 #[.val (.long q0), .second, .val (.long q1), .second, .val (.long q2), .second, .val (.long v1), .second, .val (.long v2), .second, .val (.ref b3), .val (.int v5), .val (.int v11)] [(.int v13)])) := by
        by_cases hc116_17 : v11 = (0 : Int32)
        · have go43 : Go p e below A0 (T15.setTop (mkF m 136 #[.val (.long q0), .second, .val (.long q1), .second, .val (.long q2), .second, .val (.long v1), .second, .val (.long v2), .second, .val (.ref b3), .val (.int v5), .val (.int v11)] [(.int (0 : Int32))])) := by
            intro t k
            refine go42 t ?_
            refine o_ifY X15 hx hby at_116 135 rfl (teq hc116_17).1 ?_
            refine o_iconst X15 hx hby at_135 136 rfl (v := (0 : Int32)) rfl ?_
            exact k
          exact ⟨T15, _, (0 : Int32), X15, N15, e15, (if_pos hc116_17).symm, go43⟩
        · obtain ⟨cq18, kq18, q18a, q18b, q18c⟩ := isOf hZ e15 f4
          obtain ⟨_, _, ⟨T18, L18, k18, n18⟩, -, X18, ⟨Lc18, hQ18, l18, y18, z18⟩, st18⟩ := X15.virtualBack hx (y := (⟨"com/example/calchas/calchas/model/Range", "contains", "(J)Z"⟩ : MethodName)) (z := (⟨"com/example/calchas/calchas/model/Range", "contains", "(J)Z"⟩ : MethodName)) hown (mvT hZ (hw _ (List.mem_of_getElem? (i := 25) rfl))) (mvT hZ (hw _ (List.mem_of_getElem? (i := 26) rfl))) (notFace_of_selects (args := #[]) (mvT hZ (hw _ (List.mem_of_getElem? (i := 28) rfl)))) (mvT hZ (hw _ (List.mem_of_getElem? (i := 28) rfl))) (mvT hZ (hw _ (List.mem_of_getElem? (i := 27) rfl))) (by decide) (backOf (W := 0) (rm6 l Z aw hw [] b3 ((v1 - (1 : Int64))) v1 v2 T4.heap n0 Zp4 (f5) (f6)) hZ (hw _ (List.mem_of_getElem? (i := 29) rfl)) (hw _ (List.mem_of_getElem? (i := 9) rfl)) (by decide) (by decide)) q18a q18c (g := (mkF m 125 #[.val (.long q0), .second, .val (.long q1), .second, .val (.long q2), .second, .val (.long v1), .second, .val (.long v2), .second, .val (.ref b3), .val (.int v5), .val (.int v11)] [(.long (v1 - (1 : Int64))), (.ref b3)])) rfl (by rw [hml]; rfl) (Steps.refl _) (argsL := [(.long (v1 - (1 : Int64)))]) (rest := []) (lenOf pd_5 rfl) rfl (by show 2 * 0 + _ ≤ _; exact Nat.le_of_eq rfl) (hb hby at_125) (fun _ _ => ⟨rfl, e15, (by decide : 1 + 0 ≤ _), (by decide : 2 + 0 ≤ _)⟩)
          dsimp only [Pt.U, Pt.locs, Pt.cells, Pt.slots] at X18 l18 y18 z18 st18 hQ18
          subst l18 y18 z18
          obtain ⟨rfl, N18q, e18⟩ := hQ18
          have N18 := Fr.app N15 N18q
          have go44 : Go p e below A0 (T18.setTop (mkF m 128 #[.val (.long q0), .second, .val (.long q1), .second, .val (.long q2), .second, .val (.long v1), .second, .val (.long v2), .second, .val (.ref b3), .val (.int v5), .val (.int v11)] [(.int (Fctn (v1 - (1 : Int64)) v1 v2))])) := by
            intro t k
            refine go42 t ?_
            refine o_ifN X15 hx hby at_116 119 rfl (feq hc116_17).1 ?_
            refine o_aload X15 hx hby at_119 121 rfl rfl rfl ?_
            refine o_lload X15 hx hby at_121 123 rfl rfl ?_
            refine o_lconst X15 hx hby at_123 124 rfl (v := (1 : Int64)) rfl ?_
            refine o_lsub X15 hx hby at_124 125 rfl ?_
            refine st18.trans ?_
            show Steps p.tables e below (T18.setTop (mkF m 128 #[.val (.long q0), .second, .val (.long q1), .second, .val (.long q2), .second, .val (.long v1), .second, .val (.long v2), .second, .val (.ref b3), .val (.int v5), .val (.int v11)] [(.int (Fctn (v1 - (1 : Int64)) v1 v2))])) _
            exact k
          obtain ⟨v12, hv12, go47⟩ : ∃ (v12 : Int32), v12 = (if (Fctn (v1 - (1 : Int64)) v1 v2) = (0 : Int32) then (1 : Int32) else (0 : Int32)) ∧ Go p e below A0 (T18.setTop (mkF m 136 #[.val (.long q0), .second, .val (.long q1), .second, .val (.long q2), .second, .val (.long v1), .second, .val (.long v2), .second, .val (.ref b3), .val (.int v5), .val (.int v11)] [(.int v12)])) := by
            by_cases hc128_19 : (Fctn (v1 - (1 : Int64)) v1 v2) = (0 : Int32)
            · have go45 : Go p e below A0 (T18.setTop (mkF m 136 #[.val (.long q0), .second, .val (.long q1), .second, .val (.long q2), .second, .val (.long v1), .second, .val (.long v2), .second, .val (.ref b3), .val (.int v5), .val (.int v11)] [(.int (1 : Int32))])) := by
                intro t k
                refine go44 t ?_
                refine o_ifN X18 hx hby at_128 131 rfl (teq hc128_19).2 ?_
                refine o_iconst X18 hx hby at_131 132 rfl (v := (1 : Int32)) rfl ?_
                refine o_goto X18 hx hby at_132 136 rfl ?_
                exact k
              exact ⟨(1 : Int32), (if_pos hc128_19).symm, go45⟩
            · have go46 : Go p e below A0 (T18.setTop (mkF m 136 #[.val (.long q0), .second, .val (.long q1), .second, .val (.long q2), .second, .val (.long v1), .second, .val (.long v2), .second, .val (.ref b3), .val (.int v5), .val (.int v11)] [(.int (0 : Int32))])) := by
                intro t k
                refine go44 t ?_
                refine o_ifY X18 hx hby at_128 135 rfl (feq hc128_19).2 ?_
                refine o_iconst X18 hx hby at_135 136 rfl (v := (0 : Int32)) rfl ?_
                exact k
              exact ⟨(0 : Int32), (if_neg hc128_19).symm, go46⟩
          subst hv12
          exact ⟨T18, _, (if (Fctn (v1 - (1 : Int64)) v1 v2) = (0 : Int32) then (1 : Int32) else (0 : Int32)), X18, N18, e18, (if_neg hc116_17).symm, go47⟩
      subst hv13
      have go49 : Go p e below A0 (T20.setTop (mkF m 138 #[.val (.long q0), .second, .val (.long q1), .second, .val (.long q2), .second, .val (.long v1), .second, .val (.long v2), .second, .val (.ref b3), .val (.int v5), .val (.int (if v11 = (0 : Int32) then (0 : Int32) else (if (Fctn (v1 - (1 : Int64)) v1 v2) = (0 : Int32) then (1 : Int32) else (0 : Int32))))] [])) := by
        intro t k
        refine go48 t ?_
        refine o_istore X20 hx hby at_136 138 rfl (l' := #[.val (.long q0), .second, .val (.long q1), .second, .val (.long q2), .second, .val (.long v1), .second, .val (.long v2), .second, .val (.ref b3), .val (.int v5), .val (.int (if v11 = (0 : Int32) then (0 : Int32) else (if (Fctn (v1 - (1 : Int64)) v1 v2) = (0 : Int32) then (1 : Int32) else (0 : Int32))))]) rfl ?_
        exact k
      exact ⟨T20, _, (if v11 = (0 : Int32) then (0 : Int32) else (if (Fctn (v1 - (1 : Int64)) v1 v2) = (0 : Int32) then (1 : Int32) else (0 : Int32))), X20, N20, e20, (if_neg hc111_16).symm, go49⟩
  have go51 : Go p e below A0 (T21.setTop (mkF m 144 #[.val (.long q0), .second, .val (.long q1), .second, .val (.long q2), .second, .val (.long v1), .second, .val (.long v2), .second, .val (.ref b3), .val (.int v5), .val (.int v14)] [(.int (lcmpW v2 (9223372036854775807 : Int64)))])) := by
    intro t k
    refine go50 t ?_
    refine o_lload X21 hx hby at_138 140 rfl rfl ?_
    refine o_ldc2Long X21 hx hby hown (mvT hZ (hw _ (List.mem_of_getElem? (i := 30) rfl))) at_140 143 rfl ?_
    refine o_lcmp X21 hx hby at_143 144 rfl ?_
    exact k
  obtain ⟨T27, l27, v17, X27, N27, e27, hv17, go61⟩ : ∃ (T27 : State) (l27 : List Loc) (v17 : Int32), Stand p l e room_1 s m #[(.long q0), (.long q1), (.long q2)] below meth c T27 l27 1 2 ∧ Fr n0 l27 ∧ T27.heap = T4.heap ∧ v17 = (if v2 = (9223372036854775807 : Int64) then v14 else (if v14 = (0 : Int32) then (0 : Int32) else (if (Fctn (v2 + (1 : Int64)) v1 v2) = (0 : Int32) then (1 : Int32) else (0 : Int32)))) ∧ Go p e below A0 (T27.setTop (mkF m 171 #[.val (.long q0), .second, .val (.long q1), .second, .val (.long q2), .second, .val (.long v1), .second, .val (.long v2), .second, .val (.ref b3), .val (.int v5), .val (.int v17)] [])) := by
    by_cases hc144_22 : v2 = (9223372036854775807 : Int64)
    · have go52 : Go p e below A0 (T21.setTop (mkF m 171 #[.val (.long q0), .second, .val (.long q1), .second, .val (.long q2), .second, .val (.long v1), .second, .val (.long v2), .second, .val (.ref b3), .val (.int v5), .val (.int v14)] [])) := by
        intro t k
        refine go51 t ?_
        refine o_ifY X21 hx hby at_144 171 rfl (teq ((lw_eq v2 (9223372036854775807 : Int64)).mpr hc144_22)).1 ?_
        exact k
      exact ⟨T21, _, v14, X21, N21, e21, (if_pos hc144_22).symm, go52⟩
    · have go53 : Go p e below A0 (T21.setTop (mkF m 149 #[.val (.long q0), .second, .val (.long q1), .second, .val (.long q2), .second, .val (.long v1), .second, .val (.long v2), .second, .val (.ref b3), .val (.int v5), .val (.int v14)] [(.int v14)])) := by
        intro t k
        refine go51 t ?_
        refine o_ifN X21 hx hby at_144 147 rfl (feq (fun q => hc144_22 ((lw_eq v2 (9223372036854775807 : Int64)).mp q))).1 ?_
        refine o_iload X21 hx hby at_147 149 rfl rfl ?_
        exact k
      obtain ⟨T26, l26, v16, X26, N26, e26, hv16, go59⟩ : ∃ (T26 : State) (l26 : List Loc) (v16 : Int32), Stand p l e room_1 s m #[(.long q0), (.long q1), (.long q2)] below meth c T26 l26 1 2 ∧ Fr n0 l26 ∧ T26.heap = T4.heap ∧ v16 = (if v14 = (0 : Int32) then (0 : Int32) else (if (Fctn (v2 + (1 : Int64)) v1 v2) = (0 : Int32) then (1 : Int32) else (0 : Int32))) ∧ Go p e below A0 (T26.setTop (mkF m 169 #[.val (.long q0), .second, .val (.long q1), .second, .val (.long q2), .second, .val (.long v1), .second, .val (.long v2), .second, .val (.ref b3), .val (.int v5), .val (.int v14)] [(.int v16)])) := by
        by_cases hc149_23 : v14 = (0 : Int32)
        · have go54 : Go p e below A0 (T21.setTop (mkF m 169 #[.val (.long q0), .second, .val (.long q1), .second, .val (.long q2), .second, .val (.long v1), .second, .val (.long v2), .second, .val (.ref b3), .val (.int v5), .val (.int v14)] [(.int (0 : Int32))])) := by
            intro t k
            refine go53 t ?_
            refine o_ifY X21 hx hby at_149 168 rfl (teq hc149_23).1 ?_
            refine o_iconst X21 hx hby at_168 169 rfl (v := (0 : Int32)) rfl ?_
            exact k
          exact ⟨T21, _, (0 : Int32), X21, N21, e21, (if_pos hc149_23).symm, go54⟩
        · obtain ⟨cq24, kq24, q24a, q24b, q24c⟩ := isOf hZ e21 f4
          obtain ⟨_, _, ⟨T24, L24, k24, n24⟩, -, X24, ⟨Lc24, hQ24, l24, y24, z24⟩, st24⟩ := X21.virtualBack hx (y := (⟨"com/example/calchas/calchas/model/Range", "contains", "(J)Z"⟩ : MethodName)) (z := (⟨"com/example/calchas/calchas/model/Range", "contains", "(J)Z"⟩ : MethodName)) hown (mvT hZ (hw _ (List.mem_of_getElem? (i := 25) rfl))) (mvT hZ (hw _ (List.mem_of_getElem? (i := 26) rfl))) (notFace_of_selects (args := #[]) (mvT hZ (hw _ (List.mem_of_getElem? (i := 28) rfl)))) (mvT hZ (hw _ (List.mem_of_getElem? (i := 28) rfl))) (mvT hZ (hw _ (List.mem_of_getElem? (i := 27) rfl))) (by decide) (backOf (W := 0) (rm6 l Z aw hw [] b3 ((v2 + (1 : Int64))) v1 v2 T4.heap n0 Zp4 (f5) (f6)) hZ (hw _ (List.mem_of_getElem? (i := 29) rfl)) (hw _ (List.mem_of_getElem? (i := 9) rfl)) (by decide) (by decide)) q24a q24c (g := (mkF m 158 #[.val (.long q0), .second, .val (.long q1), .second, .val (.long q2), .second, .val (.long v1), .second, .val (.long v2), .second, .val (.ref b3), .val (.int v5), .val (.int v14)] [(.long (v2 + (1 : Int64))), (.ref b3)])) rfl (by rw [hml]; rfl) (Steps.refl _) (argsL := [(.long (v2 + (1 : Int64)))]) (rest := []) (lenOf pd_5 rfl) rfl (by show 2 * 0 + _ ≤ _; exact Nat.le_of_eq rfl) (hb hby at_158) (fun _ _ => ⟨rfl, e21, (by decide : 1 + 0 ≤ _), (by decide : 2 + 0 ≤ _)⟩)
          dsimp only [Pt.U, Pt.locs, Pt.cells, Pt.slots] at X24 l24 y24 z24 st24 hQ24
          subst l24 y24 z24
          obtain ⟨rfl, N24q, e24⟩ := hQ24
          have N24 := Fr.app N21 N24q
          have go55 : Go p e below A0 (T24.setTop (mkF m 161 #[.val (.long q0), .second, .val (.long q1), .second, .val (.long q2), .second, .val (.long v1), .second, .val (.long v2), .second, .val (.ref b3), .val (.int v5), .val (.int v14)] [(.int (Fctn (v2 + (1 : Int64)) v1 v2))])) := by
            intro t k
            refine go53 t ?_
            refine o_ifN X21 hx hby at_149 152 rfl (feq hc149_23).1 ?_
            refine o_aload X21 hx hby at_152 154 rfl rfl rfl ?_
            refine o_lload X21 hx hby at_154 156 rfl rfl ?_
            refine o_lconst X21 hx hby at_156 157 rfl (v := (1 : Int64)) rfl ?_
            refine o_ladd X21 hx hby at_157 158 rfl ?_
            refine st24.trans ?_
            show Steps p.tables e below (T24.setTop (mkF m 161 #[.val (.long q0), .second, .val (.long q1), .second, .val (.long q2), .second, .val (.long v1), .second, .val (.long v2), .second, .val (.ref b3), .val (.int v5), .val (.int v14)] [(.int (Fctn (v2 + (1 : Int64)) v1 v2))])) _
            exact k
          obtain ⟨v15, hv15, go58⟩ : ∃ (v15 : Int32), v15 = (if (Fctn (v2 + (1 : Int64)) v1 v2) = (0 : Int32) then (1 : Int32) else (0 : Int32)) ∧ Go p e below A0 (T24.setTop (mkF m 169 #[.val (.long q0), .second, .val (.long q1), .second, .val (.long q2), .second, .val (.long v1), .second, .val (.long v2), .second, .val (.ref b3), .val (.int v5), .val (.int v14)] [(.int v15)])) := by
            by_cases hc161_25 : (Fctn (v2 + (1 : Int64)) v1 v2) = (0 : Int32)
            · have go56 : Go p e below A0 (T24.setTop (mkF m 169 #[.val (.long q0), .second, .val (.long q1), .second, .val (.long q2), .second, .val (.long v1), .second, .val (.long v2), .second, .val (.ref b3), .val (.int v5), .val (.int v14)] [(.int (1 : Int32))])) := by
                intro t k
                refine go55 t ?_
                refine o_ifN X24 hx hby at_161 164 rfl (teq hc161_25).2 ?_
                refine o_iconst X24 hx hby at_164 165 rfl (v := (1 : Int32)) rfl ?_
                refine o_goto X24 hx hby at_165 169 rfl ?_
                exact k
              exact ⟨(1 : Int32), (if_pos hc161_25).symm, go56⟩
            · have go57 : Go p e below A0 (T24.setTop (mkF m 169 #[.val (.long q0), .second, .val (.long q1), .second, .val (.long q2), .second, .val (.long v1), .second, .val (.long v2), .second, .val (.ref b3), .val (.int v5), .val (.int v14)] [(.int (0 : Int32))])) := by
                intro t k
                refine go55 t ?_
                refine o_ifY X24 hx hby at_161 168 rfl (feq hc161_25).2 ?_
                refine o_iconst X24 hx hby at_168 169 rfl (v := (0 : Int32)) rfl ?_
                exact k
              exact ⟨(0 : Int32), (if_neg hc161_25).symm, go57⟩
          subst hv15
          exact ⟨T24, _, (if (Fctn (v2 + (1 : Int64)) v1 v2) = (0 : Int32) then (1 : Int32) else (0 : Int32)), X24, N24, e24, (if_neg hc149_23).symm, go58⟩
      subst hv16
      have go60 : Go p e below A0 (T26.setTop (mkF m 171 #[.val (.long q0), .second, .val (.long q1), .second, .val (.long q2), .second, .val (.long v1), .second, .val (.long v2), .second, .val (.ref b3), .val (.int v5), .val (.int (if v14 = (0 : Int32) then (0 : Int32) else (if (Fctn (v2 + (1 : Int64)) v1 v2) = (0 : Int32) then (1 : Int32) else (0 : Int32))))] [])) := by
        intro t k
        refine go59 t ?_
        refine o_istore X26 hx hby at_169 171 rfl (l' := #[.val (.long q0), .second, .val (.long q1), .second, .val (.long q2), .second, .val (.long v1), .second, .val (.long v2), .second, .val (.ref b3), .val (.int v5), .val (.int (if v14 = (0 : Int32) then (0 : Int32) else (if (Fctn (v2 + (1 : Int64)) v1 v2) = (0 : Int32) then (1 : Int32) else (0 : Int32))))]) rfl ?_
        exact k
      exact ⟨T26, _, (if v14 = (0 : Int32) then (0 : Int32) else (if (Fctn (v2 + (1 : Int64)) v1 v2) = (0 : Int32) then (1 : Int32) else (0 : Int32))), X26, N26, e26, (if_neg hc144_22).symm, go60⟩
  have go62 : Go p e below A0 (T27.setTop (mkF m 173 #[.val (.long q0), .second, .val (.long q1), .second, .val (.long q2), .second, .val (.long v1), .second, .val (.long v2), .second, .val (.ref b3), .val (.int v5), .val (.int v17)] [(.int v17)])) := by
    intro t k
    refine go61 t ?_
    refine o_iload X27 hx hby at_171 173 rfl rfl ?_
    exact k
  obtain rfl : v17 = (1 : Int32) := pl_0_0 q0 q1 q2 v1 v2 v3 v4 v5 v6 v7 v9 v11 v14 v17 hv1 hv2 hv3 hv4 hv5 hv6 hv7 hv9 hv11 hv14 hv17
  subst hA0
  obtain ⟨fs, hr, hrun, hended, hW, hsame⟩ := X27.leave (v := some (.int (1 : Int32))) (fun h => by rw [Bd.returns] at h; cases h)
  refine ⟨_, _, go62 _ (o_retZ X27 hx Bd.returns (hb hby at_173) (Or.inr rfl) hr), hrun, hended, _, _, rfl, ?_, ⟨_, rfl⟩, hW, hsame.mono (by decide) (by decide)⟩
  show Q0 Z q0 q1 q2 h0 n0 _ T27.heap _
  rw [e27]
  exact ⟨rfl, N27⟩
set_option maxRecDepth 65536 in
set_option maxHeartbeats 40000000 in
theorem comes_1 {Post : Tables → Env → Array Value → State → Outcome → State → Prop} (hpost : ∀ tb e args s v u, (limb_1_1.after args s (.returned v) u = true ∧ limb_1_2.after args s (.returned v) u = true ∧ True) → FrameEnd s (.returned v) u (Jvm.fieldLocs frame_1_writes args s ++ Jvm.arrayLocs frame_1_arrays args s ++ Jvm.staticLocs frame_1_statics s) 16 128 → Post tb e args s (.returned v) u) :
    ArmFor flags0 classFile x code maxLocals ret World_1 tables_1 room_1 Calls_1 rest_1 Pre_1 Post := by
  intro l hfl _ _ p e ha hc hk s m args below hf hA hF happ hP
  obtain ⟨hcalls, hrest, hpre⟩ := hP
  obtain ⟨-, -, -, hnamed, -, -, -, hat⟩ := (Spec.applies_iff hf).mp happ
  obtain ⟨hg, hn⟩ := and_e (Cond.before_iff.mp (show (Jvm.Cond.and given_1 narrow_1).before args s = true from hpre))
  obtain ⟨g1, g2⟩ := and_e hg
  obtain ⟨g3, g4⟩ := and_e g2
  obtain ⟨g5, g6⟩ := and_e g4
  obtain ⟨w0, w1, w2, rfl⟩ : ∃ w0 w1 w2 : Value, args = #[w0, w1, w2] := by
    have hs : args.size = 3 := by simpa [Cond.value, given_1] using g1
    obtain ⟨L⟩ := args
    match L, hs with
    | [w0, w1, w2], _ => exact ⟨w0, w1, w2, rfl⟩
  have hw := fun d (hd : d ∈ tables_1) => atoms_spec (ws := Jvm.Cond.code x code maxLocals ret :: tables_1) hat d (List.mem_cons_of_mem _ hd)
  have hfit : Fit s := fun {y c} hc i hi => by
    obtain ⟨ha, rfl⟩ := Array.getElem?_eq_some_iff.mp hc
    have q := List.all_eq_true.mp ((Array.all_eq_true_iff_forall_mem.mp hF) _ (Array.getElem_mem ha)) i (List.mem_range.mpr hi)
    simpa [Array.getElem?_eq_getElem hi] using q
  obtain ⟨i0, ei0⟩ := isL_v g3
  obtain rfl : w0 = (.long i0) := Option.some.inj ei0
  obtain ⟨i1, ei1⟩ := isL_v g5
  obtain rfl : w1 = (.long i1) := Option.some.inj ei1
  obtain ⟨i2, ei2⟩ := isL_v g6
  obtain rfl : w2 = (.long i2) := Option.some.inj ei2
  obtain ⟨n, o, h1, h2, h3, _, L, rfl, ⟨rfl, N⟩, hq⟩ := rm0 l s _ hw tables_1 i0 i1 i2 s.heap s.heap.size (Nat.le_refl _)  p e ha hc hk s m _ below hf ((Spec.applies_iff_loose hf).mp happ).1 ⟨rfl, State.Warmed39.refl s, rfl⟩ trivial
  refine ⟨n, _, h1, h2, h3, hpost _ _ _ _ _ _ ⟨Cond.after_iff.mpr rfl, Cond.after_iff.mpr (eq_i res_at (Term.int_eval (1)) rfl), trivial⟩ ⟨hq.1, hq.2.1, (hq.2.2.sift fun y hy => Or.inr (N y hy)).mono (by decide) (by decide)⟩⟩
theorem main_1_1 : Claimed_1_1 := comes_1 fun _ _ _ _ _ _ h hF => ⟨h.1, hF⟩
theorem main_1_2 : Claimed_1_2 := comes_1 fun _ _ _ _ _ _ h hF => ⟨h.2.1, hF⟩
end Jvm.Pilot.@@N@@
namespace Jvm.Pilot.@@N@@
open Jvm Jvm.ClassFile Sem Op Lib Jvm.Free Jvm.Stand Jvm.Pilot.@@N@@.Jvm.D
/-! MADE BY PROGRAM (witnessworld.py) out of the Statement's table words and the real class files: 10 classes; the members and pool entries that the words name. The judged class is class 1, her method 2. -/
namespace start1
open Jvm.ClassFile
def u (s : String) : CpInfo := .utf8 (stringToUtf16 s)
/-- a pool by its gaps: so many unusable entries, then the entry; so many at the end -/
def gap : Nat → List CpInfo → List CpInfo
  | 0, r => r
  | n + 1, r => .unusable :: gap n r
def poolList (es : List (Nat × CpInfo)) (last : Nat) : List CpInfo := es.foldr (fun e r => gap e.1 (e.2 :: r)) (gap last [])
def pool (es : List (Nat × CpInfo)) (last : Nat) : Array CpInfo := ⟨poolList es last⟩
def fileOf (pool : Array CpInfo) (this : Nat) (attrs : Array Attribute := #[]) (ms : Array MethodInfo := #[]) (fl : Nat := 33) (sup : Nat := 0) (ifs : Array Nat := #[]) (fds : Array FieldInfo := #[]) : ClassFile where
  minorVersion := 0
  majorVersion := 65
  constantPool := pool
  accessFlags := fl
  thisClass := this
  superClass := sup
  interfaces := ifs
  fields := fds
  methods := ms
  attributes := attrs
def plain (name : String) (sup : Option ClassId) : Class where
  name := name
  kind := .ordinary
  loader := none
  accessFlags := 33
  super := sup
  interfaces := #[]
  cf := none
  fields := #[]
  methods := #[]
  instanceTypes := #[]
  staticTypes := #[]
  resolved := #[]
  callSites := []
  init := .initialized
  statics := none
  mirror := none

def pool0 : Array CpInfo := pool [(5, u "<init>"), (0, u "()V"), (1, .class_ 10), (1, u "java/lang/Object")] 113

def k0c0 : Code := { maxStack := 0, maxLocals := 1, code := object_method_1_code, exceptionTable := #[], attributes := #[] }
def k0m0 : Method := { name := "<init>", desc := "()V", sig := { parameters := [], returnType := none }, accessFlags := 1, code := some k0c0 }
/-- java/lang/Object -/
def k0 : Class := { plain "java/lang/Object" none with
  accessFlags := 33
  interfaces := #[]
  cf := some (fileOf pool0 8 #[] #[{ accessFlags := 1, nameIndex := 5, descriptorIndex := 6, attributes := #[] }] 33 0 #[] #[])
  fields := #[]
  methods := #[k0m0]
  instanceTypes := #[]
  staticTypes := #[]
  resolved := Array.replicate 124 none
  statics := none }

def pool1 : Array CpInfo := pool [(2, .class_ 4), (1, u "java/lang/Object"), (0, u "<init>"), (0, u "()V"), (2, .long 9223372036854775808), (1, .methodref 12 13), (0, .class_ 14), (0, .nameAndType 15 16), (0, u "java/lang/Math"), (0, u "min"), (0, u "(JJ)J"), (0, .methodref 12 18), (0, .nameAndType 19 16), (0, u "max"), (0, .class_ 21), (0, u "com/example/calchas/calchas/model/Range"), (0, .methodref 20 23), (0, .nameAndType 5 24), (0, u "(JJ)V"), (0, .methodref 26 27), (0, .class_ 28), (0, .nameAndType 29 30), (0, u "com/example/calchas/calchas/model/RangeContainsPinLaw"), (0, u "unsignedLe"), (0, u "(JJ)Z"), (0, .methodref 20 32), (0, .nameAndType 33 34), (0, u "contains"), (0, u "(J)Z"), (0, .long 9223372036854775807), (4, u "law"), (0, u "(JJJ)Z")] 2

def k1m0 : Method := { name := "<init>", desc := "()V", sig := { parameters := [], returnType := none }, accessFlags := 1, code := none }
def k1c1 : Code := { maxStack := 6, maxLocals := 4, code := method_2_code, exceptionTable := #[], attributes := #[] }
def k1m1 : Method := { name := "unsignedLe", desc := "(JJ)Z", sig := { parameters := [.long, .long], returnType := some .boolean }, accessFlags := 10, code := some k1c1 }
def k1c2 : Code := { maxStack := 6, maxLocals := 13, code := code, exceptionTable := #[], attributes := #[] }
def k1m2 : Method := { name := "law", desc := "(JJJ)Z", sig := { parameters := [.long, .long, .long], returnType := some .boolean }, accessFlags := 9, code := some k1c2 }
/-- com/example/calchas/calchas/model/RangeContainsPinLaw -/
def k1 : Class := { plain "com/example/calchas/calchas/model/RangeContainsPinLaw" (some 0) with
  accessFlags := 49
  interfaces := #[]
  cf := some (fileOf pool1 26 #[] #[{ accessFlags := 1, nameIndex := 5, descriptorIndex := 6, attributes := #[] }, { accessFlags := 10, nameIndex := 29, descriptorIndex := 30, attributes := #[] }, { accessFlags := 9, nameIndex := 40, descriptorIndex := 41, attributes := #[] }] 49 2 #[] #[])
  fields := #[]
  methods := #[k1m0, k1m1, k1m2]
  instanceTypes := #[]
  staticTypes := #[]
  resolved := Array.replicate 44 none
  statics := none }

def pool2 : Array CpInfo := pool [(1, .class_ 2), (0, u "java/lang/Math"), (1, .class_ 6), (1, u "java/lang/Object"), (0, u "<init>"), (0, u "()V"), (89, .class_ 100), (1, u "java/lang/Math$RandomNumberGeneratorHolder"), (20, u "(JJ)J"), (50, u "negativeZeroFloatBits"), (0, u "J"), (2, u "negativeZeroDoubleBits"), (21, u "max"), (2, u "min"), (43, u "$assertionsDisabled"), (0, u "Z"), (91, u "twoToTheDoubleScaleDown"), (0, u "D"), (4, u "twoToTheDoubleScaleUp"), (9, u "E"), (3, u "PI"), (2, u "TAU"), (2, u "DEGREES_TO_RADIANS"), (0, u "RADIANS_TO_DEGREES")] 94

def k2m0 : Method := { name := "<init>", desc := "()V", sig := { parameters := [], returnType := none }, accessFlags := 2, code := none }
def k2c1 : Code := { maxStack := 4, maxLocals := 4, code := jdk_29_method_66_code, exceptionTable := #[], attributes := #[] }
def k2m1 : Method := { name := "max", desc := "(JJ)J", sig := { parameters := [.long, .long], returnType := some .long }, accessFlags := 9, code := some k2c1 }
def k2c2 : Code := { maxStack := 4, maxLocals := 4, code := jdk_29_method_70_code, exceptionTable := #[], attributes := #[] }
def k2m2 : Method := { name := "min", desc := "(JJ)J", sig := { parameters := [.long, .long], returnType := some .long }, accessFlags := 9, code := some k2c2 }
/-- java/lang/Math -/
def k2 : Class := { plain "java/lang/Math" (some 0) with
  accessFlags := 49
  interfaces := #[]
  cf := some (fileOf pool2 1 #[.nestMembers #[98]] #[{ accessFlags := 2, nameIndex := 7, descriptorIndex := 8, attributes := #[] }, { accessFlags := 9, nameIndex := 198, descriptorIndex := 121, attributes := #[] }, { accessFlags := 9, nameIndex := 201, descriptorIndex := 121, attributes := #[] }] 49 4 #[] #[{ accessFlags := 25, nameIndex := 354, descriptorIndex := 339, attributes := #[] }, { accessFlags := 25, nameIndex := 358, descriptorIndex := 339, attributes := #[] }, { accessFlags := 25, nameIndex := 361, descriptorIndex := 339, attributes := #[] }, { accessFlags := 26, nameIndex := 364, descriptorIndex := 339, attributes := #[] }, { accessFlags := 26, nameIndex := 365, descriptorIndex := 339, attributes := #[] }, { accessFlags := 26, nameIndex := 172, descriptorIndex := 173, attributes := #[] }, { accessFlags := 26, nameIndex := 176, descriptorIndex := 173, attributes := #[] }, { accessFlags := 8, nameIndex := 344, descriptorIndex := 339, attributes := #[] }, { accessFlags := 8, nameIndex := 338, descriptorIndex := 339, attributes := #[] }, { accessFlags := 4120, nameIndex := 245, descriptorIndex := 246, attributes := #[] }])
  fields := #[{ name := "E", type := .double, accessFlags := 25, slot := 0, constantValue := 0 }, { name := "PI", type := .double, accessFlags := 25, slot := 1, constantValue := 0 }, { name := "TAU", type := .double, accessFlags := 25, slot := 2, constantValue := 0 }, { name := "DEGREES_TO_RADIANS", type := .double, accessFlags := 26, slot := 3, constantValue := 0 }, { name := "RADIANS_TO_DEGREES", type := .double, accessFlags := 26, slot := 4, constantValue := 0 }, { name := "negativeZeroFloatBits", type := .long, accessFlags := 26, slot := 5, constantValue := 0 }, { name := "negativeZeroDoubleBits", type := .long, accessFlags := 26, slot := 6, constantValue := 0 }, { name := "twoToTheDoubleScaleUp", type := .double, accessFlags := 8, slot := 7, constantValue := 0 }, { name := "twoToTheDoubleScaleDown", type := .double, accessFlags := 8, slot := 8, constantValue := 0 }, { name := "$assertionsDisabled", type := .boolean, accessFlags := 4120, slot := 9, constantValue := 0 }]
  methods := #[k2m0, k2m1, k2m2]
  instanceTypes := #[]
  staticTypes := #[.double, .double, .double, .double, .double, .long, .long, .double, .double, .boolean]
  resolved := Array.replicate 460 none
  statics := none }

def pool3 : Array CpInfo := pool [(1, .methodref 2 3), (0, .class_ 4), (0, .nameAndType 5 6), (0, u "java/lang/Object"), (0, u "<init>"), (0, u "()V"), (0, .fieldref 8 9), (0, .class_ 10), (0, .nameAndType 11 12), (0, u "com/example/calchas/calchas/model/Range"), (0, u "low"), (0, u "J"), (0, .fieldref 8 14), (0, .nameAndType 15 12), (0, u "high"), (4, u "(JJ)V"), (3, u "contains"), (0, u "(J)Z")] 20

def k3c0 : Code := { maxStack := 3, maxLocals := 5, code := prog_70_method_1_code, exceptionTable := #[], attributes := #[] }
def k3m0 : Method := { name := "<init>", desc := "(JJ)V", sig := { parameters := [.long, .long], returnType := none }, accessFlags := 1, code := some k3c0 }
def k3c1 : Code := { maxStack := 4, maxLocals := 3, code := prog_70_method_4_code, exceptionTable := #[], attributes := #[] }
def k3m1 : Method := { name := "contains", desc := "(J)Z", sig := { parameters := [.long], returnType := some .boolean }, accessFlags := 1, code := some k3c1 }
/-- com/example/calchas/calchas/model/Range -/
def k3 : Class := { plain "com/example/calchas/calchas/model/Range" (some 0) with
  accessFlags := 33
  interfaces := #[]
  cf := some (fileOf pool3 8 #[] #[{ accessFlags := 1, nameIndex := 5, descriptorIndex := 20, attributes := #[] }, { accessFlags := 1, nameIndex := 24, descriptorIndex := 25, attributes := #[] }] 33 2 #[] #[{ accessFlags := 18, nameIndex := 11, descriptorIndex := 12, attributes := #[] }, { accessFlags := 18, nameIndex := 15, descriptorIndex := 12, attributes := #[] }])
  fields := #[{ name := "low", type := .long, accessFlags := 18, slot := 0, constantValue := 0 }, { name := "high", type := .long, accessFlags := 18, slot := 1, constantValue := 0 }]
  methods := #[k3m0, k3m1]
  instanceTypes := #[.long, .long]
  staticTypes := #[]
  resolved := Array.replicate 46 none
  statics := none }

def pool4 : Array CpInfo := pool [(1, u "java/lang/Cloneable"), (0, .class_ 1), (0, u "java/lang/Object"), (0, .class_ 3)] 3

/-- java/lang/Cloneable -/
def k4 : Class := { plain "java/lang/Cloneable" (some 0) with
  accessFlags := 1537
  interfaces := #[]
  cf := some (fileOf pool4 2 #[] #[] 1537 4 #[] #[])
  fields := #[]
  methods := #[]
  instanceTypes := #[]
  staticTypes := #[]
  resolved := Array.replicate 8 none
  statics := none }

def pool5 : Array CpInfo := pool [(1, u "java/io/Serializable"), (0, .class_ 1), (0, u "java/lang/Object"), (0, .class_ 3)] 3

/-- java/io/Serializable -/
def k5 : Class := { plain "java/io/Serializable" (some 0) with
  accessFlags := 1537
  interfaces := #[]
  cf := some (fileOf pool5 2 #[] #[] 1537 4 #[] #[])
  fields := #[]
  methods := #[]
  instanceTypes := #[]
  staticTypes := #[]
  resolved := Array.replicate 8 none
  statics := none }

/-- the primitive byte -/
def k6 : Class := { plain "byte" none with kind := .primitive 'B', accessFlags := 0x411 }
/-- [B -/
def k7 : Class := { plain "[B" (some 0) with kind := .array 6 .byte, interfaces := #[4, 5], accessFlags := 1041 }

/-- the primitive int -/
def k8 : Class := { plain "int" none with kind := .primitive 'I', accessFlags := 0x411 }
/-- [I -/
def k9 : Class := { plain "[I" (some 0) with kind := .array 8 .int, interfaces := #[4, 5], accessFlags := 1041 }

def heap : Heap := #[]
def classes : Array Class := #[k0, k1, k2, k3, k4, k5, k6, k7, k8, k9]
def interned : List (Array UInt16 × Addr) := []
def slotsUsed : Nat := 0
def theMethod : MethodId := ⟨1, 2⟩
def args0 : Array Value := #[.long 5, .long 7, .long 9]
def aboutOver (below : List Frame) : State where
  vm := { classes := classes, interned := interned.toArray }
  heap := heap
  slotsUsed := slotsUsed
  threads := #[{ frames := .invoking theMethod args0 :: below }]
def below0 : List Frame := [.native { method := ⟨0, 0⟩, args := #[] }]
def about1 : State := aboutOver below0
def p0 : Program := .bare "" "" ""
def e0 : Env := launch0.env 0 0 0
theorem w_frames : about1.frames = Frame.invoking theMethod args0 :: below0 := rfl
set_option maxRecDepth 65536 in
theorem w_args : argsFit about1.vm theMethod args0 = true := by decide +kernel
set_option maxRecDepth 65536 in
theorem w_heap : heapFits about1 = true := by decide +kernel
set_option maxRecDepth 65536 in
theorem w_runnable : about1.curStatus? = some .runnable := by decide +kernel
set_option maxRecDepth 65536 in
theorem w_alone : about1.alone = true := by decide +kernel
set_option maxRecDepth 65536 in
theorem w_named : about1.methodNamed? x = some theMethod := by decide +kernel
set_option maxRecDepth 65536 in
theorem w_hears : about1.hears theMethod below0 = true := by decide +kernel
set_option maxRecDepth 65536 in
theorem w_ripe : about1.ripe theMethod args0 below0 = true := by decide +kernel
theorem w_running : about1.status = .running := rfl
set_option maxRecDepth 65536 in
theorem w_room : about1.hasRoom e0.platform room_1 = true :=
  launch0.hasRoom_least _ room_1 (by decide +kernel) (by decide +kernel) (by decide +kernel) (by decide +kernel) (by decide +kernel) (by decide +kernel)
theorem allAtoms_all (ts : List Jvm.Cond) (a : Array Jvm.Value) (st : Jvm.State) : (allAtoms ts).before a st = ts.all (fun c => c.before a st) := by
  induction ts with
  | nil => rfl
  | cons c t ih =>
    show (Jvm.Cond.and c (allAtoms t)).before a st = _
    rw [Jvm.Cond.before_and, ih, List.all_cons]
def words1 : List Jvm.Cond := Jvm.Cond.code x code maxLocals ret :: tables_1
/-- a 'code' word, met by the world's own term for the bytes: nothing is compared byte by byte -/
theorem code_word {y : MethodName} {bytes : ByteArray} {mx : Nat} {rt : Option FieldType} {a : Array Value} {s : State} {m : MethodId} {meth : Method} {c : Code} (h1 : s.methodNamed? y = some m) (h2 : s.vm.method? m = some meth) (h3 : meth.code = some c) (h4 : c.code = bytes)
    (h5 : (c.maxLocals == mx && c.exceptionTable.isEmpty && decide (c.maxStack ≤ mostOperands) && decide (meth.sig.returnType = rt) && !meth.locks && decide (parseMethodDescriptor y.desc = some meth.sig)) = true) : (Jvm.Cond.code y bytes mx rt).before a s = true := by
  simp only [Bool.and_eq_true, beq_iff_eq, Bool.not_eq_true', decide_eq_true_eq] at h5
  obtain ⟨⟨⟨⟨⟨g1, g2⟩, g3⟩, g4⟩, g5⟩, g6⟩ := h5
  simp [Cond.before, Cond.holds, Cond.value, h1, h2, h3, h4, g1, g2, g3, g4, g5, g6]
def isCode : Jvm.Cond → Bool
  | .code _ _ _ _ => true
  | _ => false
theorem all_split {L : List Jvm.Cond} {P : Jvm.Cond → Bool} (h1 : L.all (fun c => isCode c || P c) = true) (h2 : ∀ c ∈ L.filter isCode, P c = true) : L.all P = true := by
  refine List.all_eq_true.mpr fun c hc => ?_
  have h := List.all_eq_true.mp h1 c hc
  rcases Bool.eq_false_or_eq_true (isCode c) with hi | hi
  · exact h2 c (List.mem_filter.mpr ⟨hc, hi⟩)
  · simpa [hi] using h
set_option maxRecDepth 65536 in
theorem w_c0 : (Jvm.Cond.code x code maxLocals ret).before args0 about1 = true := code_word (m := ⟨1, 2⟩) (meth := k1m2) (c := k1c2) (by decide +kernel) rfl rfl rfl (by decide +kernel)
set_option maxRecDepth 65536 in
theorem w_c1 : (Jvm.Cond.code ({ cls := "java/lang/Math", name := "min", desc := "(JJ)J" } : Jvm.MethodName) jdk_29_method_70_code (4 : Nat) (Option.some Jvm.ClassFile.FieldType.long)).before args0 about1 = true := code_word (m := ⟨2, 2⟩) (meth := k2m2) (c := k2c2) (by decide +kernel) rfl rfl rfl (by decide +kernel)
set_option maxRecDepth 65536 in
theorem w_c2 : (Jvm.Cond.code ({ cls := "java/lang/Math", name := "max", desc := "(JJ)J" } : Jvm.MethodName) jdk_29_method_66_code (4 : Nat) (Option.some Jvm.ClassFile.FieldType.long)).before args0 about1 = true := code_word (m := ⟨2, 1⟩) (meth := k2m1) (c := k2c1) (by decide +kernel) rfl rfl rfl (by decide +kernel)
set_option maxRecDepth 65536 in
theorem w_c3 : (Jvm.Cond.code ({ cls := "com/example/calchas/calchas/model/Range", name := "<init>", desc := "(JJ)V" } : Jvm.MethodName) prog_70_method_1_code (5 : Nat) (Option.none : Option Jvm.ClassFile.FieldType)).before args0 about1 = true := code_word (m := ⟨3, 0⟩) (meth := k3m0) (c := k3c0) (by decide +kernel) rfl rfl rfl (by decide +kernel)
set_option maxRecDepth 65536 in
theorem w_c4 : (Jvm.Cond.code ({ cls := "java/lang/Object", name := "<init>", desc := "()V" } : Jvm.MethodName) object_method_1_code (1 : Nat) (Option.none : Option Jvm.ClassFile.FieldType)).before args0 about1 = true := code_word (m := ⟨0, 0⟩) (meth := k0m0) (c := k0c0) (by decide +kernel) rfl rfl rfl (by decide +kernel)
set_option maxRecDepth 65536 in
theorem w_c5 : (Jvm.Cond.code ({ cls := "com/example/calchas/calchas/model/RangeContainsPinLaw", name := "unsignedLe", desc := "(JJ)Z" } : Jvm.MethodName) method_2_code (4 : Nat) (Option.some Jvm.ClassFile.FieldType.boolean)).before args0 about1 = true := code_word (m := ⟨1, 1⟩) (meth := k1m1) (c := k1c1) (by decide +kernel) rfl rfl rfl (by decide +kernel)
set_option maxRecDepth 65536 in
theorem w_c6 : (Jvm.Cond.code ({ cls := "com/example/calchas/calchas/model/Range", name := "contains", desc := "(J)Z" } : Jvm.MethodName) prog_70_method_4_code (3 : Nat) (Option.some Jvm.ClassFile.FieldType.boolean)).before args0 about1 = true := code_word (m := ⟨3, 1⟩) (meth := k3m1) (c := k3c1) (by decide +kernel) rfl rfl rfl (by decide +kernel)
def codes1 : List Jvm.Cond := [Jvm.Cond.code x code maxLocals ret, Jvm.Cond.code ({ cls := "java/lang/Math", name := "min", desc := "(JJ)J" } : Jvm.MethodName) jdk_29_method_70_code (4 : Nat) (Option.some Jvm.ClassFile.FieldType.long), Jvm.Cond.code ({ cls := "java/lang/Math", name := "max", desc := "(JJ)J" } : Jvm.MethodName) jdk_29_method_66_code (4 : Nat) (Option.some Jvm.ClassFile.FieldType.long), Jvm.Cond.code ({ cls := "com/example/calchas/calchas/model/Range", name := "<init>", desc := "(JJ)V" } : Jvm.MethodName) prog_70_method_1_code (5 : Nat) (Option.none : Option Jvm.ClassFile.FieldType), Jvm.Cond.code ({ cls := "java/lang/Object", name := "<init>", desc := "()V" } : Jvm.MethodName) object_method_1_code (1 : Nat) (Option.none : Option Jvm.ClassFile.FieldType), Jvm.Cond.code ({ cls := "com/example/calchas/calchas/model/RangeContainsPinLaw", name := "unsignedLe", desc := "(JJ)Z" } : Jvm.MethodName) method_2_code (4 : Nat) (Option.some Jvm.ClassFile.FieldType.boolean), Jvm.Cond.code ({ cls := "com/example/calchas/calchas/model/Range", name := "contains", desc := "(J)Z" } : Jvm.MethodName) prog_70_method_4_code (3 : Nat) (Option.some Jvm.ClassFile.FieldType.boolean)]
set_option maxRecDepth 65536 in
theorem codes_eq : words1.filter isCode = codes1 := rfl
theorem w_codes : ∀ c ∈ words1.filter isCode, c.before args0 about1 = true := by
  rw [codes_eq]
  intro c hc
  simp only [codes1, List.mem_cons, List.not_mem_nil, or_false] at hc
  rcases hc with rfl | rfl | rfl | rfl | rfl | rfl | rfl
  · exact w_c0
  · exact w_c1
  · exact w_c2
  · exact w_c3
  · exact w_c4
  · exact w_c5
  · exact w_c6
set_option maxRecDepth 65536 in
theorem w_t1 : (words1.take 24).all (fun c => isCode c || c.before args0 about1) = true := by decide +kernel
set_option maxRecDepth 65536 in
theorem w_t2 : (words1.drop 24).all (fun c => isCode c || c.before args0 about1) = true := by decide +kernel
theorem w_tables : (allAtoms (Jvm.Cond.code x code maxLocals ret :: tables_1)).before args0 about1 = true := by
  rw [allAtoms_all]
  show words1.all (fun c => c.before args0 about1) = true
  refine all_split ?_ w_codes
  rw [← List.take_append_drop 24 words1, List.all_append, w_t1, w_t2]
  rfl
set_option maxRecDepth 65536 in
theorem w_case : (Jvm.Cond.and given_1 narrow_1).before args0 about1 = true := by decide +kernel
theorem w_applies : (headSpec (Jvm.Cond.code x code maxLocals ret :: tables_1) room_1).applies x e0.platform about1 = true :=
  (Spec.applies_iff w_frames).mpr ⟨w_running, w_runnable, w_alone, w_named, w_hears, w_ripe, w_room, w_tables⟩
theorem atStart : AtStart classFile x code maxLocals ret World_1 tables_1 room_1 Calls_1 rest_1 Pre_1 launch0 p0 e0 about1 theMethod args0 below0 :=
  ⟨lists_1, trivial, launch0.admits_env _ _ _, launch0.least_env, fairChoices_fair.cas, fairChoices_fair.clock, w_frames, w_args, w_heap, w_applies, trivial, trivial, w_case⟩
end start1
theorem witness_1 : WitnessClaimed_1 := ⟨start1.p0, start1.e0, start1.about1, start1.theMethod, start1.args0, start1.below0, start1.atStart⟩
end Jvm.Pilot.@@N@@
