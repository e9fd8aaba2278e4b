import JvmDerived
import JvmDerived.Pilot.@@N@@Statement
import JvmDerived.Pilot.@@N@@Code
set_option linter.unusedVariables false
set_option linter.unusedSimpArgs false
namespace Jvm.OwnRun
open Sem ClassFile Op Lib Jvm.Stand Jvm.Free Jvm.LawKit Jvm.RoadKit
/-- from T with the top frame g the method's run ends as Φ says -/
def Run (tb : Tables) (e : Env) (below : List Frame) (Φ : Outcome → State → Prop) (T : State) (g : JFrame) : Prop := ∃ s₂ o, Steps tb e below (T.setTop g) s₂ ∧ s₂.status = .running ∧ Ended s₂ below o ∧ Φ o s₂
/-- what a contract asks of the end -/
def FinR (s : State) (K N : Nat) (Q : Option Value → Heap → List Loc → Prop) : Outcome → State → Prop := fun o u => ∃ v L, o = .returned v ∧ Q v u.heap L ∧ FrameEnd s o u L K N
/-- a contract's word on its end, kept in one piece -/
abbrev Say (Q : Option Value → Heap → List Loc → Prop) (v : Option Value) (h : Heap) (L : List Loc) : Prop := Q v h L
section Steps
variable {p : Program} {l : Launch} {e : Env} {R : Room} {s : State} {m : MethodId} {args : Array Value} {below : List Frame} {meth : Method} {c : Code} {T : State} {locs : List Loc} {cells slots : Nat} {Φ : Outcome → State → Prop} {pc pc' : Nat} {Ls : Array Slot} {rest : List Value}
theorem Run.back {tb : Tables} {T' : State} {g g' : JFrame} (h : ∀ t, Steps tb e below (T'.setTop g') t → Steps tb e below (T.setTop g) t) (k : Run tb e below Φ T' g') : Run tb e below Φ T g := by
  obtain ⟨s₂, o, h1, h2⟩ := k
  exact ⟨s₂, o, h _ h1, h2⟩
theorem Run.fwd {tb : Tables} {T' : State} {g g' : JFrame} (h : Steps tb e below (T.setTop g) (T'.setTop g')) (k : Run tb e below Φ T' g') : Run tb e below Φ T g := k.back fun _ kt => h.trans kt
theorem Run.iload (X : Stand p l e R s m args below meth c T locs cells slots) (hx : p.tables.exec = Jvm.exec) {k : Nat} {v : Int32} (hd : decode c.code pc = .ok (.iload k, 2)) (hl : Ls[k]? = some (.val (.int v))) (hp : pc + 2 = pc') (k : Run p.tables e below Φ T (mkF m pc' Ls (.int v :: rest))) : Run p.tables e below Φ T (mkF m pc Ls rest) := by
  subst hp
  exact k.back fun _ kt => XS.iload X.here hx rfl hd hl kt
theorem Run.iloadN (X : Stand p l e R s m args below meth c T locs cells slots) (hx : p.tables.exec = Jvm.exec) {k : Fin 4} {v : Int32} (hd : decode c.code pc = .ok (.iload_n k, 1)) (hl : Ls[k.val]? = some (.val (.int v))) (hp : pc + 1 = pc') (k : Run p.tables e below Φ T (mkF m pc' Ls (.int v :: rest))) : Run p.tables e below Φ T (mkF m pc Ls rest) := by
  subst hp
  exact k.back fun _ kt => XS.iloadN X.here hx rfl hd hl kt
theorem Run.istore (X : Stand p l e R s m args below meth c T locs cells slots) (hx : p.tables.exec = Jvm.exec) {k : Nat} {v : Int32} {l' : Array Slot} (hd : decode c.code pc = .ok (.istore k, 2)) (hl : storeLocals Ls k (.int v) = some l') (hp : pc + 2 = pc') (k : Run p.tables e below Φ T (mkF m pc' l' rest)) : Run p.tables e below Φ T (mkF m pc Ls (.int v :: rest)) := by
  subst hp
  exact k.back fun _ kt => XS.istore X.here hx rfl hd rfl hl kt
theorem Run.istoreN (X : Stand p l e R s m args below meth c T locs cells slots) (hx : p.tables.exec = Jvm.exec) {k : Fin 4} {v : Int32} {l' : Array Slot} (hd : decode c.code pc = .ok (.istore_n k, 1)) (hl : storeLocals Ls k.val (.int v) = some l') (hp : pc + 1 = pc') (k : Run p.tables e below Φ T (mkF m pc' l' rest)) : Run p.tables e below Φ T (mkF m pc Ls (.int v :: rest)) := by
  subst hp
  exact k.back fun _ kt => XS.istoreN X.here hx rfl hd rfl hl kt
theorem Run.lload (X : Stand p l e R s m args below meth c T locs cells slots) (hx : p.tables.exec = Jvm.exec) {k : Nat} {v : Int64} (hd : decode c.code pc = .ok (.lload k, 2)) (hl : Ls[k]? = some (.val (.long v))) (hp : pc + 2 = pc') (k : Run p.tables e below Φ T (mkF m pc' Ls (.long v :: rest))) : Run p.tables e below Φ T (mkF m pc Ls rest) := by
  subst hp
  exact k.back fun _ kt => XS.lload X.here hx rfl hd hl kt
theorem Run.lloadN (X : Stand p l e R s m args below meth c T locs cells slots) (hx : p.tables.exec = Jvm.exec) {k : Fin 4} {v : Int64} (hd : decode c.code pc = .ok (.lload_n k, 1)) (hl : Ls[k.val]? = some (.val (.long v))) (hp : pc + 1 = pc') (k : Run p.tables e below Φ T (mkF m pc' Ls (.long v :: rest))) : Run p.tables e below Φ T (mkF m pc Ls rest) := by
  subst hp
  exact k.back fun _ kt => XS.lloadN X.here hx rfl hd hl kt
theorem Run.lstore (X : Stand p l e R s m args below meth c T locs cells slots) (hx : p.tables.exec = Jvm.exec) {k : Nat} {v : Int64} {l' : Array Slot} (hd : decode c.code pc = .ok (.lstore k, 2)) (hl : storeLocals Ls k (.long v) = some l') (hp : pc + 2 = pc') (k : Run p.tables e below Φ T (mkF m pc' l' rest)) : Run p.tables e below Φ T (mkF m pc Ls (.long v :: rest)) := by
  subst hp
  exact k.back fun _ kt => XS.lstore X.here hx rfl hd rfl hl kt
theorem Run.lstoreN (X : Stand p l e R s m args below meth c T locs cells slots) (hx : p.tables.exec = Jvm.exec) {k : Fin 4} {v : Int64} {l' : Array Slot} (hd : decode c.code pc = .ok (.lstore_n k, 1)) (hl : storeLocals Ls k.val (.long v) = some l') (hp : pc + 1 = pc') (k : Run p.tables e below Φ T (mkF m pc' l' rest)) : Run p.tables e below Φ T (mkF m pc Ls (.long v :: rest)) := by
  subst hp
  exact k.back fun _ kt => XS.lstoreN X.here hx rfl hd rfl hl kt
theorem Run.aload (X : Stand p l e R s m args below meth c T locs cells slots) (hx : p.tables.exec = Jvm.exec) {k : Nat} {v : Addr} (hd : decode c.code pc = .ok (.aload k, 2)) (hl : Ls[k]? = some (.val (.ref v))) (hp : pc + 2 = pc') (k : Run p.tables e below Φ T (mkF m pc' Ls (.ref v :: rest))) : Run p.tables e below Φ T (mkF m pc Ls rest) := by
  subst hp
  exact k.back fun _ kt => XS.aload X.here hx rfl hd hl rfl kt
theorem Run.aloadN (X : Stand p l e R s m args below meth c T locs cells slots) (hx : p.tables.exec = Jvm.exec) {k : Fin 4} {v : Addr} (hd : decode c.code pc = .ok (.aload_n k, 1)) (hl : Ls[k.val]? = some (.val (.ref v))) (hp : pc + 1 = pc') (k : Run p.tables e below Φ T (mkF m pc' Ls (.ref v :: rest))) : Run p.tables e below Φ T (mkF m pc Ls rest) := by
  subst hp
  exact k.back fun _ kt => XS.aloadN X.here hx rfl hd hl rfl kt
theorem Run.astore (X : Stand p l e R s m args below meth c T locs cells slots) (hx : p.tables.exec = Jvm.exec) {k : Nat} {v : Addr} {l' : Array Slot} (hd : decode c.code pc = .ok (.astore k, 2)) (hl : storeLocals Ls k (.ref v) = some l') (hp : pc + 2 = pc') (k : Run p.tables e below Φ T (mkF m pc' l' rest)) : Run p.tables e below Φ T (mkF m pc Ls (.ref v :: rest)) := by
  subst hp
  exact k.back fun _ kt => XS.astore X.here hx rfl hd rfl rfl hl kt
theorem Run.astoreN (X : Stand p l e R s m args below meth c T locs cells slots) (hx : p.tables.exec = Jvm.exec) {k : Fin 4} {v : Addr} {l' : Array Slot} (hd : decode c.code pc = .ok (.astore_n k, 1)) (hl : storeLocals Ls k.val (.ref v) = some l') (hp : pc + 1 = pc') (k : Run p.tables e below Φ T (mkF m pc' l' rest)) : Run p.tables e below Φ T (mkF m pc Ls (.ref v :: rest)) := by
  subst hp
  exact k.back fun _ kt => XS.astoreN X.here hx rfl hd rfl rfl hl kt
theorem Run.dload (X : Stand p l e R s m args below meth c T locs cells slots) (hx : p.tables.exec = Jvm.exec) {k : Nat} {v : UInt64} (hd : decode c.code pc = .ok (.dload k, 2)) (hl : Ls[k]? = some (.val (.double v))) (hp : pc + 2 = pc') (k : Run p.tables e below Φ T (mkF m pc' Ls (.double v :: rest))) : Run p.tables e below Φ T (mkF m pc Ls rest) := by
  subst hp
  exact k.back fun _ kt => XS.dload X.here hx rfl hd hl kt
theorem Run.dloadN (X : Stand p l e R s m args below meth c T locs cells slots) (hx : p.tables.exec = Jvm.exec) {k : Fin 4} {v : UInt64} (hd : decode c.code pc = .ok (.dload_n k, 1)) (hl : Ls[k.val]? = some (.val (.double v))) (hp : pc + 1 = pc') (k : Run p.tables e below Φ T (mkF m pc' Ls (.double v :: rest))) : Run p.tables e below Φ T (mkF m pc Ls rest) := by
  subst hp
  exact k.back fun _ kt => XS.dloadN X.here hx rfl hd hl kt
theorem Run.dstore (X : Stand p l e R s m args below meth c T locs cells slots) (hx : p.tables.exec = Jvm.exec) {k : Nat} {v : UInt64} {l' : Array Slot} (hd : decode c.code pc = .ok (.dstore k, 2)) (hl : storeLocals Ls k (.double v) = some l') (hp : pc + 2 = pc') (k : Run p.tables e below Φ T (mkF m pc' l' rest)) : Run p.tables e below Φ T (mkF m pc Ls (.double v :: rest)) := by
  subst hp
  exact k.back fun _ kt => XS.dstore X.here hx rfl hd rfl hl kt
theorem Run.dstoreN (X : Stand p l e R s m args below meth c T locs cells slots) (hx : p.tables.exec = Jvm.exec) {k : Fin 4} {v : UInt64} {l' : Array Slot} (hd : decode c.code pc = .ok (.dstore_n k, 1)) (hl : storeLocals Ls k.val (.double v) = some l') (hp : pc + 1 = pc') (k : Run p.tables e below Φ T (mkF m pc' l' rest)) : Run p.tables e below Φ T (mkF m pc Ls (.double v :: rest)) := by
  subst hp
  exact k.back fun _ kt => XS.dstoreN X.here hx rfl hd rfl hl kt
theorem Run.iconst (X : Stand p l e R s m args below meth c T locs cells slots) (hx : p.tables.exec = Jvm.exec) {i : Int} {v : Int32} (hd : decode c.code pc = .ok (.iconst i, 1)) (hv : Int32.ofInt i = v) (hp : pc + 1 = pc') (k : Run p.tables e below Φ T (mkF m pc' Ls (.int v :: rest))) : Run p.tables e below Φ T (mkF m pc Ls rest) := by
  subst hp
  exact k.back fun _ kt => XS.iconst X.here hx rfl hd (by rw [hv]; exact kt)
theorem Run.bipush (X : Stand p l e R s m args below meth c T locs cells slots) (hx : p.tables.exec = Jvm.exec) {i : Int} {v : Int32} (hd : decode c.code pc = .ok (.bipush i, 2)) (hv : (Int8.ofInt i).toInt32 = v) (hp : pc + 2 = pc') (k : Run p.tables e below Φ T (mkF m pc' Ls (.int v :: rest))) : Run p.tables e below Φ T (mkF m pc Ls rest) := by
  subst hp
  exact k.back fun _ kt => XS.bipush X.here hx rfl hd (by rw [hv]; exact kt)
theorem Run.sipush (X : Stand p l e R s m args below meth c T locs cells slots) (hx : p.tables.exec = Jvm.exec) {i : Int} {v : Int32} (hd : decode c.code pc = .ok (.sipush i, 3)) (hv : (Int16.ofInt i).toInt32 = v) (hp : pc + 3 = pc') (k : Run p.tables e below Φ T (mkF m pc' Ls (.int v :: rest))) : Run p.tables e below Φ T (mkF m pc Ls rest) := by
  subst hp
  exact k.back fun _ kt => XS.sipush X.here hx rfl hd (by rw [hv]; exact kt)
theorem Run.lconst (X : Stand p l e R s m args below meth c T locs cells slots) (hx : p.tables.exec = Jvm.exec) {i : Fin 2} {v : Int64} (hd : decode c.code pc = .ok (.lconst i, 1)) (hv : Int64.ofNat i = v) (hp : pc + 1 = pc') (k : Run p.tables e below Φ T (mkF m pc' Ls (.long v :: rest))) : Run p.tables e below Φ T (mkF m pc Ls rest) := by
  subst hp
  exact k.back fun _ kt => XS.lconst X.here hx rfl hd (by first | (rw [hv]; exact kt) | (rw [← hv] at kt; exact kt))
theorem Run.aconstNull (X : Stand p l e R s m args below meth c T locs cells slots) (hx : p.tables.exec = Jvm.exec) (hd : decode c.code pc = .ok (.aconst_null, 1)) (hp : pc + 1 = pc') (k : Run p.tables e below Φ T (mkF m pc' Ls (.null :: rest))) : Run p.tables e below Φ T (mkF m pc Ls rest) := by
  subst hp
  exact k.back fun _ kt => XS.aconstNull X.here hx rfl hd kt
theorem Run.iadd (X : Stand p l e R s m args below meth c T locs cells slots) (hx : p.tables.exec = Jvm.exec) {x y : Int32} (hd : decode c.code pc = .ok (.iadd, 1)) (hp : pc + 1 = pc') (k : Run p.tables e below Φ T (mkF m pc' Ls (.int (x + y) :: rest))) : Run p.tables e below Φ T (mkF m pc Ls (.int y :: .int x :: rest)) := by
  subst hp
  exact k.back fun _ kt => XS.iadd X.here hx rfl hd rfl kt
theorem Run.isub (X : Stand p l e R s m args below meth c T locs cells slots) (hx : p.tables.exec = Jvm.exec) {x y : Int32} (hd : decode c.code pc = .ok (.isub, 1)) (hp : pc + 1 = pc') (k : Run p.tables e below Φ T (mkF m pc' Ls (.int (x - y) :: rest))) : Run p.tables e below Φ T (mkF m pc Ls (.int y :: .int x :: rest)) := by
  subst hp
  exact k.back fun _ kt => XS.isub X.here hx rfl hd rfl kt
theorem Run.imul (X : Stand p l e R s m args below meth c T locs cells slots) (hx : p.tables.exec = Jvm.exec) {x y : Int32} (hd : decode c.code pc = .ok (.imul, 1)) (hp : pc + 1 = pc') (k : Run p.tables e below Φ T (mkF m pc' Ls (.int (x * y) :: rest))) : Run p.tables e below Φ T (mkF m pc Ls (.int y :: .int x :: rest)) := by
  subst hp
  exact k.back fun _ kt => XS.imul X.here hx rfl hd rfl kt
theorem Run.iand (X : Stand p l e R s m args below meth c T locs cells slots) (hx : p.tables.exec = Jvm.exec) {x y : Int32} (hd : decode c.code pc = .ok (.iand, 1)) (hp : pc + 1 = pc') (k : Run p.tables e below Φ T (mkF m pc' Ls (.int (x &&& y) :: rest))) : Run p.tables e below Φ T (mkF m pc Ls (.int y :: .int x :: rest)) := by
  subst hp
  exact k.back fun _ kt => XS.iand X.here hx rfl hd rfl kt
theorem Run.ior (X : Stand p l e R s m args below meth c T locs cells slots) (hx : p.tables.exec = Jvm.exec) {x y : Int32} (hd : decode c.code pc = .ok (.ior, 1)) (hp : pc + 1 = pc') (k : Run p.tables e below Φ T (mkF m pc' Ls (.int (x ||| y) :: rest))) : Run p.tables e below Φ T (mkF m pc Ls (.int y :: .int x :: rest)) := by
  subst hp
  exact k.back fun _ kt => XS.ior X.here hx rfl hd rfl kt
theorem Run.ixor (X : Stand p l e R s m args below meth c T locs cells slots) (hx : p.tables.exec = Jvm.exec) {x y : Int32} (hd : decode c.code pc = .ok (.ixor, 1)) (hp : pc + 1 = pc') (k : Run p.tables e below Φ T (mkF m pc' Ls (.int (x ^^^ y) :: rest))) : Run p.tables e below Φ T (mkF m pc Ls (.int y :: .int x :: rest)) := by
  subst hp
  exact k.back fun _ kt => XS.ixor X.here hx rfl hd rfl kt
theorem Run.idiv (X : Stand p l e R s m args below meth c T locs cells slots) (hx : p.tables.exec = Jvm.exec) {x y : Int32} (hd : decode c.code pc = .ok (.idiv, 1)) (hy : y ≠ 0) (hp : pc + 1 = pc') (k : Run p.tables e below Φ T (mkF m pc' Ls (.int (x / y) :: rest))) : Run p.tables e below Φ T (mkF m pc Ls (.int y :: .int x :: rest)) := by
  subst hp
  exact k.back fun _ kt => XS.idiv X.here hx rfl hd rfl hy kt
theorem Run.ladd (X : Stand p l e R s m args below meth c T locs cells slots) (hx : p.tables.exec = Jvm.exec) {x y : Int64} (hd : decode c.code pc = .ok (.ladd, 1)) (hp : pc + 1 = pc') (k : Run p.tables e below Φ T (mkF m pc' Ls (.long (x + y) :: rest))) : Run p.tables e below Φ T (mkF m pc Ls (.long y :: .long x :: rest)) := by
  subst hp
  exact k.back fun _ kt => XS.ladd X.here hx rfl hd rfl kt
theorem Run.lsub (X : Stand p l e R s m args below meth c T locs cells slots) (hx : p.tables.exec = Jvm.exec) {x y : Int64} (hd : decode c.code pc = .ok (.lsub, 1)) (hp : pc + 1 = pc') (k : Run p.tables e below Φ T (mkF m pc' Ls (.long (x - y) :: rest))) : Run p.tables e below Φ T (mkF m pc Ls (.long y :: .long x :: rest)) := by
  subst hp
  exact k.back fun _ kt => XS.lsub X.here hx rfl hd rfl kt
theorem Run.lmul (X : Stand p l e R s m args below meth c T locs cells slots) (hx : p.tables.exec = Jvm.exec) {x y : Int64} (hd : decode c.code pc = .ok (.lmul, 1)) (hp : pc + 1 = pc') (k : Run p.tables e below Φ T (mkF m pc' Ls (.long (x * y) :: rest))) : Run p.tables e below Φ T (mkF m pc Ls (.long y :: .long x :: rest)) := by
  subst hp
  exact k.back fun _ kt => XS.lmul X.here hx rfl hd rfl kt
theorem Run.land (X : Stand p l e R s m args below meth c T locs cells slots) (hx : p.tables.exec = Jvm.exec) {x y : Int64} (hd : decode c.code pc = .ok (.land, 1)) (hp : pc + 1 = pc') (k : Run p.tables e below Φ T (mkF m pc' Ls (.long (x &&& y) :: rest))) : Run p.tables e below Φ T (mkF m pc Ls (.long y :: .long x :: rest)) := by
  subst hp
  exact k.back fun _ kt => XS.land X.here hx rfl hd rfl kt
theorem Run.lor (X : Stand p l e R s m args below meth c T locs cells slots) (hx : p.tables.exec = Jvm.exec) {x y : Int64} (hd : decode c.code pc = .ok (.lor, 1)) (hp : pc + 1 = pc') (k : Run p.tables e below Φ T (mkF m pc' Ls (.long (x ||| y) :: rest))) : Run p.tables e below Φ T (mkF m pc Ls (.long y :: .long x :: rest)) := by
  subst hp
  exact k.back fun _ kt => XS.lor X.here hx rfl hd rfl kt
theorem Run.lxor (X : Stand p l e R s m args below meth c T locs cells slots) (hx : p.tables.exec = Jvm.exec) {x y : Int64} (hd : decode c.code pc = .ok (.lxor, 1)) (hp : pc + 1 = pc') (k : Run p.tables e below Φ T (mkF m pc' Ls (.long (x ^^^ y) :: rest))) : Run p.tables e below Φ T (mkF m pc Ls (.long y :: .long x :: rest)) := by
  subst hp
  exact k.back fun _ kt => XS.lxor X.here hx rfl hd rfl kt
theorem Run.ldiv (X : Stand p l e R s m args below meth c T locs cells slots) (hx : p.tables.exec = Jvm.exec) {x y : Int64} (hd : decode c.code pc = .ok (.ldiv, 1)) (hy : y ≠ 0) (hp : pc + 1 = pc') (k : Run p.tables e below Φ T (mkF m pc' Ls (.long (x / y) :: rest))) : Run p.tables e below Φ T (mkF m pc Ls (.long y :: .long x :: rest)) := by
  subst hp
  exact k.back fun _ kt => XS.ldiv X.here hx rfl hd rfl hy kt
theorem Run.irem (X : Stand p l e R s m args below meth c T locs cells slots) (hx : p.tables.exec = Jvm.exec) {x y : Int32} (hd : decode c.code pc = .ok (.irem, 1)) (hy : y ≠ 0) (hp : pc + 1 = pc') (k : Run p.tables e below Φ T (mkF m pc' Ls (.int (x % y) :: rest))) : Run p.tables e below Φ T (mkF m pc Ls (.int y :: .int x :: rest)) := by
  subst hp
  exact k.back fun _ kt => iremM X hx rfl hd rfl hy kt
theorem Run.ishl (X : Stand p l e R s m args below meth c T locs cells slots) (hx : p.tables.exec = Jvm.exec) {x : Int32} {y : Int32} (hd : decode c.code pc = .ok (.ishl, 1)) (hp : pc + 1 = pc') (k : Run p.tables e below Φ T (mkF m pc' Ls (.int (x <<< (y &&& 31)) :: rest))) : Run p.tables e below Φ T (mkF m pc Ls (.int y :: .int x :: rest)) := by
  subst hp
  exact k.back fun _ kt => XS.ishl X.here hx rfl hd rfl kt
theorem Run.ishr (X : Stand p l e R s m args below meth c T locs cells slots) (hx : p.tables.exec = Jvm.exec) {x : Int32} {y : Int32} (hd : decode c.code pc = .ok (.ishr, 1)) (hp : pc + 1 = pc') (k : Run p.tables e below Φ T (mkF m pc' Ls (.int (x >>> (y &&& 31)) :: rest))) : Run p.tables e below Φ T (mkF m pc Ls (.int y :: .int x :: rest)) := by
  subst hp
  exact k.back fun _ kt => XS.ishr X.here hx rfl hd rfl kt
theorem Run.iushr (X : Stand p l e R s m args below meth c T locs cells slots) (hx : p.tables.exec = Jvm.exec) {x : Int32} {y : Int32} (hd : decode c.code pc = .ok (.iushr, 1)) (hp : pc + 1 = pc') (k : Run p.tables e below Φ T (mkF m pc' Ls (.int ((x.toUInt32 >>> (y &&& 31).toUInt32).toInt32) :: rest))) : Run p.tables e below Φ T (mkF m pc Ls (.int y :: .int x :: rest)) := by
  subst hp
  exact k.back fun _ kt => XS.iushr X.here hx rfl hd rfl kt
theorem Run.lshl (X : Stand p l e R s m args below meth c T locs cells slots) (hx : p.tables.exec = Jvm.exec) {x : Int64} {y : Int32} (hd : decode c.code pc = .ok (.lshl, 1)) (hp : pc + 1 = pc') (k : Run p.tables e below Φ T (mkF m pc' Ls (.long (x <<< (y &&& 0x3f).toInt64) :: rest))) : Run p.tables e below Φ T (mkF m pc Ls (.int y :: .long x :: rest)) := by
  subst hp
  exact k.back fun _ kt => XS.lshl X.here hx rfl hd rfl kt
theorem Run.lshr (X : Stand p l e R s m args below meth c T locs cells slots) (hx : p.tables.exec = Jvm.exec) {x : Int64} {y : Int32} (hd : decode c.code pc = .ok (.lshr, 1)) (hp : pc + 1 = pc') (k : Run p.tables e below Φ T (mkF m pc' Ls (.long (x >>> (y &&& 0x3f).toInt64) :: rest))) : Run p.tables e below Φ T (mkF m pc Ls (.int y :: .long x :: rest)) := by
  subst hp
  exact k.back fun _ kt => XS.lshr X.here hx rfl hd rfl kt
theorem Run.lushr (X : Stand p l e R s m args below meth c T locs cells slots) (hx : p.tables.exec = Jvm.exec) {x : Int64} {y : Int32} (hd : decode c.code pc = .ok (.lushr, 1)) (hp : pc + 1 = pc') (k : Run p.tables e below Φ T (mkF m pc' Ls (.long ((x.toUInt64 >>> (y &&& 0x3f).toInt64.toUInt64).toInt64) :: rest))) : Run p.tables e below Φ T (mkF m pc Ls (.int y :: .long x :: rest)) := by
  subst hp
  exact k.back fun _ kt => XS.lushr X.here hx rfl hd rfl kt
theorem Run.i2l (X : Stand p l e R s m args below meth c T locs cells slots) (hx : p.tables.exec = Jvm.exec) {x : Int32} (hd : decode c.code pc = .ok (.i2l, 1)) (hp : pc + 1 = pc') (k : Run p.tables e below Φ T (mkF m pc' Ls (.long (x.toInt64) :: rest))) : Run p.tables e below Φ T (mkF m pc Ls (.int x :: rest)) := by
  subst hp
  exact k.back fun _ kt => XS.i2l X.here hx rfl hd rfl kt
theorem Run.l2i (X : Stand p l e R s m args below meth c T locs cells slots) (hx : p.tables.exec = Jvm.exec) {x : Int64} (hd : decode c.code pc = .ok (.l2i, 1)) (hp : pc + 1 = pc') (k : Run p.tables e below Φ T (mkF m pc' Ls (.int (x.toInt32) :: rest))) : Run p.tables e below Φ T (mkF m pc Ls (.long x :: rest)) := by
  subst hp
  exact k.back fun _ kt => XS.l2i X.here hx rfl hd rfl kt
theorem Run.i2b (X : Stand p l e R s m args below meth c T locs cells slots) (hx : p.tables.exec = Jvm.exec) {x : Int32} (hd : decode c.code pc = .ok (.i2b, 1)) (hp : pc + 1 = pc') (k : Run p.tables e below Φ T (mkF m pc' Ls (.int (x.toInt8.toInt32) :: rest))) : Run p.tables e below Φ T (mkF m pc Ls (.int x :: rest)) := by
  subst hp
  exact k.back fun _ kt => XS.i2b X.here hx rfl hd rfl kt
theorem Run.i2s (X : Stand p l e R s m args below meth c T locs cells slots) (hx : p.tables.exec = Jvm.exec) {x : Int32} (hd : decode c.code pc = .ok (.i2s, 1)) (hp : pc + 1 = pc') (k : Run p.tables e below Φ T (mkF m pc' Ls (.int (x.toInt16.toInt32) :: rest))) : Run p.tables e below Φ T (mkF m pc Ls (.int x :: rest)) := by
  subst hp
  exact k.back fun _ kt => XS.i2s X.here hx rfl hd rfl kt
theorem Run.i2c (X : Stand p l e R s m args below meth c T locs cells slots) (hx : p.tables.exec = Jvm.exec) {x : Int32} (hd : decode c.code pc = .ok (.i2c, 1)) (hp : pc + 1 = pc') (k : Run p.tables e below Φ T (mkF m pc' Ls (.int (x.toUInt32.toUInt16.toUInt32.toInt32) :: rest))) : Run p.tables e below Φ T (mkF m pc Ls (.int x :: rest)) := by
  subst hp
  exact k.back fun _ kt => XS.i2c X.here hx rfl hd rfl kt
theorem Run.ineg (X : Stand p l e R s m args below meth c T locs cells slots) (hx : p.tables.exec = Jvm.exec) {x : Int32} (hd : decode c.code pc = .ok (.ineg, 1)) (hp : pc + 1 = pc') (k : Run p.tables e below Φ T (mkF m pc' Ls (.int (-x) :: rest))) : Run p.tables e below Φ T (mkF m pc Ls (.int x :: rest)) := by
  subst hp
  exact k.back fun _ kt => XS.ineg X.here hx rfl hd rfl kt
theorem Run.i2d (X : Stand p l e R s m args below meth c T locs cells slots) (hx : p.tables.exec = Jvm.exec) {x : Int32} (hd : decode c.code pc = .ok (.i2d, 1)) (hp : pc + 1 = pc') (k : Run p.tables e below Φ T (mkF m pc' Ls (.double (FP.i2d x) :: rest))) : Run p.tables e below Φ T (mkF m pc Ls (.int x :: rest)) := by
  subst hp
  exact k.back fun _ kt => XS.i2dS X.here hx rfl hd rfl rfl kt
theorem Run.l2d (X : Stand p l e R s m args below meth c T locs cells slots) (hx : p.tables.exec = Jvm.exec) {x : Int64} (hd : decode c.code pc = .ok (.l2d, 1)) (hp : pc + 1 = pc') (k : Run p.tables e below Φ T (mkF m pc' Ls (.double (FP.l2d x) :: rest))) : Run p.tables e below Φ T (mkF m pc Ls (.long x :: rest)) := by
  subst hp
  exact k.back fun _ kt => XS.l2dS X.here hx rfl hd rfl rfl kt
theorem Run.dmul (X : Stand p l e R s m args below meth c T locs cells slots) (hx : p.tables.exec = Jvm.exec) {x y : UInt64} (hd : decode c.code pc = .ok (.dmul, 1)) (hn : Jvm.Free.Fl.NoNaN64 (FP.dmul x y)) (hp : pc + 1 = pc') (k : Run p.tables e below Φ T (mkF m pc' Ls (.double (FP.dmul x y) :: rest))) : Run p.tables e below Φ T (mkF m pc Ls (.double y :: .double x :: rest)) := by
  subst hp
  exact k.back fun _ kt => XS.dmulS X.here hx rfl hd rfl hn rfl kt
theorem Run.ddiv (X : Stand p l e R s m args below meth c T locs cells slots) (hx : p.tables.exec = Jvm.exec) {x y : UInt64} (hd : decode c.code pc = .ok (.ddiv, 1)) (hn : Jvm.Free.Fl.NoNaN64 (FP.ddiv x y)) (hp : pc + 1 = pc') (k : Run p.tables e below Φ T (mkF m pc' Ls (.double (FP.ddiv x y) :: rest))) : Run p.tables e below Φ T (mkF m pc Ls (.double y :: .double x :: rest)) := by
  subst hp
  exact k.back fun _ kt => XS.ddivS X.here hx rfl hd rfl hn rfl kt
theorem Run.dcmp (X : Stand p l e R s m args below meth c T locs cells slots) (hx : p.tables.exec = Jvm.exec) {o : CmpOp} {x y : UInt64} (hd : decode c.code pc = .ok (.dcmp o, 1)) (hp : pc + 1 = pc') (k : Run p.tables e below Φ T (mkF m pc' Ls (.int (cmpValue (FP.dcmp x y) o) :: rest))) : Run p.tables e below Φ T (mkF m pc Ls (.double y :: .double x :: rest)) := by
  subst hp
  exact k.back fun _ kt => XS.dcmpS X.here hx rfl hd rfl rfl kt
theorem Run.ldc2Double (X : Stand p l e R s m args below meth c T locs cells slots) (hx : p.tables.exec = Jvm.exec) {own : String} {index : Nat} {v : UInt64} (hown : s.vm.findClass own = some m.cls) (hconst : (Cond.constantDouble own index v).before args s = true) (hd : decode c.code pc = .ok (.ldc2_w index, 3)) (hp : pc + 3 = pc') (k : Run p.tables e below Φ T (mkF m pc' Ls (.double v :: rest))) : Run p.tables e below Φ T (mkF m pc Ls rest) := by
  subst hp
  exact k.back fun _ kt => X.ldc2DoubleC hx hown hconst (g := mkF m pc Ls rest) rfl hd _ kt
theorem Run.lcmp (X : Stand p l e R s m args below meth c T locs cells slots) (hx : p.tables.exec = Jvm.exec) {x y : Int64} (hd : decode c.code pc = .ok (.lcmp, 1)) (hp : pc + 1 = pc') (k : Run p.tables e below Φ T (mkF m pc' Ls (.int (lcmpW x y) :: rest))) : Run p.tables e below Φ T (mkF m pc Ls (.long y :: .long x :: rest)) := by
  subst hp
  exact k.back fun _ kt => XS.lcmp X.here hx rfl hd rfl kt
theorem Run.dup (X : Stand p l e R s m args below meth c T locs cells slots) (hx : p.tables.exec = Jvm.exec) {x : Value} (hd : decode c.code pc = .ok (.dup, 1)) (hc : x.category = 1) (hp : pc + 1 = pc') (k : Run p.tables e below Φ T (mkF m pc' Ls (x :: x :: rest))) : Run p.tables e below Φ T (mkF m pc Ls (x :: rest)) := by
  subst hp
  exact k.back fun _ kt => XS.dup X.here hx rfl hd rfl hc kt
theorem Run.dupX1 (X : Stand p l e R s m args below meth c T locs cells slots) (hx : p.tables.exec = Jvm.exec) {x y : Value} (hd : decode c.code pc = .ok (.dup_x1, 1)) (hc : x.category = 1) (hc2 : y.category = 1) (hp : pc + 1 = pc') (k : Run p.tables e below Φ T (mkF m pc' Ls (x :: y :: x :: rest))) : Run p.tables e below Φ T (mkF m pc Ls (x :: y :: rest)) := by
  subst hp
  exact k.back fun _ kt => XS.dupX1 X.here hx rfl hd rfl hc hc2 kt
theorem Run.pop (X : Stand p l e R s m args below meth c T locs cells slots) (hx : p.tables.exec = Jvm.exec) {x : Value} (hd : decode c.code pc = .ok (.pop, 1)) (hc : x.category = 1) (hp : pc + 1 = pc') (k : Run p.tables e below Φ T (mkF m pc' Ls rest)) : Run p.tables e below Φ T (mkF m pc Ls (x :: rest)) := by
  subst hp
  exact k.back fun _ kt => XS.pop X.here hx rfl hd rfl hc kt
theorem Run.iinc (X : Stand p l e R s m args below meth c T locs cells slots) (hx : p.tables.exec = Jvm.exec) {n : Nat} {i : Int} {v w : Int32} {l' : Array Slot} (hd : decode c.code pc = .ok (.iinc n i, 3)) (hl : Ls[n]? = some (.val (.int v))) (hv : Int32.ofInt i = w) (hl' : storeLocals Ls n (.int (v + w)) = some l') (hp : pc + 3 = pc') (k : Run p.tables e below Φ T (mkF m pc' l' rest)) : Run p.tables e below Φ T (mkF m pc Ls rest) := by
  subst hp
  exact k.back fun _ kt => XS.iinc X.here hx rfl hd hl (by rw [hv]; exact hl') kt
theorem Run.goto (X : Stand p l e R s m args below meth c T locs cells slots) (hx : p.tables.exec = Jvm.exec) {o : Int} (hd : decode c.code pc = .ok (.goto o, 3)) (ho : 0 ≤ (pc : Int) + o) (hp : ((pc : Int) + o).toNat = pc') (k : Run p.tables e below Φ T (mkF m pc' Ls rest)) : Run p.tables e below Φ T (mkF m pc Ls rest) := k.back fun _ kt => XS.goto X.here hx rfl rfl hd ho hp kt
theorem Run.ifYes (X : Stand p l e R s m args below meth c T locs cells slots) (hx : p.tables.exec = Jvm.exec) {cd : ClassFile.Cond} {o : Int} {x : Int32} (hd : decode c.code pc = .ok (.ifCond cd o, 3)) (hc : ifCond.holds cd x = true) (ho : 0 ≤ (pc : Int) + o) (hp : ((pc : Int) + o).toNat = pc') (k : Run p.tables e below Φ T (mkF m pc' Ls rest)) : Run p.tables e below Φ T (mkF m pc Ls (.int x :: rest)) := k.back fun _ kt => XS.ifYes X.here hx rfl rfl hd rfl hc ho hp kt
theorem Run.ifNo (X : Stand p l e R s m args below meth c T locs cells slots) (hx : p.tables.exec = Jvm.exec) {cd : ClassFile.Cond} {o : Int} {x : Int32} (hd : decode c.code pc = .ok (.ifCond cd o, 3)) (hc : ifCond.holds cd x = false) (hp : pc + 3 = pc') (k : Run p.tables e below Φ T (mkF m pc' Ls rest)) : Run p.tables e below Φ T (mkF m pc Ls (.int x :: rest)) := by
  subst hp
  exact k.back fun _ kt => XS.ifNo X.here hx rfl hd rfl hc kt
theorem Run.icmpYes (X : Stand p l e R s m args below meth c T locs cells slots) (hx : p.tables.exec = Jvm.exec) {cd : ClassFile.Cond} {o : Int} {x y : Int32} (hd : decode c.code pc = .ok (.if_icmp cd o, 3)) (hc : if_icmp.holds cd x y = true) (ho : 0 ≤ (pc : Int) + o) (hp : ((pc : Int) + o).toNat = pc') (k : Run p.tables e below Φ T (mkF m pc' Ls rest)) : Run p.tables e below Φ T (mkF m pc Ls (.int y :: .int x :: rest)) := k.back fun _ kt => XS.icmpYes X.here hx rfl rfl hd rfl hc ho hp kt
theorem Run.icmpNo (X : Stand p l e R s m args below meth c T locs cells slots) (hx : p.tables.exec = Jvm.exec) {cd : ClassFile.Cond} {o : Int} {x y : Int32} (hd : decode c.code pc = .ok (.if_icmp cd o, 3)) (hc : if_icmp.holds cd x y = false) (hp : pc + 3 = pc') (k : Run p.tables e below Φ T (mkF m pc' Ls rest)) : Run p.tables e below Φ T (mkF m pc Ls (.int y :: .int x :: rest)) := by
  subst hp
  exact k.back fun _ kt => XS.icmpNo X.here hx rfl hd rfl hc kt
theorem Run.acmpYes (X : Stand p l e R s m args below meth c T locs cells slots) (hx : p.tables.exec = Jvm.exec) {cd : ACond} {o : Int} {a b : Addr} (hd : decode c.code pc = .ok (.if_acmp cd o, 3)) (hc : if_acmp.holds cd (some a) (some b) = true) (ho : 0 ≤ (pc : Int) + o) (hp : ((pc : Int) + o).toNat = pc') (k : Run p.tables e below Φ T (mkF m pc' Ls rest)) : Run p.tables e below Φ T (mkF m pc Ls (.ref b :: .ref a :: rest)) := k.back fun _ kt => XS.acmpYes X.here hx rfl rfl hd rfl hc ho hp kt
theorem Run.acmpNo (X : Stand p l e R s m args below meth c T locs cells slots) (hx : p.tables.exec = Jvm.exec) {cd : ACond} {o : Int} {a b : Addr} (hd : decode c.code pc = .ok (.if_acmp cd o, 3)) (hc : if_acmp.holds cd (some a) (some b) = false) (hp : pc + 3 = pc') (k : Run p.tables e below Φ T (mkF m pc' Ls rest)) : Run p.tables e below Φ T (mkF m pc Ls (.ref b :: .ref a :: rest)) := by
  subst hp
  exact k.back fun _ kt => XS.acmpNo X.here hx rfl hd rfl hc kt
theorem own_acmpEqT {a b : Addr} (h : a = b) : if_acmp.holds .eq (some a) (some b) = true := by subst h; simp [if_acmp.holds]
theorem own_acmpEqF {a b : Addr} (h : ¬ a = b) : if_acmp.holds .eq (some a) (some b) = false := by simp [if_acmp.holds, h]
theorem own_acmpNeT {a b : Addr} (h : a = b) : if_acmp.holds .ne (some a) (some b) = false := by subst h; simp [if_acmp.holds]
theorem own_acmpNeF {a b : Addr} (h : ¬ a = b) : if_acmp.holds .ne (some a) (some b) = true := by simp [if_acmp.holds, h]
theorem Run.ldcInt (X : Stand p l e R s m args below meth c T locs cells slots) (hx : p.tables.exec = Jvm.exec) {own : String} {index : Nat} {v : Int32} (hown : s.vm.findClass own = some m.cls) (hconst : (Cond.constant own index v).before args s = true) (hd : decode c.code pc = .ok (.ldc index, 2)) (hp : pc + 2 = pc') (k : Run p.tables e below Φ T (mkF m pc' Ls (.int v :: rest))) : Run p.tables e below Φ T (mkF m pc Ls rest) := by
  subst hp
  exact k.back fun _ kt => X.ldcInt hx hown hconst (g := mkF m pc Ls rest) rfl hd _ kt
theorem Run.ldc2Long (X : Stand p l e R s m args below meth c T locs cells slots) (hx : p.tables.exec = Jvm.exec) {own : String} {index : Nat} {v : Int64} (hown : s.vm.findClass own = some m.cls) (hconst : (Cond.constantLong own index v).before args s = true) (hd : decode c.code pc = .ok (.ldc2_w index, 3)) (hp : pc + 3 = pc') (k : Run p.tables e below Φ T (mkF m pc' Ls (.long v :: rest))) : Run p.tables e below Φ T (mkF m pc Ls rest) := by
  subst hp
  exact k.back fun _ kt => X.ldc2Long hx hown hconst (g := mkF m pc Ls rest) rfl hd _ kt
theorem Run.switchHit (X : Stand p l e R s m args below meth c T locs cells slots) (hx : p.tables.exec = Jvm.exec) {default : Int} {pairs : Array (Int × Int)} {len : Nat} {a off : Int} {z : Int32} (hd : decode c.code pc = .ok (.lookupswitch default pairs, len)) (hs : (pairs.toList.zip (pairs.toList.drop 1)).all (fun (a, next) => a.1 < next.1) = true) (hf : pairs.find? (·.1 == z.toInt) = some (a, off)) (ho : 0 ≤ (pc : Int) + off) (hp : ((pc : Int) + off).toNat = pc') (k : Run p.tables e below Φ T (mkF m pc' Ls rest)) : Run p.tables e below Φ T (mkF m pc Ls (.int z :: rest)) := by
  subst hp
  exact k.back fun _ kt => X.lookupswitchHit hx (g := mkF m pc Ls (.int z :: rest)) rfl rfl hd hs hf ho _ kt
theorem Run.switchMiss (X : Stand p l e R s m args below meth c T locs cells slots) (hx : p.tables.exec = Jvm.exec) {default : Int} {pairs : Array (Int × Int)} {len : Nat} {z : Int32} (hd : decode c.code pc = .ok (.lookupswitch default pairs, len)) (hs : (pairs.toList.zip (pairs.toList.drop 1)).all (fun (a, next) => a.1 < next.1) = true) (hf : pairs.find? (·.1 == z.toInt) = none) (ho : 0 ≤ (pc : Int) + default) (hp : ((pc : Int) + default).toNat = pc') (k : Run p.tables e below Φ T (mkF m pc' Ls rest)) : Run p.tables e below Φ T (mkF m pc Ls (.int z :: rest)) := by
  subst hp
  exact k.back fun _ kt => X.lookupswitchMiss hx (g := mkF m pc Ls (.int z :: rest)) rfl rfl hd hs hf ho _ kt
/-- a body that writes nothing returns r -/
abbrev QPure (n0 : Nat) (h0 : Heap) (r : Value) : Option Value → Heap → List Loc → Prop := fun v h L => v = some r ∧ Fr n0 L ∧ h = h0
theorem Run.retInt (X : Stand p l e R s m args below meth c T locs cells slots) (hx : p.tables.exec = Jvm.exec) {K N : Nat} {Q : Option Value → Heap → List Loc → Prop} {z : Int32} (hlk : meth.locks = false) (hret : meth.sig.returnType = some .int) (hd : decode c.code pc = .ok (.ireturn, 1)) (hQ : Q (some (.int z)) T.heap locs) (hc : cells ≤ K) (hn : slots ≤ N) : Run p.tables e below (FinR s K N Q) T (mkF m pc Ls (.int z :: rest)) := by
  obtain ⟨fs, hr, hrun, hended, hW, hsame⟩ := X.leave (v := (some (.int z))) (fun h => by rw [hret] at h; cases h) hlk
  exact ⟨_, _, retOut X hx hret rfl (Or.inl ⟨rfl, Or.inl rfl, z, rfl⟩) hd hr, hrun, hended, _, _, rfl, hQ, ⟨_, rfl⟩, hW, hsame.mono hc hn⟩
theorem Run.retLong (X : Stand p l e R s m args below meth c T locs cells slots) (hx : p.tables.exec = Jvm.exec) {K N : Nat} {Q : Option Value → Heap → List Loc → Prop} {z : Int64} (hlk : meth.locks = false) (hret : meth.sig.returnType = some .long) (hd : decode c.code pc = .ok (.lreturn, 1)) (hQ : Q (some (.long z)) T.heap locs) (hc : cells ≤ K) (hn : slots ≤ N) : Run p.tables e below (FinR s K N Q) T (mkF m pc Ls (.long z :: rest)) := by
  obtain ⟨fs, hr, hrun, hended, hW, hsame⟩ := X.leave (v := (some (.long z))) (fun h => by rw [hret] at h; cases h) hlk
  exact ⟨_, _, retOut X hx hret rfl (Or.inr (Or.inl ⟨rfl, rfl, z, rfl⟩)) hd hr, hrun, hended, _, _, rfl, hQ, ⟨_, rfl⟩, hW, hsame.mono hc hn⟩
theorem Run.retRef (X : Stand p l e R s m args below meth c T locs cells slots) (hx : p.tables.exec = Jvm.exec) {K N : Nat} {Q : Option Value → Heap → List Loc → Prop} {z : Addr} {t : FieldType} (hlk : meth.locks = false) (hret : meth.sig.returnType = some t) (ht : t.isReference = true) (hnr : narrow t (.ref z) = .ref z) (hd : decode c.code pc = .ok (.areturn, 1)) (hQ : Q (some (.ref z)) T.heap locs) (hc : cells ≤ K) (hn : slots ≤ N) : Run p.tables e below (FinR s K N Q) T (mkF m pc Ls (.ref z :: rest)) := by
  obtain ⟨fs, hr, hrun, hended, hW, hsame⟩ := X.leave (v := (some (.ref z))) (fun h => by rw [hret] at h; cases h) hlk
  exact ⟨_, _, retOut X hx hret hnr (Or.inr (Or.inr (Or.inr (Or.inr ⟨rfl, ht, rfl⟩)))) hd hr, hrun, hended, _, _, rfl, hQ, ⟨_, rfl⟩, hW, hsame.mono hc hn⟩
theorem Run.retSmall (X : Stand p l e R s m args below meth c T locs cells slots) (hx : p.tables.exec = Jvm.exec) {K N : Nat} {Q : Option Value → Heap → List Loc → Prop} {z z' : Int32} {t : FieldType} (hlk : meth.locks = false) (hret : meth.sig.returnType = some t) (ht : t = .boolean ∨ t = .byte ∨ t = .char ∨ t = .short) (hz : nar t z = z') (hd : decode c.code pc = .ok (.ireturn, 1)) (hQ : Q (some (.int z')) T.heap locs) (hc : cells ≤ K) (hn : slots ≤ N) : Run p.tables e below (FinR s K N Q) T (mkF m pc Ls (.int z :: rest)) := by
  obtain ⟨fs, hr, hrun, hended, hW, hsame⟩ := X.leave (v := (some (.int z'))) (fun h => by rw [hret] at h; cases h) hlk
  exact ⟨_, _, RoadKit.retN X hx hret ht hd (by rw [hz]; exact hr), hrun, hended, _, _, rfl, hQ, ⟨_, rfl⟩, hW, hsame.mono hc hn⟩
theorem Run.retVoid (X : Stand p l e R s m args below meth c T locs cells slots) (hx : p.tables.exec = Jvm.exec) {K N : Nat} {Q : Option Value → Heap → List Loc → Prop} (hlk : meth.locks = false) (hret : meth.sig.returnType = none) (hd : decode c.code pc = .ok (.return_, 1)) (hQ : Q none T.heap locs) (hc : cells ≤ K) (hn : slots ≤ N) : Run p.tables e below (FinR s K N Q) T (mkF m pc Ls []) := by
  obtain ⟨fs, hr, hrun, hended, hW, hsame⟩ := X.leave (v := none) (fun _ => rfl) hlk
  exact ⟨_, _, X.returnOut hx hret hd hr, hrun, hended, _, _, rfl, hQ, ⟨_, rfl⟩, hW, hsame.mono hc hn⟩
theorem callStatic (X : Stand p l e R s m args below meth c T locs cells slots) (hx : p.tables.exec = Jvm.exec) {a0 : Array Value} {Z : State} {h : Heap} {own : String} {index : Nat} {bytes : ByteArray} {maxL : Nat} {ret : Option FieldType} {rm : Room} {W : Nat} {Qc : Option Value → Heap → List Loc → Prop} {y : MethodName} {argsL : List Value} (hZ : Z.Warmed39 s.vm) (hown : s.vm.findClass own = some m.cls) (w1 : (Cond.methodLink own index y).before a0 Z = true) (w2 : (Cond.static y).before a0 Z = true) (w3 : (Cond.initialized y.cls).before a0 Z = true) (w4 : (Cond.code y bytes maxL ret).before a0 Z = true) (hy : y.cls ≠ "java/lang/invoke/MethodHandle" ∧ y.cls ≠ "java/lang/invoke/VarHandle") (eT : T.heap = h) (hM : MetFree l y (head1 [Cond.code y bytes maxL ret] rm) (fun av U => av = argsL.toArray ∧ Z.Warmed39 U.vm ∧ U.heap = h) (fun _ _ _ _ _ => True) (fun _ U o U' => ∃ v L, o = .returned v ∧ Qc v U'.heap L ∧ FrameEnd U o U' L rm.cells rm.slots)) (hd : decode c.code pc = .ok (.invokestatic index, 3)) (hlen : ∀ sig, parseMethodDescriptor y.desc = some sig → argsL.length = sig.parameters.length) (hf : rm.frames + 1 ≤ R.frames) (hl : W + (maxL + 11) + rm.locals ≤ R.locals) (hsize : Ls.size = c.maxLocals) (hW : (rest.map fun v => v.category).sum ≤ W) (hcs : cells + rm.cells ≤ R.cells) (hss : slots + rm.slots ≤ R.slots) :
    ∃ (T' : State) (L : List Loc) (v : Option Value), Stand p l e R s m args below meth c T' (locs ++ L) (cells + rm.cells) (slots + rm.slots) ∧ Qc v T'.heap L ∧ ∀ t, Steps p.tables e below (T'.setTop (mkF m (pc + 3) Ls (v.toList ++ rest))) t → Steps p.tables e below (T.setTop (mkF m pc Ls (argsL.reverse ++ rest))) t := by
  obtain ⟨v, vm, ⟨T', L', k', n'⟩, -, X', ⟨L, hQ, l1, l2, l3⟩, st⟩ := Jvm.LawKit.callS X hx (y := y) hown (mvT hZ w1) (mvT hZ w2) (mvT hZ w3) (mvT hZ w4) hy (backOf (W := W) hM hZ w4 w3 hf hl) (g := mkF m pc Ls (argsL.reverse ++ rest)) rfl hsize (argsL := argsL) (rest := rest) hlen rfl (by show 2 * 0 + _ ≤ _; omega) hd (fun _ _ => ⟨rfl, eT, hcs, hss⟩)
  dsimp only [Pt.U, Pt.locs, Pt.cells, Pt.slots] at X' hQ l1 l2 l3 st
  subst l1 l2 l3
  exact ⟨T', L, v, X', hQ, st⟩
theorem callSpecial (X : Stand p l e R s m args below meth c T locs cells slots) (hx : p.tables.exec = Jvm.exec) {a0 : Array Value} {Z : State} {h : Heap} {own : String} {index : Nat} {bytes : ByteArray} {maxL : Nat} {ret : Option FieldType} {rm : Room} {W : Nat} {Qc : Option Value → Heap → List Loc → Prop} {y : MethodName} {a : Addr} {argsL : List Value} (hy1 : y.name = "<init>") (hZ : Z.Warmed39 s.vm) (hown : s.vm.findClass own = some m.cls) (w1 : (Cond.methodLink own index y).before a0 Z = true) (w2 : (Cond.instanceMethod y).before a0 Z = true) (w3 : (Cond.initialized y.cls).before a0 Z = true) (w4 : (Cond.code y bytes maxL none).before a0 Z = true) (hy : y.cls ≠ "java/lang/invoke/MethodHandle" ∧ y.cls ≠ "java/lang/invoke/VarHandle") (eT : T.heap = h) (hM : MetFree l y (head1 [Cond.code y bytes maxL none] rm) (fun av U => av = (.ref a :: argsL).toArray ∧ Z.Warmed39 U.vm ∧ U.heap = h) (fun _ _ _ _ _ => True) (fun _ U o U' => ∃ v L, o = .returned v ∧ Qc v U'.heap L ∧ FrameEnd U o U' L rm.cells rm.slots)) (hd : decode c.code pc = .ok (.invokespecial index, 3)) (hlen : ∀ sig, parseMethodDescriptor y.desc = some sig → argsL.length = sig.parameters.length) (hf : rm.frames + 1 ≤ R.frames) (hl : W + (maxL + 11) + rm.locals ≤ R.locals) (hsize : Ls.size = c.maxLocals) (hW : (rest.map fun v => v.category).sum ≤ W) (hcs : cells + rm.cells ≤ R.cells) (hss : slots + rm.slots ≤ R.slots) :
    ∃ (T' : State) (L : List Loc) (v : Option Value), Stand p l e R s m args below meth c T' (locs ++ L) (cells + rm.cells) (slots + rm.slots) ∧ Qc v T'.heap L ∧ ∀ t, Steps p.tables e below (T'.setTop (mkF m (pc + 3) Ls (v.toList ++ rest))) t → Steps p.tables e below (T.setTop (mkF m pc Ls (argsL.reverse ++ .ref a :: rest))) t := by
  obtain ⟨v, vm, ⟨T', L', k', n'⟩, -, X', ⟨L, hQ, l1, l2, l3⟩, st⟩ := X.specialBack hx (y := y) hy1 hown (mvT hZ w1) (mvT hZ w2) (mvT hZ w4) hy (backOf (W := W) hM hZ w4 w3 hf hl) (g := mkF m pc Ls (argsL.reverse ++ .ref a :: rest)) rfl hsize (Steps.refl _) (a := a) (argsL := argsL) (rest := rest) hlen rfl (by show 2 * 0 + _ ≤ _; omega) hd (fun _ _ => ⟨rfl, eT, hcs, hss⟩)
  dsimp only [Pt.U, Pt.locs, Pt.cells, Pt.slots] at X' hQ l1 l2 l3 st
  subst l1 l2 l3
  exact ⟨T', L, v, X', hQ, fun t kt => st.trans kt⟩
theorem callVirtual (X : Stand p l e R s m args below meth c T locs cells slots) (hx : p.tables.exec = Jvm.exec) {a0 : Array Value} {Z : State} {h : Heap} {own : String} {index : Nat} {bytes : ByteArray} {maxL : Nat} {ret : Option FieldType} {rm : Room} {W : Nat} {Qc : Option Value → Heap → List Loc → Prop} {y z : MethodName} {C : String} {a : Addr} {argsL : List Value} (hZ : Z.Warmed39 s.vm) (hown : s.vm.findClass own = some m.cls) (w1 : (Cond.methodLink own index y).before a0 Z = true) (w2 : (Cond.declares y).before a0 Z = true) (hnf : NotFace s y) (w5 : (Cond.selects C y z).before a0 Z = true) (w6 : (Cond.instanceMethod z).before a0 Z = true) (w3 : (Cond.initialized z.cls).before a0 Z = true) (w4 : (Cond.code z bytes maxL ret).before a0 Z = true) (hy : y.cls ≠ "java/lang/invoke/MethodHandle" ∧ y.cls ≠ "java/lang/invoke/VarHandle") (eT : T.heap = h) (E : Exa Z h a C) (hM : MetFree l z (head1 [Cond.code z bytes maxL ret] rm) (fun av U => av = (.ref a :: argsL).toArray ∧ Z.Warmed39 U.vm ∧ U.heap = h) (fun _ _ _ _ _ => True) (fun _ U o U' => ∃ v L, o = .returned v ∧ Qc v U'.heap L ∧ FrameEnd U o U' L rm.cells rm.slots)) (hd : decode c.code pc = .ok (.invokevirtual index, 3)) (hlen : ∀ sig, parseMethodDescriptor y.desc = some sig → argsL.length = sig.parameters.length) (hf : rm.frames + 1 ≤ R.frames) (hl : W + (maxL + 11) + rm.locals ≤ R.locals) (hsize : Ls.size = c.maxLocals) (hW : (rest.map fun v => v.category).sum ≤ W) (hcs : cells + rm.cells ≤ R.cells) (hss : slots + rm.slots ≤ R.slots) :
    ∃ (T' : State) (L : List Loc) (v : Option Value), Stand p l e R s m args below meth c T' (locs ++ L) (cells + rm.cells) (slots + rm.slots) ∧ Qc v T'.heap L ∧ ∀ t, Steps p.tables e below (T'.setTop (mkF m (pc + 3) Ls (v.toList ++ rest))) t → Steps p.tables e below (T.setTop (mkF m pc Ls (argsL.reverse ++ .ref a :: rest))) t := by
  obtain ⟨cB, kB, qa, -, qc⟩ := isOf hZ eT E
  obtain ⟨v, vm, ⟨T', L', k', n'⟩, -, X', ⟨L, hQ, l1, l2, l3⟩, st⟩ := X.virtualBack hx (y := y) (z := z) hown (mvT hZ w1) (mvT hZ w2) hnf (mvT hZ w5) (mvT hZ w6) hy (backOf (W := W) hM hZ w4 w3 hf hl) qa qc (g := mkF m pc Ls (argsL.reverse ++ .ref a :: rest)) rfl hsize (Steps.refl _) (argsL := argsL) (rest := rest) hlen rfl (by show 2 * 0 + _ ≤ _; omega) hd (fun _ _ => ⟨rfl, eT, hcs, hss⟩)
  dsimp only [Pt.U, Pt.locs, Pt.cells, Pt.slots] at X' hQ l1 l2 l3 st
  subst l1 l2 l3
  exact ⟨T', L, v, X', hQ, fun t kt => st.trans kt⟩
end Steps
section Arrays
variable {Z : State} {h h' : Heap} {a b : Addr} {ty : FieldType} {n : Int32} {f : Int32 → Int32} {sl : Nat} {v : Value} {ws : List Addr}
/-- the array at a: of kind ty, n places, the place j holds the int f j -/
def Ints (Z : State) (h : Heap) (a : Addr) (ty : FieldType) (n : Int32) (f : Int32 → Int32) : Prop := ∃ cl : Cell, Arr Z h a cl ty ∧ cl.slots.size = n.toNatClampNeg ∧ ¬ n < 0 ∧ ∀ j : Int32, ¬ j < 0 → j < n → cl.slots[j.toNatClampNeg]? = some (.int (f j))
theorem Ints.lt (F : Ints Z h a ty n f) : a < h.size := by obtain ⟨_, A, -⟩ := F; exact A.lt
theorem Ints.ext (E : Ext h h') (F : Ints Z h a ty n f) : Ints Z h' a ty n f := by obtain ⟨c, A, r⟩ := F; exact ⟨c, A.ext E, r⟩
theorem Ints.other (W : Wr h h' b sl v) (F : Ints Z h a ty n f) (q : a ≠ b) : Ints Z h' a ty n f := by obtain ⟨c, A, r⟩ := F; exact ⟨c, A.other W q, r⟩
theorem Ints.keep (F : Ints Z h a ty n f) (K : Keep h h' ws) (q : a ∉ ws) : Ints Z h' a ty n f := by obtain ⟨c, A, r⟩ := F; exact ⟨c, ⟨K.2.1 a c A.1 q, A.2⟩, r⟩
theorem Ints.inb {cl : Cell} (S : cl.slots.size = n.toNatClampNeg) {j : Int32} (h1 : ¬ j < 0) (h2 : j < n) : ¬ (j < 0 ∨ cl.slots.size ≤ j.toNatClampNeg) := inb_of S ⟨h1, h2⟩
theorem nat_inj {i j : Int32} (hi : ¬ i < 0) (hj : ¬ j < 0) (q : i.toNatClampNeg = j.toNatClampNeg) : i = j := Int32.toInt_inj.mp (by rw [nat_of hi, nat_of hj, q])
theorem Ints.set {j : Int32} {x : Int32} {cl : Cell} (A : Arr Z h a cl ty) (S : cl.slots.size = n.toNatClampNeg) (hn : ¬ n < 0) (H : ∀ j : Int32, ¬ j < 0 → j < n → cl.slots[j.toNatClampNeg]? = some (.int (f j))) (h1 : ¬ j < 0) (h2 : j < n) (W : Wr h h' a j.toNatClampNeg (.int x)) : Ints Z h' a ty n (fun i => if i = j then x else f i) := by
  refine ⟨_, A.same W, by rw [← S]; simp [Cell.setSlot], hn, fun i hi hi2 => ?_⟩
  have hlt : i.toNatClampNeg < cl.slots.size := Nat.lt_of_not_le fun q => inb_of S ⟨hi, hi2⟩ (Or.inr q)
  by_cases e : i = j
  · subst e; simp [Cell.setSlot, hlt]
  · have hne : j.toNatClampNeg ≠ i.toNatClampNeg := fun q => e (nat_inj hi h1 q.symm)
    simp only [if_neg e]
    rw [← H i hi hi2]
    simp [Cell.setSlot, Array.getElem?_setIfInBounds_ne hne]
theorem Ints.new {k : ClassId} (A : Arr Z h a (newA k ty n) ty) (hn : ¬ n < 0) (hd : defaultValue ty = .int 0) : Ints Z h a ty n (fun _ => 0) := by
  obtain ⟨cl, A', -, S, -, H, -⟩ := Arv.new A hn
  exact ⟨cl, A', S, hn, fun j h1 h2 => by rw [H _ (Nat.lt_of_not_le fun q => inb_of S ⟨h1, h2⟩ (Or.inr q))]; simp [hd]⟩
theorem Ints.congr {g : Int32 → Int32} (F : Ints Z h a ty n f) (q : ∀ j : Int32, ¬ j < 0 → j < n → f j = g j) : Ints Z h a ty n g := by
  obtain ⟨cl, A, S, hn, H⟩ := F
  exact ⟨cl, A, S, hn, fun j h1 h2 => by rw [← q j h1 h2]; exact H j h1 h2⟩
end Arrays
section ArraySteps
variable {p : Program} {l : Launch} {e : Env} {R : Room} {s : State} {m : MethodId} {args : Array Value} {below : List Frame} {meth : Method} {c : Code} {T : State} {locs : List Loc} {cells slots : Nat} {Φ : Outcome → State → Prop} {pc pc' : Nat} {Ls : Array Slot} {rest : List Value} {Z : State} {h : Heap} {a : Addr} {n j : Int32} {f : Int32 → Int32}
theorem Run.iaload (X : Stand p l e R s m args below meth c T locs cells slots) (hx : p.tables.exec = Jvm.exec) (hZ : Z.Warmed39 s.vm) (eT : T.heap = h) (F : Ints Z h a .int n f) (h1 : ¬ j < 0) (h2 : j < n) (hd : decode c.code pc = .ok (.iaload, 1)) (hp : pc + 1 = pc') (k : Run p.tables e below Φ T (mkF m pc' Ls (.int (f j) :: rest))) : Run p.tables e below Φ T (mkF m pc Ls (.int j :: .ref a :: rest)) := by
  subst hp
  obtain ⟨cl, A, S, hn, H⟩ := F
  exact k.back fun _ kt => X.iaload hx (by rw [eT]; exact A.1) (State.isArrayOf_alike hZ.alike A.2.1) A.2.2 (inb_of S ⟨h1, h2⟩) (H j h1 h2) (g := mkF m pc Ls (.int j :: .ref a :: rest)) rfl rfl hd _ kt
theorem Run.baload (X : Stand p l e R s m args below meth c T locs cells slots) (hx : p.tables.exec = Jvm.exec) (hZ : Z.Warmed39 s.vm) (eT : T.heap = h) (F : Ints Z h a .byte n f) (h1 : ¬ j < 0) (h2 : j < n) (hd : decode c.code pc = .ok (.baload, 1)) (hp : pc + 1 = pc') (k : Run p.tables e below Φ T (mkF m pc' Ls (.int (f j) :: rest))) : Run p.tables e below Φ T (mkF m pc Ls (.int j :: .ref a :: rest)) := by
  subst hp
  obtain ⟨cl, A, S, hn, H⟩ := F
  exact k.back fun _ kt => X.baloadBytes hx (by rw [eT]; exact A.1) (State.isArrayOf_alike hZ.alike A.2.1) A.2.2 (inb_of S ⟨h1, h2⟩) (H j h1 h2) (g := mkF m pc Ls (.int j :: .ref a :: rest)) rfl rfl hd _ kt
theorem Run.zaload (X : Stand p l e R s m args below meth c T locs cells slots) (hx : p.tables.exec = Jvm.exec) (hZ : Z.Warmed39 s.vm) (eT : T.heap = h) (F : Ints Z h a .boolean n f) (h1 : ¬ j < 0) (h2 : j < n) (hd : decode c.code pc = .ok (.baload, 1)) (hp : pc + 1 = pc') (k : Run p.tables e below Φ T (mkF m pc' Ls (.int (f j) :: rest))) : Run p.tables e below Φ T (mkF m pc Ls (.int j :: .ref a :: rest)) := by
  subst hp
  obtain ⟨cl, A, S, hn, H⟩ := F
  exact k.back fun _ kt => X.baloadBooleans hx (by rw [eT]; exact A.1) (State.isArrayOf_alike hZ.alike A.2.1) A.2.2 (inb_of S ⟨h1, h2⟩) (H j h1 h2) (g := mkF m pc Ls (.int j :: .ref a :: rest)) rfl rfl hd _ kt
theorem Run.arraylength (X : Stand p l e R s m args below meth c T locs cells slots) (hx : p.tables.exec = Jvm.exec) {ty : FieldType} (hZ : Z.Warmed39 s.vm) (eT : T.heap = h) (F : Ints Z h a ty n f) (hd : decode c.code pc = .ok (.arraylength, 1)) (hp : pc + 1 = pc') (k : Run p.tables e below Φ T (mkF m pc' Ls (.int n :: rest))) : Run p.tables e below Φ T (mkF m pc Ls (.ref a :: rest)) := by
  subst hp
  obtain ⟨cl, A, S, hn, H⟩ := F
  rw [← len_of S hn] at k
  exact k.back fun _ kt => X.arraylength hx (by rw [eT]; exact A.1) (State.isArrayOf_alike hZ.alike A.2.1) (g := mkF m pc Ls (.ref a :: rest)) rfl rfl hd _ kt
theorem st_iastore (X : Stand p l e R s m args below meth c T locs cells slots) (hx : p.tables.exec = Jvm.exec) {x : Int32} (hZ : Z.Warmed39 s.vm) (eT : T.heap = h) (F : Ints Z h a .int n f) (h1 : ¬ j < 0) (h2 : j < n) (hd : decode c.code pc = .ok (.iastore, 1)) : ∃ T' h' sl v, Stand p l e R s m args below meth c T' (locs ++ [⟨a, sl⟩]) cells slots ∧ T'.heap = h' ∧ Wr h h' a sl v ∧ Ints Z h' a .int n (fun i => if i = j then x else f i) ∧ ∀ t, Steps p.tables e below (T'.setTop (mkF m (pc + 1) Ls rest)) t → Steps p.tables e below (T.setTop (mkF m pc Ls (.int x :: .int j :: .ref a :: rest))) t := by
  obtain ⟨cl, A, S, hn, H⟩ := F
  obtain ⟨T', h', X', e', W, st⟩ := stI X hx hZ eT A (j := j) (x := x) (inb_of S ⟨h1, h2⟩) (g := mkF m pc Ls (.int x :: .int j :: .ref a :: rest)) rfl rfl hd
  exact ⟨T', h', _, _, X', e', W, Ints.set A S hn H h1 h2 W, st⟩
theorem st_bastore (X : Stand p l e R s m args below meth c T locs cells slots) (hx : p.tables.exec = Jvm.exec) {x : Int32} (hZ : Z.Warmed39 s.vm) (eT : T.heap = h) (F : Ints Z h a .byte n f) (h1 : ¬ j < 0) (h2 : j < n) (hd : decode c.code pc = .ok (.bastore, 1)) : ∃ T' h' sl v, Stand p l e R s m args below meth c T' (locs ++ [⟨a, sl⟩]) cells slots ∧ T'.heap = h' ∧ Wr h h' a sl v ∧ Ints Z h' a .byte n (fun i => if i = j then x.toInt8.toInt32 else f i) ∧ ∀ t, Steps p.tables e below (T'.setTop (mkF m (pc + 1) Ls rest)) t → Steps p.tables e below (T.setTop (mkF m pc Ls (.int x :: .int j :: .ref a :: rest))) t := by
  obtain ⟨cl, A, S, hn, H⟩ := F
  obtain ⟨T', h', X', e', W, st⟩ := stB X hx hZ eT A (j := j) (x := x) (inb_of S ⟨h1, h2⟩) (g := mkF m pc Ls (.int x :: .int j :: .ref a :: rest)) rfl rfl hd
  exact ⟨T', h', _, _, X', e', W, Ints.set A S hn H h1 h2 W, st⟩
theorem st_zastore (X : Stand p l e R s m args below meth c T locs cells slots) (hx : p.tables.exec = Jvm.exec) {x : Int32} (hZ : Z.Warmed39 s.vm) (eT : T.heap = h) (F : Ints Z h a .boolean n f) (h1 : ¬ j < 0) (h2 : j < n) (hd : decode c.code pc = .ok (.bastore, 1)) : ∃ T' h' sl v, Stand p l e R s m args below meth c T' (locs ++ [⟨a, sl⟩]) cells slots ∧ T'.heap = h' ∧ Wr h h' a sl v ∧ Ints Z h' a .boolean n (fun i => if i = j then x &&& 1 else f i) ∧ ∀ t, Steps p.tables e below (T'.setTop (mkF m (pc + 1) Ls rest)) t → Steps p.tables e below (T.setTop (mkF m pc Ls (.int x :: .int j :: .ref a :: rest))) t := by
  obtain ⟨cl, A, S, hn, H⟩ := F
  obtain ⟨T', h', X', e', W, st⟩ := stZ X hx hZ eT A (j := j) (x := x) (inb_of S ⟨h1, h2⟩) (g := mkF m pc Ls (.int x :: .int j :: .ref a :: rest)) rfl rfl hd
  exact ⟨T', h', _, _, X', e', W, Ints.set A S hn H h1 h2 W, st⟩
theorem st_newarray (X : Stand p l e R s m args below meth c T locs cells slots) (hx : p.tables.exec = Jvm.exec) {aty : ArrayType} {a0 : Array Value} (hZ : Z.Warmed39 s.vm) (w : (Cond.arrayClass (newarray.typeOf aty)).before a0 Z = true) (eT : T.heap = h) (hd : decode c.code pc = .ok (.newarray aty, 2)) (hn : ¬ n < 0) {cap : Nat} (hcap : n.toNatClampNeg ≤ cap) (hb : cap * 8 ≤ 536870912) (hc : cells + 1 ≤ R.cells) (hl : slots + cap ≤ R.slots) (hdef : defaultValue (newarray.typeOf aty) = .int 0) : ∃ T' h' b, Stand p l e R s m args below meth c T' locs (cells + 1) (slots + cap) ∧ T'.heap = h' ∧ Ext h h' ∧ b = h.size ∧ Ints Z h' b (newarray.typeOf aty) n (fun _ => 0) ∧ ∀ t, Steps p.tables e below (T'.setTop (mkF m (pc + 2) Ls (.ref b :: rest))) t → Steps p.tables e below (T.setTop (mkF m pc Ls (.int n :: rest))) t := by
  obtain ⟨T', h', cA, X', e', E, A, st⟩ := newP X hx hZ w eT (g := mkF m pc Ls (.int n :: rest)) rfl hd rfl hn hcap hb hc hl
  exact ⟨T', h', _, X', e', E, rfl, Ints.new A hn hdef, st⟩
end ArraySteps
section Table
variable {Z : State} {args : Array Value} {t : Term} {a : Addr} {c : Cell} {ty : FieldType} {n j : Int32}
theorem tab_ints {h : Heap} (F : Tab Z h a c ty n) : Ints Z h a ty n (atv c) := ⟨c, F.1, F.2.1, F.2.2.1, fun j h1 h2 => F.2.2.2 j (inb_of F.2.1 ⟨h1, h2⟩)⟩
theorem tab_all {q : Jvm.Cond} (et : ∀ idx, t.eval args Z none idx Z = some (.ref a)) (F : Tab Z Z.heap a c ty n) (h : (Jvm.Cond.all t q).value args Z none Z [] = some true) (h1 : ¬ j < 0) (h2 : j < n) : q.value args Z none Z [j.toNatClampNeg] = some true :=
  Jvm.Cond.all_elim (et []) (F.1.fin (Vm.Alike.refl _)) h _ (Nat.lt_of_not_le fun y => inb_of F.2.1 ⟨h1, h2⟩ (Or.inr y))
theorem tab_elem (et : ∀ idx, t.eval args Z none idx Z = some (.ref a)) (F : Tab Z Z.heap a c ty n) (h1 : ¬ j < 0) (h2 : j < n) : (Term.elem t (.index 0)).eval args Z none [j.toNatClampNeg] Z = some (.int (atv c j)) :=
  (elem_f (et _) (idx_at h1) (F.1.fin (Vm.Alike.refl _)) h1).trans (F.2.2.2 j (inb_of F.2.1 ⟨h1, h2⟩))
theorem tab_le {x v : Int32} (et : ∀ idx, t.eval args Z none idx Z = some (.ref a)) (F : Tab Z Z.heap a c ty n) (h : (Jvm.Cond.all t (.or (.le (.int x) (.index 0)) (.eq (.elem t (.index 0)) (.int v)))).value args Z none Z [] = some true) (j : Int32) (h1 : ¬ j < 0) (h2 : j < n) : x ≤ j ∨ atv c j = v :=
  or_e2 (Jvm.Cond.le_ints (Term.int_eval x) (idx_at h1)) (Jvm.Cond.eq_ints (tab_elem et F h1 h2) (Term.int_eval v)) (tab_all et F h h1 h2)
theorem tab_in {x y v : Int32} (et : ∀ idx, t.eval args Z none idx Z = some (.ref a)) (F : Tab Z Z.heap a c ty n) (h : (Jvm.Cond.all t (.or (.lt (.index 0) (.int x)) (.or (.le (.int y) (.index 0)) (.eq (.elem t (.index 0)) (.int v))))).value args Z none Z [] = some true) (j : Int32) (h1 : ¬ j < 0) (h2 : j < n) : j < x ∨ ¬ j < y ∨ atv c j = v :=
  or3 (tab_all et F h h1 h2) (Jvm.Cond.lt_ints (idx_at h1) (Term.int_eval x)) (Jvm.Cond.le_ints (Term.int_eval y) (idx_at h1)) (Jvm.Cond.eq_ints (tab_elem et F h1 h2) (Term.int_eval v))
theorem tab_one {k v : Int32} (et : ∀ idx, t.eval args Z none idx Z = some (.ref a)) (F : Tab Z Z.heap a c ty n) (h1 : ¬ k < 0) (h2 : k < n) (h : (Jvm.Cond.eq (.elem t (.int k)) (.int v)).value args Z none Z [] = some true) : atv c k = v := by
  have e := (elem_f (et []) (Term.int_eval (args := args) (first := Z) (o := none) (idx := []) (s := Z) k) (F.1.fin (Vm.Alike.refl _)) h1).trans (F.2.2.2 k (inb_of F.2.1 ⟨h1, h2⟩))
  have q := (Jvm.Cond.eq_ints e (Term.int_eval v)).symm.trans h
  simpa using q
theorem tab_ge {x v : Int32} (et : ∀ idx, t.eval args Z none idx Z = some (.ref a)) (F : Tab Z Z.heap a c ty n) (h : (Jvm.Cond.all t (.or (.lt (.index 0) (.int x)) (.eq (.elem t (.index 0)) (.int v)))).value args Z none Z [] = some true) (j : Int32) (h1 : ¬ j < 0) (h2 : j < n) : j < x ∨ atv c j = v :=
  or_e2 (Jvm.Cond.lt_ints (idx_at h1) (Term.int_eval x)) (Jvm.Cond.eq_ints (tab_elem et F h1 h2) (Term.int_eval v)) (tab_all et F h h1 h2)
theorem tab_start (hf : Fit Z) (et : t.eval args Z none [] Z = some (.ref a)) (A : Arr Z Z.heap a c ty) (hl : (Jvm.Cond.eq (Term.length t) (.int n)).value args Z none Z [] = some true) (ht : ty = .int ∨ ty = .boolean ∨ ty = .byte ∨ ty = .char ∨ ty = .short) (hn : ¬ n < 0) : Tab Z Z.heap a c ty n := by
  have e := eqv_i (Term.int_eval n) hl
  have ha : Z.arrayAt? a = some c := A.fin (Vm.Alike.refl _)
  by_cases q : c.slots.size < 2 ^ 31
  · have e2 := len_f et ha q
    exact Tab.start hf A ht q (by simpa using Option.some.inj (e2.symm.trans e)) hn
  · simp [Term.eval, et, ha, q] at e
theorem small_int (N : Nat) (hN : N < 2147483648) (P : Int32 → Prop) (H : ∀ k : Fin N, P (Int32.ofNat k.val)) (c : Int32) (h1 : ¬ c < 0) (h2 : c < Int32.ofNat N) : P c := by
  have e : c.toInt = (c.toNatClampNeg : Int) := nat_of h1
  have hc : Int32.ofNat c.toNatClampNeg = c := by
    apply Int32.toInt_inj.mp
    rw [Int32.toInt_ofNat_of_lt (by have := c.toInt_lt; omega), e]
  have h3 : c.toInt < (Int32.ofNat N).toInt := Int32.lt_iff_toInt_lt.mp h2
  rw [Int32.toInt_ofNat_of_lt (by omega)] at h3
  rw [← hc]
  exact H ⟨c.toNatClampNeg, by omega⟩
end Table
end Jvm.OwnRun

namespace Jvm.Pilot.@@N@@
open Jvm Jvm.ClassFile Sem Op Lib Jvm.Free Jvm.Stand Jvm.LawKit Jvm.RoadKit Jvm.OwnRun Bundle Jvm.Pilot.@@N@@.Jvm.D
theorem own_pd0 : parseMethodDescriptor "(ZJDJ)Z" = some ⟨[.boolean, .long, .double, .long], some .boolean⟩ := by decide +kernel
theorem own_pn0 : plainName "com/example/tallyhold/tallyhold/ledger/Ledger" = true := by first | (simp [plainName, overriddenIn]; done) | decide +kernel
theorem own_pn1 : plainName "com/example/tallyhold/tallyhold/ledger/LedgerSnapshotHurriesPinLaw" = true := by first | (simp [plainName, overriddenIn]; done) | decide +kernel
def own_f1_24 (p0 : Int32) (q1 : Int64) (d2 : UInt64) (q3 : Int64) (y24_0 : Int32) : Int32 := (y24_0 &&& 1)
def own_f1_19 (p0 : Int32) (q1 : Int64) (d2 : UInt64) (q3 : Int64) : Int32 := (own_f1_24 p0 q1 d2 q3 (1 : Int32))
def own_F1 (p0 : Int32) (q1 : Int64) (d2 : UInt64) (q3 : Int64) : Int32 := (if p0 = (0 : Int32) then (if (cmpValue (FP.dcmp (FP.l2d q1) (FP.ddiv (FP.dmul d2 (FP.l2d q3)) (4611686018427387904 : UInt64))) .l) < (0 : Int32) then (own_f1_24 p0 q1 d2 q3 (0 : Int32)) else (own_f1_19 p0 q1 d2 q3)) else (own_f1_19 p0 q1 d2 q3))
theorem own_d1_0 : decode prog_71_method_30_code 0 = .ok (.iload_n 0, 1) := by decide +kernel
theorem own_d1_1 : decode prog_71_method_30_code 1 = .ok (.ifCond .ne 18, 3) := by decide +kernel
theorem own_d1_4 : decode prog_71_method_30_code 4 = .ok (.lload_n 1, 1) := by decide +kernel
theorem own_d1_5 : decode prog_71_method_30_code 5 = .ok (.l2d, 1) := by decide +kernel
theorem own_d1_6 : decode prog_71_method_30_code 6 = .ok (.dload_n 3, 1) := by decide +kernel
theorem own_d1_7 : decode prog_71_method_30_code 7 = .ok (.lload 5, 2) := by decide +kernel
theorem own_d1_9 : decode prog_71_method_30_code 9 = .ok (.l2d, 1) := by decide +kernel
theorem own_d1_10 : decode prog_71_method_30_code 10 = .ok (.dmul, 1) := by decide +kernel
theorem own_d1_11 : decode prog_71_method_30_code 11 = .ok (.ldc2_w 578, 3) := by decide +kernel
theorem own_d1_14 : decode prog_71_method_30_code 14 = .ok (.ddiv, 1) := by decide +kernel
theorem own_d1_15 : decode prog_71_method_30_code 15 = .ok (.dcmp .l, 1) := by decide +kernel
theorem own_d1_16 : decode prog_71_method_30_code 16 = .ok (.ifCond .lt 7, 3) := by decide +kernel
theorem own_d1_19 : decode prog_71_method_30_code 19 = .ok (.iconst 1, 1) := by decide +kernel
theorem own_d1_20 : decode prog_71_method_30_code 20 = .ok (.goto 4, 3) := by decide +kernel
theorem own_d1_23 : decode prog_71_method_30_code 23 = .ok (.iconst 0, 1) := by decide +kernel
theorem own_d1_24 : decode prog_71_method_30_code 24 = .ok (.ireturn, 1) := by decide +kernel
theorem own_ef1 (m : MethodId) (x0 : Int32) (x1 : Int64) (x2 : UInt64) (x3 : Int64) : entryFrame m #[(.int x0), (.long x1), (.double x2), (.long x3)] 7 = mkF m 0 #[.val (.int x0), .val (.long x1), .second, .val (.double x2), .second, .val (.long x3), .second] [] := by first | (simp [entryFrame, mkF, argsToLocals, Value.category]; done) | rfl
set_option maxRecDepth 65536 in
set_option maxHeartbeats 40000000 in
theorem rm1 (l : Launch) (Z : State) (a0 : Array Value) (hw : ∀ d ∈ tables_1, d.before a0 Z = true) (ws : List Jvm.Cond) (p0 : Int32) (q1 : Int64) (d2 : UInt64) (q3 : Int64) (h0 : Heap) (n0 : Nat) (Z0 : n0 ≤ h0.size) (hn1 : Jvm.Free.Fl.NoNaN64 (FP.dmul d2 (FP.l2d q3))) (hn2 : Jvm.Free.Fl.NoNaN64 (FP.ddiv (FP.dmul d2 (FP.l2d q3)) (4611686018427387904 : UInt64))) :
    MetFree l (⟨"com/example/tallyhold/tallyhold/ledger/Ledger", "snapshotHurries", "(ZJDJ)Z"⟩ : MethodName) (head1 (Jvm.Cond.code (⟨"com/example/tallyhold/tallyhold/ledger/Ledger", "snapshotHurries", "(ZJDJ)Z"⟩ : MethodName) prog_71_method_30_code 7 (some .boolean) :: ws) ({ frames := 0, cells := 0, slots := 0, locals := 0 } : Room)) (fun a U => a = #[(.int p0), (.long q1), (.double d2), (.long q3)] ∧ Z.Warmed39 U.vm ∧ U.heap = h0) (fun _ _ _ _ _ => True) (fun _ U o U' => ∃ v L, o = .returned v ∧ (QPure n0 h0 (.int (own_F1 p0 q1 d2 q3))) v U'.heap L ∧ FrameEnd U o U' L ({ frames := 0, cells := 0, slots := 0, locals := 0 } : Room).cells ({ frames := 0, cells := 0, slots := 0, locals := 0 } : Room).slots) := by
  refine MetFree.of_bodySF (plainFor_of_name own_pn0) hisR ?_
  intro p e s m args below meth c s₁ Bd hml0 hP hK
  obtain ⟨rfl, hZ, hh⟩ := hP
  have hx := Bd.exec
  have hby := Bd.bytes
  have hml : c.maxLocals = 7 := hml0
  have hown : s.vm.findClass "com/example/tallyhold/tallyhold/ledger/Ledger" = some m.cls := findClass_of_methodNamed Bd.named
  have hnm := (name_of_methodNamed Bd.named Bd.method).1
  have X0 : Stand p l e ({ frames := 0, cells := 0, slots := 0, locals := 0 } : Room) s m #[(.int p0), (.long q1), (.double d2), (.long q3)] below meth c s₁ [] 0 0 := Stand.of_body Bd
  have e0 : s₁.heap = h0 := by rw [← hh, Bd.state]; rfl
  have N0 := Fr.nil n0
  suffices H : Run p.tables e below (FinR s ({ frames := 0, cells := 0, slots := 0, locals := 0 } : Room).cells ({ frames := 0, cells := 0, slots := 0, locals := 0 } : Room).slots (QPure n0 h0 (.int (own_F1 p0 q1 d2 q3)))) s₁ (mkF m 0 #[.val (.int p0), .val (.long q1), .second, .val (.double d2), .second, .val (.long q3), .second] []) by
    obtain ⟨s₂, o, k1, k2, k3, k4⟩ := H
    exact ⟨s₂, o, castTop (own_ef1 m p0 q1 d2 q3) k1, k2, k3, k4⟩
  obtain ⟨r, hr⟩ : ∃ r, r = own_F1 p0 q1 d2 q3 := ⟨_, rfl⟩
  rw [← hr]
  have J24 : ∀ (y24_0 : Int32) (r : Int32), r = (own_f1_24 p0 q1 d2 q3 y24_0) → ∀ (T : State) (locs : List Loc), Stand p l e ({ frames := 0, cells := 0, slots := 0, locals := 0 } : Room) s m #[(.int p0), (.long q1), (.double d2), (.long q3)] below meth c T locs 0 0 → T.heap = h0 → Fr n0 locs → Run p.tables e below (FinR s ({ frames := 0, cells := 0, slots := 0, locals := 0 } : Room).cells ({ frames := 0, cells := 0, slots := 0, locals := 0 } : Room).slots (QPure n0 h0 (.int r))) T (mkF m 24 #[.val (.int p0), .val (.long q1), .second, .val (.double d2), .second, .val (.long q3), .second] [(.int y24_0)]) := by
    clear hr
    intro y24_0 r hr T locs X eT N
    rw [own_f1_24] at hr
    exact Run.retSmall X hx (t := .boolean) (z' := (y24_0 &&& 1)) Bd.notSynchronized Bd.returns (by simp) rfl (hb hby own_d1_24) ⟨by rw [hr], N, eT⟩ (by decide) (by decide)
  have J19 : ∀  (r : Int32), r = (own_f1_19 p0 q1 d2 q3) → ∀ (T : State) (locs : List Loc), Stand p l e ({ frames := 0, cells := 0, slots := 0, locals := 0 } : Room) s m #[(.int p0), (.long q1), (.double d2), (.long q3)] below meth c T locs 0 0 → T.heap = h0 → Fr n0 locs → Run p.tables e below (FinR s ({ frames := 0, cells := 0, slots := 0, locals := 0 } : Room).cells ({ frames := 0, cells := 0, slots := 0, locals := 0 } : Room).slots (QPure n0 h0 (.int r))) T (mkF m 19 #[.val (.int p0), .val (.long q1), .second, .val (.double d2), .second, .val (.long q3), .second] []) := by
    clear hr
    intro  r hr T locs X eT N
    rw [own_f1_19] at hr
    refine Run.iconst (pc' := 20) (v := (1 : Int32)) X hx (hb hby own_d1_19) rfl rfl ?_
    refine Run.goto (pc' := 24) X hx (hb hby own_d1_20) (by decide) (by decide) ?_
    exact J24 (1 : Int32) _ hr _ _ X eT N
  rw [own_F1] at hr
  refine Run.iloadN (pc' := 1) X0 hx (hb hby own_d1_0) rfl rfl ?_
  by_cases hc1 : p0 = (0 : Int32)
  · rw [if_pos hc1] at hr
    refine Run.ifNo (pc' := 4) X0 hx (hb hby own_d1_1) ((if0 _ _).trans (teq hc1).2) rfl ?_
    refine Run.lloadN (pc' := 5) X0 hx (hb hby own_d1_4) rfl rfl ?_
    refine Run.l2d (pc' := 6) X0 hx (hb hby own_d1_5) rfl ?_
    refine Run.dloadN (pc' := 7) X0 hx (hb hby own_d1_6) rfl rfl ?_
    refine Run.lload (pc' := 9) X0 hx (hb hby own_d1_7) rfl rfl ?_
    refine Run.l2d (pc' := 10) X0 hx (hb hby own_d1_9) rfl ?_
    refine Run.dmul (pc' := 11) X0 hx (hb hby own_d1_10) hn1 rfl ?_
    refine Run.ldc2Double (pc' := 14) (v := (4611686018427387904 : UInt64)) X0 hx hown (mvT hZ (hw _ (List.mem_of_getElem? (i := 7) rfl))) (hb hby own_d1_11) rfl ?_
    refine Run.ddiv (pc' := 15) X0 hx (hb hby own_d1_14) hn2 rfl ?_
    refine Run.dcmp (pc' := 16) X0 hx (hb hby own_d1_15) rfl ?_
    by_cases hc16 : (cmpValue (FP.dcmp (FP.l2d q1) (FP.ddiv (FP.dmul d2 (FP.l2d q3)) (4611686018427387904 : UInt64))) .l) < (0 : Int32)
    · rw [if_pos hc16] at hr
      refine Run.ifYes (pc' := 23) X0 hx (hb hby own_d1_16) ((if0 _ _).trans (tlt hc16).1) (by decide) (by decide) ?_
      refine Run.iconst (pc' := 24) (v := (0 : Int32)) X0 hx (hb hby own_d1_23) rfl rfl ?_
      exact J24 (0 : Int32) _ hr _ _ X0 e0 N0
    · rw [if_neg hc16] at hr
      refine Run.ifNo (pc' := 19) X0 hx (hb hby own_d1_16) ((if0 _ _).trans (flt hc16).1) rfl ?_
      exact J19  _ hr _ _ X0 e0 N0
  · rw [if_neg hc1] at hr
    refine Run.ifYes (pc' := 19) X0 hx (hb hby own_d1_1) ((if0 _ _).trans (feq hc1).2) (by decide) (by decide) ?_
    exact J19  _ hr _ _ X0 e0 N0
theorem own_p52 : (2 : Nat) ^ 52 = 4503599627370496 := by decide +kernel
theorem own_p53 : (2 : Nat) ^ 53 = 9007199254740992 := by decide +kernel
theorem own_qmin : FP.Core.b64.qmin = -1074 := by decide +kernel
theorem own_qmax : FP.Core.b64.qmax = 971 := by decide +kernel
theorem own_tails : FP.Core.b64.tails = 4503599627370496 := by decide +kernel
theorem own_p : FP.Core.b64.p = 53 := rfl
theorem own_fitsD {c : Nat} {q : Int} (h1 : c < 9007199254740992) (h2 : -1074 ≤ q) (h3 : q ≤ 971) (h4 : 4503599627370496 ≤ c) : FP.Core.fits FP.Core.b64 (.fin false c q) :=
  ⟨by rw [own_p, own_p53]; exact h1, by rw [own_qmin]; exact h2, by rw [own_qmax]; exact h3, Or.inr (by rw [own_tails]; exact h4)⟩
theorem own_norm {a : Int64} (h0 : 0 < a.toInt) (h1 : a.toInt < 9007199254740992) : ∃ r : Nat, FP.Core.val64 (FP.Core.l2d a) = .fin false (a.toInt.toNat * 2 ^ r) (-(r : Int)) ∧ r ≤ 52 ∧ 4503599627370496 ≤ a.toInt.toNat * 2 ^ r ∧ a.toInt.toNat * 2 ^ r < 9007199254740992 := by
  obtain ⟨c, q, h⟩ := FP.Core.l2d_shape a
  have hs : decide (a.toInt < 0) = false := decide_eq_false (by omega)
  rw [hs] at h
  have hw := FP.Core.l2d_whole (a := a) ⟨by omega, h1⟩
  have hf := FP.Core.val64_fits (FP.Core.l2d a)
  rw [h] at hw hf
  obtain ⟨f1, f2, f3, f4⟩ := hf
  rw [own_p, own_p53] at f1
  rw [own_qmin] at f2 f4
  rw [own_tails] at f4
  have hw' : ((c * 2 ^ q.toNat : Nat) : Int) = a.toInt * ((2 ^ (-q).toNat : Nat) : Int) := hw
  obtain ⟨A, hA⟩ : ∃ A : Nat, a.toInt = (A : Int) := ⟨a.toInt.toNat, by omega⟩
  have hA2 : a.toInt.toNat = A := by omega
  rw [hA2]
  rw [hA] at hw' h0 h1
  have hw2 : c * 2 ^ q.toNat = A * 2 ^ (-q).toNat := Int.ofNat_inj.mp (by rw [hw', Int.natCast_mul])
  have hq : q ≤ 0 := Int.not_lt.mp fun hq => by
    have e1 : (-q).toNat = 0 := by omega
    have hc := f4.resolve_left (by omega)
    obtain ⟨t, ht⟩ : ∃ t, q.toNat = t + 1 := ⟨q.toNat - 1, by omega⟩
    rw [e1, ht, Nat.pow_succ, Nat.pow_zero, Nat.mul_one] at hw2
    have h2 : c * 2 ≤ c * (2 ^ t * 2) := Nat.mul_le_mul_left c (by have := Nat.one_le_two_pow (n := t); omega)
    omega
  obtain ⟨r, hr⟩ : ∃ r : Nat, q = -(r : Int) := ⟨(-q).toNat, by omega⟩
  subst hr
  have e0 : (-(r : Int)).toNat = 0 := by omega
  have e1 : (-(-(r : Int))).toNat = r := by omega
  rw [e0, e1, Nat.pow_zero, Nat.mul_one] at hw2
  subst hw2
  have hA1 : 1 ≤ A := by omega
  have hr : r ≤ 52 := Nat.not_lt.mp fun hr => by
    have h2 : 2 ^ 53 ≤ 2 ^ r := Nat.pow_le_pow_right (by decide) hr
    have h3 : 1 * 2 ^ r ≤ A * 2 ^ r := Nat.mul_le_mul_right _ hA1
    rw [own_p53] at h2
    omega
  exact ⟨r, h, hr, f4.resolve_left (by omega), f1⟩
theorem own_mul {x y : UInt64} {k j E r M t : Nat} (hx : FP.Core.val64 x = .fin false (k * 2 ^ j) (-3 - (j : Int))) (hy : FP.Core.val64 y = .fin false (E * 2 ^ r) (-(r : Int))) (hM : M = k * E) (hf : FP.Core.fits FP.Core.b64 (.fin false (M * 2 ^ t) (-(t : Int) - 3))) : FP.Core.val64 (FP.Core.dmul x y) = .fin false (M * 2 ^ t) (-(t : Int) - 3) := by
  rw [FP.Core.val64_dmul, hx, hy]
  have e : FP.Core.round FP.Core.b64 (FP.Core.exactProduct (.fin false (k * 2 ^ j) (-3 - (j : Int))) (.fin false (E * 2 ^ r) (-(r : Int)))) = FP.Core.roundRatio FP.Core.b64 false (k * 2 ^ j * (E * 2 ^ r)) 1 (-3 - (j : Int) + -(r : Int)) := rfl
  rw [e]
  refine FP.Core.roundRatio_exact FP.Core.good_b64 (by decide) hf ?_
  obtain ⟨u, hu⟩ : ∃ u, (-3 - (j : Int) + -(r : Int) - (-(t : Int) - 3)).toNat = u := ⟨_, rfl⟩
  obtain ⟨v, hv⟩ : ∃ v, (-(t : Int) - 3 - (-3 - (j : Int) + -(r : Int))).toNat = v := ⟨_, rfl⟩
  rw [hu, hv, hM]
  have huv : j + r + u = t + v := by omega
  have e1 : k * 2 ^ j * (E * 2 ^ r) * 2 ^ u = k * E * 2 ^ (j + r + u) := by rw [Nat.pow_add, Nat.pow_add]; ac_rfl
  have e2 : k * E * 2 ^ t * 1 * 2 ^ v = k * E * 2 ^ (t + v) := by rw [Nat.pow_add, Nat.mul_one, Nat.mul_assoc]
  rw [e1, e2, huv]
theorem own_quot (s t : Bool) (c d : Nat) (q r : Int) (hd : ¬ d = 0) : FP.Core.quotient FP.Core.b64 (.fin s c q) (.fin t d r) = FP.Core.roundRatio FP.Core.b64 (s != t) c d (q - r) := if_neg hd
theorem own_ff : (false != false) = false := rfl
theorem own_two : FP.Core.val64 4611686018427387904 = .fin false 4503599627370496 (-51) := by decide +kernel
theorem own_half {x : UInt64} {c : Nat} {q : Int} (hx : FP.Core.val64 x = .fin false c q) (hf : FP.Core.fits FP.Core.b64 (.fin false c (q - 1))) : FP.Core.val64 (FP.Core.ddiv x 4611686018427387904) = .fin false c (q - 1) := by
  rw [FP.Core.val64_ddiv, hx, own_two, own_quot _ _ _ _ _ _ (by decide), own_ff]
  refine FP.Core.roundRatio_exact FP.Core.good_b64 (by decide) hf ?_
  have e1 : (q - -51 - (q - 1)).toNat = 52 := by omega
  have e2 : (q - 1 - (q - -51)).toNat = 0 := by omega
  rw [e1, e2, own_p52, Nat.pow_zero, Nat.mul_one]
theorem own_rr0 (s : Bool) (B : Nat) (e : Int) : FP.Core.roundRatio FP.Core.b64 s 0 B e = .fin s 0 (-1074) := by rw [← own_qmin]; exact if_pos rfl
theorem own_zv0 : FP.Core.zval FP.Core.b64 (.fin false 0 (-1074)) = 0 := by decide +kernel
theorem own_pow (n : Nat) : 2 ^ (n + 4) = 16 * 2 ^ n := by rw [Nat.pow_add]; exact Nat.mul_comm _ _
theorem own_one : ∃ n : Nat, FP.Core.one64 = 16 * 2 ^ n ∧ n = 1070 := by
  have h := FP.Core.pow_qmin64
  rw [own_qmin] at h
  generalize hn : (- (-1074 : Int)).toNat = m at h
  have hm : m = 1074 := by rw [← hn]; rfl
  obtain ⟨n, rfl⟩ : ∃ n, m = n + 4 := ⟨m - 4, by omega⟩
  exact ⟨n, by rw [← h, own_pow], by omega⟩
theorem own_zv (M t n : Nat) (hn : n = 1070) (ht : t ≤ 52) : FP.Core.zval FP.Core.b64 (.fin false (M * 2 ^ t) (-(t : Int) - 3 - 1)) = (M : Int) * ((2 ^ n : Nat) : Int) := by
  have e : FP.Core.zval FP.Core.b64 (.fin false (M * 2 ^ t) (-(t : Int) - 3 - 1)) = ((M * 2 ^ t * 2 ^ (-(t : Int) - 3 - 1 - FP.Core.b64.qmin).toNat : Nat) : Int) := rfl
  rw [e, own_qmin]
  have e1 : (-(t : Int) - 3 - 1 - -1074).toNat = n - t := by omega
  rw [e1, Nat.mul_assoc, ← Nat.pow_add, show t + (n - t) = n by omega, Int.natCast_mul]
theorem own_cmp {C : Int64} (hC : FP.Core.Small53 C) {y : UInt64} {M n : Nat} (h1 : FP.Core.one64 = 16 * 2 ^ n) (hy : FP.Core.val64 y ≠ .nan) (hz : FP.Core.zval FP.Core.b64 (FP.Core.val64 y) = (M : Int) * ((2 ^ n : Nat) : Int)) : FP.cmpInt (-1) (FP.dcmp (FP.l2d C) y) < 0 ↔ 16 * C.toInt < (M : Int) := by
  have hd := FP.Core.dcmp_zval (a := FP.Core.l2d C) (b := y) (FP.Core.DInt_ne_nan (FP.Core.l2d_whole hC)) hy
  rw [FP.Core.DInt_zval (FP.Core.l2d_whole hC), hz, h1, Int.natCast_mul] at hd
  have hP : (0 : Int) < ((2 ^ n : Nat) : Int) := Int.ofNat_lt.mpr (Nat.two_pow_pos n)
  generalize ((2 ^ n : Nat) : Int) = P at hd hP
  rw [show FP.dcmp (FP.l2d C) y = _ from hd, FP.Core.compare_ite]
  have e : C.toInt * (((16 : Nat) : Int) * P) = 16 * C.toInt * P := by rw [Int.mul_left_comm, ← Int.mul_assoc]; rfl
  rw [e]
  have key : 16 * C.toInt * P < (M : Int) * P ↔ 16 * C.toInt < (M : Int) := by
    constructor
    · intro h
      exact Int.not_le.mp fun q => absurd (Int.mul_le_mul_of_nonneg_right q (Int.le_of_lt hP)) (Int.not_le.mpr h)
    · intro h
      exact Int.mul_lt_mul_of_pos_right h hP
  by_cases hlt : 16 * C.toInt * P < (M : Int) * P
  · rw [if_pos hlt]
    exact ⟨fun _ => key.mp hlt, fun _ => by decide⟩
  · rw [if_neg hlt]
    by_cases he : 16 * C.toInt * P = (M : Int) * P
    · rw [if_pos he]
      exact ⟨fun q => absurd q (by decide), fun q => absurd (key.mpr q) hlt⟩
    · rw [if_neg he]
      exact ⟨fun q => absurd q (by decide), fun q => absurd (key.mpr q) hlt⟩
theorem own_done0 : FP.Core.val64 (FP.Core.ddiv (FP.Core.i2d 0) 4620693217682128896) = .fin false 0 (-1074) := by decide +kernel
theorem own_done (k : Int32) (h0 : 0 < k.toInt) (h8 : k.toInt ≤ 8) : ∃ j : Nat, FP.Core.val64 (FP.Core.ddiv (FP.Core.i2d k) 4620693217682128896) = .fin false (k.toInt.toNat * 2 ^ j) (-3 - (j : Int)) := by
  have h : k = 1 ∨ k = 2 ∨ k = 3 ∨ k = 4 ∨ k = 5 ∨ k = 6 ∨ k = 7 ∨ k = 8 := by
    simp only [← Int32.toInt_inj]
    have e1 : (1 : Int32).toInt = 1 := rfl
    have e2 : (2 : Int32).toInt = 2 := rfl
    have e3 : (3 : Int32).toInt = 3 := rfl
    have e4 : (4 : Int32).toInt = 4 := rfl
    have e5 : (5 : Int32).toInt = 5 := rfl
    have e6 : (6 : Int32).toInt = 6 := rfl
    have e7 : (7 : Int32).toInt = 7 := rfl
    have e8 : (8 : Int32).toInt = 8 := rfl
    omega
  rcases h with rfl | rfl | rfl | rfl | rfl | rfl | rfl | rfl
  · exact ⟨52, by decide +kernel⟩
  · exact ⟨51, by decide +kernel⟩
  · exact ⟨51, by decide +kernel⟩
  · exact ⟨50, by decide +kernel⟩
  · exact ⟨50, by decide +kernel⟩
  · exact ⟨50, by decide +kernel⟩
  · exact ⟨50, by decide +kernel⟩
  · exact ⟨49, by decide +kernel⟩
theorem own_M {k : Int32} {e : Int64} (hk0 : 0 ≤ k.toInt) (hk : k.toInt ≤ 8) (he0 : 1 ≤ e.toInt) (he : e.toInt ≤ 562949953421312) : (k.toInt64 * e).toInt = k.toInt * e.toInt ∧ 0 ≤ k.toInt * e.toInt ∧ k.toInt * e.toInt ≤ 4503599627370496 ∧ (0 < k.toInt → 0 < k.toInt * e.toInt) := by
  have c := c_lmul k.toInt64 e
  rw [c_i2l] at c
  have r := rng64 (k.toInt64 * e)
  generalize (k.toInt64 * e).toInt = m at *
  generalize k.toInt = K at *
  have h : K = 0 ∨ K = 1 ∨ K = 2 ∨ K = 3 ∨ K = 4 ∨ K = 5 ∨ K = 6 ∨ K = 7 ∨ K = 8 := by omega
  rcases h with rfl | rfl | rfl | rfl | rfl | rfl | rfl | rfl | rfl <;> omega
theorem own_fp {k : Int32} {e C : Int64} (hk0 : 0 ≤ k.toInt) (hk : k.toInt ≤ 8) (he0 : 1 ≤ e.toInt) (he : e.toInt ≤ 562949953421312) (hC : FP.Core.Small53 C) : Jvm.Free.Fl.NoNaN64 (FP.ddiv (FP.i2d k) 4620693217682128896) ∧ Jvm.Free.Fl.NoNaN64 (FP.dmul (FP.ddiv (FP.i2d k) 4620693217682128896) (FP.l2d e)) ∧ Jvm.Free.Fl.NoNaN64 (FP.ddiv (FP.dmul (FP.ddiv (FP.i2d k) 4620693217682128896) (FP.l2d e)) 4611686018427387904) ∧ (cmpValue (FP.dcmp (FP.l2d C) (FP.ddiv (FP.dmul (FP.ddiv (FP.i2d k) 4620693217682128896) (FP.l2d e)) 4611686018427387904)) .l < 0 ↔ 16 * C.toInt < k.toInt * e.toInt) := by
  obtain ⟨n, h1, hn⟩ := own_one
  rw [cmpV_l]
  obtain ⟨r, hr, -, -, -⟩ := own_norm (a := e) (by omega) (by omega)
  by_cases hz : k.toInt = 0
  · obtain rfl : k = 0 := Int32.toInt_inj.mp hz
    have hm : FP.Core.val64 (FP.Core.dmul (FP.Core.ddiv (FP.Core.i2d 0) 4620693217682128896) (FP.Core.l2d e)) = .fin false 0 (-1074) := by
      rw [FP.Core.val64_dmul, own_done0, hr]
      have q : FP.Core.round FP.Core.b64 (FP.Core.exactProduct (.fin false 0 (-1074)) (.fin false (e.toInt.toNat * 2 ^ r) (-(r : Int)))) = FP.Core.roundRatio FP.Core.b64 false (0 * (e.toInt.toNat * 2 ^ r)) 1 (-1074 + -(r : Int)) := rfl
      rw [q, Nat.zero_mul]
      exact own_rr0 _ _ _
    have hq : FP.Core.val64 (FP.Core.ddiv (FP.Core.dmul (FP.Core.ddiv (FP.Core.i2d 0) 4620693217682128896) (FP.Core.l2d e)) 4611686018427387904) = .fin false 0 (-1074) := by
      rw [FP.Core.val64_ddiv, hm, own_two, own_quot _ _ _ _ _ _ (by decide), own_ff]
      exact own_rr0 _ _ _
    have hc := own_cmp (M := 0) hC h1 (y := FP.Core.ddiv (FP.Core.dmul (FP.Core.ddiv (FP.Core.i2d 0) 4620693217682128896) (FP.Core.l2d e)) 4611686018427387904) (by rw [hq]; exact fun q => FP.Core.Datum.noConfusion q) (by rw [hq, own_zv0]; exact (Int.zero_mul _).symm)
    refine ⟨Jvm.Free.Fl.val64_no.mpr (by rw [own_done0]; exact fun q => FP.Core.Datum.noConfusion q), Jvm.Free.Fl.val64_no.mpr (by rw [hm]; exact fun q => FP.Core.Datum.noConfusion q), Jvm.Free.Fl.val64_no.mpr (by rw [hq]; exact fun q => FP.Core.Datum.noConfusion q), ?_⟩
    rw [hz, Int.zero_mul]
    exact hc
  · obtain ⟨j, hj⟩ := own_done k (by omega) hk
    obtain ⟨m1, m2, m3, m4⟩ := own_M hk0 hk he0 he
    have m5 := m4 (by omega)
    obtain ⟨t, ht, ht52, hlo, hhi⟩ := own_norm (a := k.toInt64 * e) (by omega) (by omega)
    have hM : (k.toInt64 * e).toInt.toNat = k.toInt.toNat * e.toInt.toNat := by
      rw [m1]
      apply Int.ofNat_inj.mp
      rw [Int.natCast_mul, Int.toNat_of_nonneg m2, Int.toNat_of_nonneg hk0, Int.toNat_of_nonneg (by omega)]
    have hm := own_mul hj hr hM (own_fitsD hhi (by omega) (by omega) hlo)
    have hq := own_half hm (own_fitsD hhi (by omega) (by omega) hlo)
    have hc := own_cmp hC h1 (y := FP.Core.ddiv (FP.Core.dmul (FP.Core.ddiv (FP.Core.i2d k) 4620693217682128896) (FP.Core.l2d e)) 4611686018427387904) (by rw [hq]; exact fun q => FP.Core.Datum.noConfusion q) (by rw [hq]; exact own_zv _ t n hn ht52)
    refine ⟨Jvm.Free.Fl.val64_no.mpr (by rw [hj]; exact fun q => FP.Core.Datum.noConfusion q), Jvm.Free.Fl.val64_no.mpr (by rw [hm]; exact fun q => FP.Core.Datum.noConfusion q), Jvm.Free.Fl.val64_no.mpr (by rw [hq]; exact fun q => FP.Core.Datum.noConfusion q), ?_⟩
    rw [← m1]
    rw [Int.toNat_of_nonneg (by omega)] at hc
    exact hc
theorem own_kb (p : Int32) : 0 ≤ ((p &&& (15 : Int32)) % (9 : Int32)).toInt ∧ ((p &&& (15 : Int32)) % (9 : Int32)).toInt ≤ 8 := by
  have h1 := c_and p 15 (by decide)
  have h2 := (c_irem (p &&& 15) 9 9 (by decide)).1 h1.1
  omega
theorem own_eb (q : Int64) : 1 ≤ ((q &&& (562949953421311 : Int64)) + (1 : Int64)).toInt ∧ ((q &&& (562949953421311 : Int64)) + (1 : Int64)).toInt ≤ 562949953421312 := by
  have h1 := c_maskL q 562949953421311 49 (by decide) (by decide)
  have h2 := c_ladd (q &&& 562949953421311) 1
  have h3 := rng64 ((q &&& 562949953421311) + 1)
  have e1 : (1 : Int64).toInt = 1 := rfl
  omega
theorem own_c1 (q : Int64) : -4503599627370496 ≤ (q >>> ((11 : Int32) &&& 0x3f).toInt64).toInt ∧ (q >>> ((11 : Int32) &&& 0x3f).toInt64).toInt < 4503599627370496 := by
  have h1 := c_lshr q 11 11 (by decide)
  have h2 := rng64 q
  rw [h1]
  omega
theorem own_c2 (q m : Int64) (h0 : 0 ≤ m.toInt) (h1 : m.toInt ≤ 4503599627370496) : -4503599627370496 ≤ ((m / (16 : Int64)) + ((q &&& (7 : Int64)) - (4 : Int64))).toInt ∧ ((m / (16 : Int64)) + ((q &&& (7 : Int64)) - (4 : Int64))).toInt < 4503599627370496 := by
  have d := (c_ldiv m 16 16 (by decide) (by decide)).1 h0
  have a := c_maskL q 7 3 (by decide) (by decide)
  have s := c_lsub (q &&& 7) 4
  have p := c_ladd (m / 16) ((q &&& 7) - 4)
  have r1 := rng64 ((q &&& 7) - 4)
  have r2 := rng64 ((m / 16) + ((q &&& 7) - 4))
  have e4 : (4 : Int64).toInt = 4 := rfl
  omega
theorem own_16 {C : Int64} (h0 : -4503599627370496 ≤ C.toInt) (h1 : C.toInt < 4503599627370496) : ((16 : Int64) * C).toInt = 16 * C.toInt := by
  have c := c_lmul 16 C
  have r := rng64 (16 * C)
  have e : (16 : Int64).toInt = 16 := rfl
  rw [e] at c
  omega
theorem own_mb (p1 : Int32) (q3 : Int64) : 0 ≤ (((p1 &&& (15 : Int32)) % (9 : Int32)).toInt64 * ((q3 &&& (562949953421311 : Int64)) + (1 : Int64))).toInt ∧ (((p1 &&& (15 : Int32)) % (9 : Int32)).toInt64 * ((q3 &&& (562949953421311 : Int64)) + (1 : Int64))).toInt ≤ 4503599627370496 := by
  have h := own_M (own_kb p1).1 (own_kb p1).2 (own_eb q3).1 (own_eb q3).2
  rw [h.1]; exact ⟨h.2.1, h.2.2.1⟩
theorem own_s0 : FP.Core.Small53 0 := ⟨by decide, by decide⟩
theorem own_n0 (p1 : Int32) : Jvm.Free.Fl.NoNaN64 (FP.ddiv (FP.i2d ((p1 &&& (15 : Int32)) % (9 : Int32))) (4620693217682128896 : UInt64)) := (own_fp (e := 1) (own_kb p1).1 (own_kb p1).2 (by decide) (by decide) own_s0).1
theorem own_n1 (p1 : Int32) (q3 : Int64) : Jvm.Free.Fl.NoNaN64 (FP.dmul (FP.ddiv (FP.i2d ((p1 &&& (15 : Int32)) % (9 : Int32))) (4620693217682128896 : UInt64)) (FP.l2d ((q3 &&& (562949953421311 : Int64)) + (1 : Int64)))) := (own_fp (own_kb p1).1 (own_kb p1).2 (own_eb q3).1 (own_eb q3).2 own_s0).2.1
theorem own_n2 (p1 : Int32) (q3 : Int64) : Jvm.Free.Fl.NoNaN64 (FP.ddiv (FP.dmul (FP.ddiv (FP.i2d ((p1 &&& (15 : Int32)) % (9 : Int32))) (4620693217682128896 : UInt64)) (FP.l2d ((q3 &&& (562949953421311 : Int64)) + (1 : Int64)))) (4611686018427387904 : UInt64)) := (own_fp (own_kb p1).1 (own_kb p1).2 (own_eb q3).1 (own_eb q3).2 own_s0).2.2.1
theorem own_close (C : Int64) (d : UInt64) (e : Int64) : own_F1 (1 : Int32) C d e = (1 : Int32) := by
  rw [own_F1, if_neg (by decide)]; rfl
theorem own_iff (p1 : Int32) (q3 : Int64) {C : Int64} (hC : -4503599627370496 ≤ C.toInt ∧ C.toInt < 4503599627370496) : (cmpValue (FP.dcmp (FP.l2d C) (FP.ddiv (FP.dmul (FP.ddiv (FP.i2d ((p1 &&& (15 : Int32)) % (9 : Int32))) (4620693217682128896 : UInt64)) (FP.l2d ((q3 &&& (562949953421311 : Int64)) + (1 : Int64)))) (4611686018427387904 : UInt64))) .l < (0 : Int32)) ↔ (lcmpW ((16 : Int64) * C) (((p1 &&& (15 : Int32)) % (9 : Int32)).toInt64 * ((q3 &&& (562949953421311 : Int64)) + (1 : Int64)))) < (0 : Int32) := by
  rw [lw_lt, Int64.lt_iff_toInt_lt, own_16 hC.1 hC.2, (own_M (own_kb p1).1 (own_kb p1).2 (own_eb q3).1 (own_eb q3).2).1]
  exact (own_fp (own_kb p1).1 (own_kb p1).2 (own_eb q3).1 (own_eb q3).2 ⟨by omega, by omega⟩).2.2.2
theorem own_endT (p1 : Int32) (q3 : Int64) {C : Int64} (hC : -4503599627370496 ≤ C.toInt ∧ C.toInt < 4503599627370496) (h : (lcmpW ((16 : Int64) * C) (((p1 &&& (15 : Int32)) % (9 : Int32)).toInt64 * ((q3 &&& (562949953421311 : Int64)) + (1 : Int64)))) < (0 : Int32)) : own_F1 (0 : Int32) C (FP.ddiv (FP.i2d ((p1 &&& (15 : Int32)) % (9 : Int32))) (4620693217682128896 : UInt64)) ((q3 &&& (562949953421311 : Int64)) + (1 : Int64)) = (0 : Int32) := by
  rw [own_F1, if_pos rfl, if_pos ((own_iff p1 q3 hC).mpr h)]; rfl
theorem own_endF (p1 : Int32) (q3 : Int64) {C : Int64} (hC : -4503599627370496 ≤ C.toInt ∧ C.toInt < 4503599627370496) (h : ¬ (lcmpW ((16 : Int64) * C) (((p1 &&& (15 : Int32)) % (9 : Int32)).toInt64 * ((q3 &&& (562949953421311 : Int64)) + (1 : Int64)))) < (0 : Int32)) : own_F1 (0 : Int32) C (FP.ddiv (FP.i2d ((p1 &&& (15 : Int32)) % (9 : Int32))) (4620693217682128896 : UInt64)) ((q3 &&& (562949953421311 : Int64)) + (1 : Int64)) = (1 : Int32) := by
  rw [own_F1, if_pos rfl, if_neg (fun q => h ((own_iff p1 q3 hC).mp q))]; rfl

theorem own_ef0 (m : MethodId) (x0 : Int32) (x1 : Int32) (x2 : Int64) (x3 : Int64) : entryFrame m #[(.int x0), (.int x1), (.long x2), (.long x3)] maxLocals = mkF m 0 #[.val (.int x0), .val (.int x1), .val (.long x2), .second, .val (.long x3), .second, .unset, .unset, .unset, .unset, .unset, .unset, .unset, .unset, .unset, .unset, .unset] [] := by first | (simp [entryFrame, mkF, argsToLocals, Value.category, maxLocals]; done) | rfl
set_option maxRecDepth 65536 in
set_option maxHeartbeats 40000000 in
theorem rm0 (l : Launch) (Z : State) (a0 : Array Value) (hw : ∀ d ∈ tables_1, d.before a0 Z = true) (ws : List Jvm.Cond) (p0 : Int32) (p1 : Int32) (q2 : Int64) (q3 : Int64) (h0 : Heap) (n0 : Nat) (Z0 : n0 ≤ h0.size) :
    MetFree l x (head1 (Jvm.Cond.code x code maxLocals ret :: ws) room_1) (fun a U => a = #[(.int p0), (.int p1), (.long q2), (.long q3)] ∧ Z.Warmed39 U.vm ∧ U.heap = h0) (fun _ _ _ _ _ => True) (fun _ U o U' => ∃ v L, o = .returned v ∧ (Say (fun v h L => v = some (.int 1) ∧ Fr n0 L)) v U'.heap L ∧ FrameEnd U o U' L room_1.cells room_1.slots) := by
  refine MetFree.of_bodySF (plainFor_of_name own_pn1) hisR ?_
  intro p e s m args below meth c s₁ Bd hml0 hP hK
  obtain ⟨rfl, hZ, hh⟩ := hP
  have hx := Bd.exec
  have hby := Bd.bytes
  have hml : c.maxLocals = 17 := hml0
  have hown : s.vm.findClass "com/example/tallyhold/tallyhold/ledger/LedgerSnapshotHurriesPinLaw" = some m.cls := findClass_of_methodNamed Bd.named
  have hnm := (name_of_methodNamed Bd.named Bd.method).1
  have X0 : Stand p l e room_1 s m #[(.int p0), (.int p1), (.long q2), (.long q3)] below meth c s₁ [] 0 0 := Stand.of_body Bd
  have e0 : s₁.heap = h0 := by rw [← hh, Bd.state]; rfl
  have N0 := Fr.nil n0
  suffices H : Run p.tables e below (FinR s room_1.cells room_1.slots (Say (fun v h L => v = some (.int 1) ∧ Fr n0 L))) s₁ (mkF m 0 #[.val (.int p0), .val (.int p1), .val (.long q2), .second, .val (.long q3), .second, .unset, .unset, .unset, .unset, .unset, .unset, .unset, .unset, .unset, .unset, .unset] []) by
    obtain ⟨s₂, o, k1, k2, k3, k4⟩ := H
    exact ⟨s₂, o, castTop (own_ef0 m p0 p1 q2 q3) k1, k2, k3, k4⟩
  refine Run.iloadN (pc' := 1) X0 hx (hb hby at_0) rfl rfl ?_
  refine Run.iconst (pc' := 2) (v := (1 : Int32)) X0 hx (hb hby at_1) rfl rfl ?_
  refine Run.iand (pc' := 3) X0 hx (hb hby at_2) rfl ?_
  by_cases hc3 : (p0 &&& (1 : Int32)) = (0 : Int32)
  · skip
    refine Run.ifYes (pc' := 10) X0 hx (hb hby at_3) ((if0 _ _).trans (teq hc3).1) (by decide) (by decide) ?_
    refine Run.iconst (pc' := 11) (v := (0 : Int32)) X0 hx (hb hby at_10) rfl rfl ?_
    refine Run.istore (pc' := 13) X0 hx (l' := #[.val (.int p0), .val (.int p1), .val (.long q2), .second, .val (.long q3), .second, .val (.int (0 : Int32)), .unset, .unset, .unset, .unset, .unset, .unset, .unset, .unset, .unset, .unset]) (hb hby at_11) rfl rfl ?_
    refine Run.iloadN (pc' := 14) X0 hx (hb hby at_13) rfl rfl ?_
    refine Run.bipush (pc' := 16) (v := (15 : Int32)) X0 hx (hb hby at_14) rfl rfl ?_
    refine Run.iand (pc' := 17) X0 hx (hb hby at_16) rfl ?_
    refine Run.bipush (pc' := 19) (v := (9 : Int32)) X0 hx (hb hby at_17) rfl rfl ?_
    refine Run.irem (pc' := 20) X0 hx (hb hby at_19) (by decide) rfl ?_
    refine Run.istore (pc' := 22) X0 hx (l' := #[.val (.int p0), .val (.int p1), .val (.long q2), .second, .val (.long q3), .second, .val (.int (0 : Int32)), .val (.int ((p1 &&& (15 : Int32)) % (9 : Int32))), .unset, .unset, .unset, .unset, .unset, .unset, .unset, .unset, .unset]) (hb hby at_20) rfl rfl ?_
    refine Run.iload (pc' := 24) X0 hx (hb hby at_22) rfl rfl ?_
    refine Run.i2d (pc' := 25) X0 hx (hb hby at_24) rfl ?_
    refine Run.ldc2Double (pc' := 28) (v := (4620693217682128896 : UInt64)) X0 hx hown (mvT hZ (hw _ (List.mem_of_getElem? (i := 0) rfl))) (hb hby at_25) rfl ?_
    refine Run.ddiv (pc' := 29) X0 hx (hb hby at_28) (own_n0 p1) rfl ?_
    refine Run.dstore (pc' := 31) X0 hx (l' := #[.val (.int p0), .val (.int p1), .val (.long q2), .second, .val (.long q3), .second, .val (.int (0 : Int32)), .val (.int ((p1 &&& (15 : Int32)) % (9 : Int32))), .val (.double (FP.ddiv (FP.i2d ((p1 &&& (15 : Int32)) % (9 : Int32))) (4620693217682128896 : UInt64))), .second, .unset, .unset, .unset, .unset, .unset, .unset, .unset]) (hb hby at_29) rfl rfl ?_
    refine Run.lload (pc' := 33) X0 hx (hb hby at_31) rfl rfl ?_
    refine Run.ldc2Long (pc' := 36) (v := (562949953421311 : Int64)) X0 hx hown (mvT hZ (hw _ (List.mem_of_getElem? (i := 1) rfl))) (hb hby at_33) rfl ?_
    refine Run.land (pc' := 37) X0 hx (hb hby at_36) rfl ?_
    refine Run.lconst (pc' := 38) (v := (1 : Int64)) X0 hx (hb hby at_37) rfl rfl ?_
    refine Run.ladd (pc' := 39) X0 hx (hb hby at_38) rfl ?_
    refine Run.lstore (pc' := 41) X0 hx (l' := #[.val (.int p0), .val (.int p1), .val (.long q2), .second, .val (.long q3), .second, .val (.int (0 : Int32)), .val (.int ((p1 &&& (15 : Int32)) % (9 : Int32))), .val (.double (FP.ddiv (FP.i2d ((p1 &&& (15 : Int32)) % (9 : Int32))) (4620693217682128896 : UInt64))), .second, .val (.long ((q3 &&& (562949953421311 : Int64)) + (1 : Int64))), .second, .unset, .unset, .unset, .unset, .unset]) (hb hby at_39) rfl rfl ?_
    refine Run.iload (pc' := 43) X0 hx (hb hby at_41) rfl rfl ?_
    refine Run.i2l (pc' := 44) X0 hx (hb hby at_43) rfl ?_
    refine Run.lload (pc' := 46) X0 hx (hb hby at_44) rfl rfl ?_
    refine Run.lmul (pc' := 47) X0 hx (hb hby at_46) rfl ?_
    refine Run.lstore (pc' := 49) X0 hx (l' := #[.val (.int p0), .val (.int p1), .val (.long q2), .second, .val (.long q3), .second, .val (.int (0 : Int32)), .val (.int ((p1 &&& (15 : Int32)) % (9 : Int32))), .val (.double (FP.ddiv (FP.i2d ((p1 &&& (15 : Int32)) % (9 : Int32))) (4620693217682128896 : UInt64))), .second, .val (.long ((q3 &&& (562949953421311 : Int64)) + (1 : Int64))), .second, .val (.long ((((p1 &&& (15 : Int32)) % (9 : Int32)).toInt64) * ((q3 &&& (562949953421311 : Int64)) + (1 : Int64)))), .second, .unset, .unset, .unset]) (hb hby at_47) rfl rfl ?_
    refine Run.iloadN (pc' := 50) X0 hx (hb hby at_49) rfl rfl ?_
    refine Run.iconst (pc' := 51) (v := (2 : Int32)) X0 hx (hb hby at_50) rfl rfl ?_
    refine Run.iand (pc' := 52) X0 hx (hb hby at_51) rfl ?_
    by_cases hc52 : (p0 &&& (2 : Int32)) = (0 : Int32)
    · skip
      refine Run.ifNo (pc' := 55) X0 hx (hb hby at_52) ((if0 _ _).trans (teq hc52).2) rfl ?_
      refine Run.lloadN (pc' := 56) X0 hx (hb hby at_55) rfl rfl ?_
      refine Run.bipush (pc' := 58) (v := (11 : Int32)) X0 hx (hb hby at_56) rfl rfl ?_
      refine Run.lshr (pc' := 59) X0 hx (hb hby at_58) rfl ?_
      refine Run.lstore (pc' := 61) X0 hx (l' := #[.val (.int p0), .val (.int p1), .val (.long q2), .second, .val (.long q3), .second, .val (.int (0 : Int32)), .val (.int ((p1 &&& (15 : Int32)) % (9 : Int32))), .val (.double (FP.ddiv (FP.i2d ((p1 &&& (15 : Int32)) % (9 : Int32))) (4620693217682128896 : UInt64))), .second, .val (.long ((q3 &&& (562949953421311 : Int64)) + (1 : Int64))), .second, .val (.long ((((p1 &&& (15 : Int32)) % (9 : Int32)).toInt64) * ((q3 &&& (562949953421311 : Int64)) + (1 : Int64)))), .second, .val (.long (q2 >>> ((11 : Int32) &&& 0x3f).toInt64)), .second, .unset]) (hb hby at_59) rfl rfl ?_
      refine Run.goto (pc' := 82) X0 hx (hb hby at_61) (by decide) (by decide) ?_
      refine Run.iload (pc' := 84) X0 hx (hb hby at_82) rfl rfl ?_
      refine Run.ifNo (pc' := 87) X0 hx (hb hby at_84) ((if0 _ _).trans (teq (by decide : (0 : Int32) = (0 : Int32))).2) rfl ?_
      refine Run.ldc2Long (pc' := 90) (v := (16 : Int64)) X0 hx hown (mvT hZ (hw _ (List.mem_of_getElem? (i := 2) rfl))) (hb hby at_87) rfl ?_
      refine Run.lload (pc' := 92) X0 hx (hb hby at_90) rfl rfl ?_
      refine Run.lmul (pc' := 93) X0 hx (hb hby at_92) rfl ?_
      refine Run.lload (pc' := 95) X0 hx (hb hby at_93) rfl rfl ?_
      refine Run.lcmp (pc' := 96) X0 hx (hb hby at_95) rfl ?_
      by_cases hc96 : (lcmpW ((16 : Int64) * (q2 >>> ((11 : Int32) &&& 0x3f).toInt64)) ((((p1 &&& (15 : Int32)) % (9 : Int32)).toInt64) * ((q3 &&& (562949953421311 : Int64)) + (1 : Int64)))) < (0 : Int32)
      · skip
        refine Run.ifYes (pc' := 103) X0 hx (hb hby at_96) ((if0 _ _).trans (tlt hc96).1) (by decide) (by decide) ?_
        refine Run.iconst (pc' := 104) (v := (0 : Int32)) X0 hx (hb hby at_103) rfl rfl ?_
        refine Run.istore (pc' := 106) X0 hx (l' := #[.val (.int p0), .val (.int p1), .val (.long q2), .second, .val (.long q3), .second, .val (.int (0 : Int32)), .val (.int ((p1 &&& (15 : Int32)) % (9 : Int32))), .val (.double (FP.ddiv (FP.i2d ((p1 &&& (15 : Int32)) % (9 : Int32))) (4620693217682128896 : UInt64))), .second, .val (.long ((q3 &&& (562949953421311 : Int64)) + (1 : Int64))), .second, .val (.long ((((p1 &&& (15 : Int32)) % (9 : Int32)).toInt64) * ((q3 &&& (562949953421311 : Int64)) + (1 : Int64)))), .second, .val (.long (q2 >>> ((11 : Int32) &&& 0x3f).toInt64)), .second, .val (.int (0 : Int32))]) (hb hby at_104) rfl rfl ?_
        refine Run.iload (pc' := 108) X0 hx (hb hby at_106) rfl rfl ?_
        refine Run.lload (pc' := 110) X0 hx (hb hby at_108) rfl rfl ?_
        refine Run.dload (pc' := 112) X0 hx (hb hby at_110) rfl rfl ?_
        refine Run.lload (pc' := 114) X0 hx (hb hby at_112) rfl rfl ?_
        obtain ⟨T1, L1, v1, X1, Q1, st1⟩ := callStatic X0 hx (y := (⟨"com/example/tallyhold/tallyhold/ledger/Ledger", "snapshotHurries", "(ZJDJ)Z"⟩ : MethodName)) (Ls := #[.val (.int p0), .val (.int p1), .val (.long q2), .second, .val (.long q3), .second, .val (.int (0 : Int32)), .val (.int ((p1 &&& (15 : Int32)) % (9 : Int32))), .val (.double (FP.ddiv (FP.i2d ((p1 &&& (15 : Int32)) % (9 : Int32))) (4620693217682128896 : UInt64))), .second, .val (.long ((q3 &&& (562949953421311 : Int64)) + (1 : Int64))), .second, .val (.long ((((p1 &&& (15 : Int32)) % (9 : Int32)).toInt64) * ((q3 &&& (562949953421311 : Int64)) + (1 : Int64)))), .second, .val (.long (q2 >>> ((11 : Int32) &&& 0x3f).toInt64)), .second, .val (.int (0 : Int32))]) (rest := []) (W := 0) (argsL := [(.int (0 : Int32)), (.long (q2 >>> ((11 : Int32) &&& 0x3f).toInt64)), (.double (FP.ddiv (FP.i2d ((p1 &&& (15 : Int32)) % (9 : Int32))) (4620693217682128896 : UInt64))), (.long ((q3 &&& (562949953421311 : Int64)) + (1 : Int64)))]) hZ hown (hw _ (List.mem_of_getElem? (i := 3) rfl)) (hw _ (List.mem_of_getElem? (i := 4) rfl)) (hw _ (List.mem_of_getElem? (i := 5) rfl)) (hw _ (List.mem_of_getElem? (i := 6) rfl)) (by decide) e0 (rm1 l Z a0 hw [] (0 : Int32) (q2 >>> ((11 : Int32) &&& 0x3f).toInt64) (FP.ddiv (FP.i2d ((p1 &&& (15 : Int32)) % (9 : Int32))) (4620693217682128896 : UInt64)) ((q3 &&& (562949953421311 : Int64)) + (1 : Int64))  h0 n0 Z0 (own_n1 p1 q3) (own_n2 p1 q3)) (hb hby at_114) (lenOf own_pd0 rfl) (by decide) (by decide) (by rw [hml]; rfl) (Nat.le_of_eq rfl) (by decide) (by decide)
        obtain ⟨rfl, M1, e1⟩ := Q1
        have N1 := Fr.app N0 M1
        refine Run.back (g' := (mkF m 117 #[.val (.int p0), .val (.int p1), .val (.long q2), .second, .val (.long q3), .second, .val (.int (0 : Int32)), .val (.int ((p1 &&& (15 : Int32)) % (9 : Int32))), .val (.double (FP.ddiv (FP.i2d ((p1 &&& (15 : Int32)) % (9 : Int32))) (4620693217682128896 : UInt64))), .second, .val (.long ((q3 &&& (562949953421311 : Int64)) + (1 : Int64))), .second, .val (.long ((((p1 &&& (15 : Int32)) % (9 : Int32)).toInt64) * ((q3 &&& (562949953421311 : Int64)) + (1 : Int64)))), .second, .val (.long (q2 >>> ((11 : Int32) &&& 0x3f).toInt64)), .second, .val (.int (0 : Int32))] [(.int (own_F1 (0 : Int32) (q2 >>> ((11 : Int32) &&& 0x3f).toInt64) (FP.ddiv (FP.i2d ((p1 &&& (15 : Int32)) % (9 : Int32))) (4620693217682128896 : UInt64)) ((q3 &&& (562949953421311 : Int64)) + (1 : Int64))))])) st1 ?_
        refine Run.iload (pc' := 119) X1 hx (hb hby at_117) rfl rfl ?_
        refine Run.icmpNo (pc' := 122) X1 hx (hb hby at_119) (teq (own_endT p1 q3 (own_c1 q2) hc96)).2 rfl ?_
        refine Run.iconst (pc' := 123) (v := (1 : Int32)) X1 hx (hb hby at_122) rfl rfl ?_
        refine Run.goto (pc' := 127) X1 hx (hb hby at_123) (by decide) (by decide) ?_
        exact Run.retSmall X1 hx (t := .boolean) (z' := (1 : Int32)) Bd.notSynchronized Bd.returns (by simp) rfl (hb hby at_127) ⟨rfl, N1⟩ (by decide) (by decide)
      · skip
        refine Run.ifNo (pc' := 99) X0 hx (hb hby at_96) ((if0 _ _).trans (flt hc96).1) rfl ?_
        refine Run.iconst (pc' := 100) (v := (1 : Int32)) X0 hx (hb hby at_99) rfl rfl ?_
        refine Run.goto (pc' := 104) X0 hx (hb hby at_100) (by decide) (by decide) ?_
        refine Run.istore (pc' := 106) X0 hx (l' := #[.val (.int p0), .val (.int p1), .val (.long q2), .second, .val (.long q3), .second, .val (.int (0 : Int32)), .val (.int ((p1 &&& (15 : Int32)) % (9 : Int32))), .val (.double (FP.ddiv (FP.i2d ((p1 &&& (15 : Int32)) % (9 : Int32))) (4620693217682128896 : UInt64))), .second, .val (.long ((q3 &&& (562949953421311 : Int64)) + (1 : Int64))), .second, .val (.long ((((p1 &&& (15 : Int32)) % (9 : Int32)).toInt64) * ((q3 &&& (562949953421311 : Int64)) + (1 : Int64)))), .second, .val (.long (q2 >>> ((11 : Int32) &&& 0x3f).toInt64)), .second, .val (.int (1 : Int32))]) (hb hby at_104) rfl rfl ?_
        refine Run.iload (pc' := 108) X0 hx (hb hby at_106) rfl rfl ?_
        refine Run.lload (pc' := 110) X0 hx (hb hby at_108) rfl rfl ?_
        refine Run.dload (pc' := 112) X0 hx (hb hby at_110) rfl rfl ?_
        refine Run.lload (pc' := 114) X0 hx (hb hby at_112) rfl rfl ?_
        obtain ⟨T2, L2, v2, X2, Q2, st2⟩ := callStatic X0 hx (y := (⟨"com/example/tallyhold/tallyhold/ledger/Ledger", "snapshotHurries", "(ZJDJ)Z"⟩ : MethodName)) (Ls := #[.val (.int p0), .val (.int p1), .val (.long q2), .second, .val (.long q3), .second, .val (.int (0 : Int32)), .val (.int ((p1 &&& (15 : Int32)) % (9 : Int32))), .val (.double (FP.ddiv (FP.i2d ((p1 &&& (15 : Int32)) % (9 : Int32))) (4620693217682128896 : UInt64))), .second, .val (.long ((q3 &&& (562949953421311 : Int64)) + (1 : Int64))), .second, .val (.long ((((p1 &&& (15 : Int32)) % (9 : Int32)).toInt64) * ((q3 &&& (562949953421311 : Int64)) + (1 : Int64)))), .second, .val (.long (q2 >>> ((11 : Int32) &&& 0x3f).toInt64)), .second, .val (.int (1 : Int32))]) (rest := []) (W := 0) (argsL := [(.int (0 : Int32)), (.long (q2 >>> ((11 : Int32) &&& 0x3f).toInt64)), (.double (FP.ddiv (FP.i2d ((p1 &&& (15 : Int32)) % (9 : Int32))) (4620693217682128896 : UInt64))), (.long ((q3 &&& (562949953421311 : Int64)) + (1 : Int64)))]) hZ hown (hw _ (List.mem_of_getElem? (i := 3) rfl)) (hw _ (List.mem_of_getElem? (i := 4) rfl)) (hw _ (List.mem_of_getElem? (i := 5) rfl)) (hw _ (List.mem_of_getElem? (i := 6) rfl)) (by decide) e0 (rm1 l Z a0 hw [] (0 : Int32) (q2 >>> ((11 : Int32) &&& 0x3f).toInt64) (FP.ddiv (FP.i2d ((p1 &&& (15 : Int32)) % (9 : Int32))) (4620693217682128896 : UInt64)) ((q3 &&& (562949953421311 : Int64)) + (1 : Int64))  h0 n0 Z0 (own_n1 p1 q3) (own_n2 p1 q3)) (hb hby at_114) (lenOf own_pd0 rfl) (by decide) (by decide) (by rw [hml]; rfl) (Nat.le_of_eq rfl) (by decide) (by decide)
        obtain ⟨rfl, M2, e2⟩ := Q2
        have N2 := Fr.app N0 M2
        refine Run.back (g' := (mkF m 117 #[.val (.int p0), .val (.int p1), .val (.long q2), .second, .val (.long q3), .second, .val (.int (0 : Int32)), .val (.int ((p1 &&& (15 : Int32)) % (9 : Int32))), .val (.double (FP.ddiv (FP.i2d ((p1 &&& (15 : Int32)) % (9 : Int32))) (4620693217682128896 : UInt64))), .second, .val (.long ((q3 &&& (562949953421311 : Int64)) + (1 : Int64))), .second, .val (.long ((((p1 &&& (15 : Int32)) % (9 : Int32)).toInt64) * ((q3 &&& (562949953421311 : Int64)) + (1 : Int64)))), .second, .val (.long (q2 >>> ((11 : Int32) &&& 0x3f).toInt64)), .second, .val (.int (1 : Int32))] [(.int (own_F1 (0 : Int32) (q2 >>> ((11 : Int32) &&& 0x3f).toInt64) (FP.ddiv (FP.i2d ((p1 &&& (15 : Int32)) % (9 : Int32))) (4620693217682128896 : UInt64)) ((q3 &&& (562949953421311 : Int64)) + (1 : Int64))))])) st2 ?_
        refine Run.iload (pc' := 119) X2 hx (hb hby at_117) rfl rfl ?_
        refine Run.icmpNo (pc' := 122) X2 hx (hb hby at_119) (teq (own_endF p1 q3 (own_c1 q2) hc96)).2 rfl ?_
        refine Run.iconst (pc' := 123) (v := (1 : Int32)) X2 hx (hb hby at_122) rfl rfl ?_
        refine Run.goto (pc' := 127) X2 hx (hb hby at_123) (by decide) (by decide) ?_
        exact Run.retSmall X2 hx (t := .boolean) (z' := (1 : Int32)) Bd.notSynchronized Bd.returns (by simp) rfl (hb hby at_127) ⟨rfl, N2⟩ (by decide) (by decide)
    · skip
      refine Run.ifYes (pc' := 64) X0 hx (hb hby at_52) ((if0 _ _).trans (feq hc52).2) (by decide) (by decide) ?_
      refine Run.lload (pc' := 66) X0 hx (hb hby at_64) rfl rfl ?_
      refine Run.ldc2Long (pc' := 69) (v := (16 : Int64)) X0 hx hown (mvT hZ (hw _ (List.mem_of_getElem? (i := 2) rfl))) (hb hby at_66) rfl ?_
      refine Run.ldiv (pc' := 70) X0 hx (hb hby at_69) (by decide) rfl ?_
      refine Run.lloadN (pc' := 71) X0 hx (hb hby at_70) rfl rfl ?_
      refine Run.ldc2Long (pc' := 74) (v := (7 : Int64)) X0 hx hown (mvT hZ (hw _ (List.mem_of_getElem? (i := 8) rfl))) (hb hby at_71) rfl ?_
      refine Run.land (pc' := 75) X0 hx (hb hby at_74) rfl ?_
      refine Run.ldc2Long (pc' := 78) (v := (4 : Int64)) X0 hx hown (mvT hZ (hw _ (List.mem_of_getElem? (i := 9) rfl))) (hb hby at_75) rfl ?_
      refine Run.lsub (pc' := 79) X0 hx (hb hby at_78) rfl ?_
      refine Run.ladd (pc' := 80) X0 hx (hb hby at_79) rfl ?_
      refine Run.lstore (pc' := 82) X0 hx (l' := #[.val (.int p0), .val (.int p1), .val (.long q2), .second, .val (.long q3), .second, .val (.int (0 : Int32)), .val (.int ((p1 &&& (15 : Int32)) % (9 : Int32))), .val (.double (FP.ddiv (FP.i2d ((p1 &&& (15 : Int32)) % (9 : Int32))) (4620693217682128896 : UInt64))), .second, .val (.long ((q3 &&& (562949953421311 : Int64)) + (1 : Int64))), .second, .val (.long ((((p1 &&& (15 : Int32)) % (9 : Int32)).toInt64) * ((q3 &&& (562949953421311 : Int64)) + (1 : Int64)))), .second, .val (.long ((((((p1 &&& (15 : Int32)) % (9 : Int32)).toInt64) * ((q3 &&& (562949953421311 : Int64)) + (1 : Int64))) / (16 : Int64)) + ((q2 &&& (7 : Int64)) - (4 : Int64)))), .second, .unset]) (hb hby at_80) rfl rfl ?_
      refine Run.iload (pc' := 84) X0 hx (hb hby at_82) rfl rfl ?_
      refine Run.ifNo (pc' := 87) X0 hx (hb hby at_84) ((if0 _ _).trans (teq (by decide : (0 : Int32) = (0 : Int32))).2) rfl ?_
      refine Run.ldc2Long (pc' := 90) (v := (16 : Int64)) X0 hx hown (mvT hZ (hw _ (List.mem_of_getElem? (i := 2) rfl))) (hb hby at_87) rfl ?_
      refine Run.lload (pc' := 92) X0 hx (hb hby at_90) rfl rfl ?_
      refine Run.lmul (pc' := 93) X0 hx (hb hby at_92) rfl ?_
      refine Run.lload (pc' := 95) X0 hx (hb hby at_93) rfl rfl ?_
      refine Run.lcmp (pc' := 96) X0 hx (hb hby at_95) rfl ?_
      by_cases hc96 : (lcmpW ((16 : Int64) * ((((((p1 &&& (15 : Int32)) % (9 : Int32)).toInt64) * ((q3 &&& (562949953421311 : Int64)) + (1 : Int64))) / (16 : Int64)) + ((q2 &&& (7 : Int64)) - (4 : Int64)))) ((((p1 &&& (15 : Int32)) % (9 : Int32)).toInt64) * ((q3 &&& (562949953421311 : Int64)) + (1 : Int64)))) < (0 : Int32)
      · skip
        refine Run.ifYes (pc' := 103) X0 hx (hb hby at_96) ((if0 _ _).trans (tlt hc96).1) (by decide) (by decide) ?_
        refine Run.iconst (pc' := 104) (v := (0 : Int32)) X0 hx (hb hby at_103) rfl rfl ?_
        refine Run.istore (pc' := 106) X0 hx (l' := #[.val (.int p0), .val (.int p1), .val (.long q2), .second, .val (.long q3), .second, .val (.int (0 : Int32)), .val (.int ((p1 &&& (15 : Int32)) % (9 : Int32))), .val (.double (FP.ddiv (FP.i2d ((p1 &&& (15 : Int32)) % (9 : Int32))) (4620693217682128896 : UInt64))), .second, .val (.long ((q3 &&& (562949953421311 : Int64)) + (1 : Int64))), .second, .val (.long ((((p1 &&& (15 : Int32)) % (9 : Int32)).toInt64) * ((q3 &&& (562949953421311 : Int64)) + (1 : Int64)))), .second, .val (.long ((((((p1 &&& (15 : Int32)) % (9 : Int32)).toInt64) * ((q3 &&& (562949953421311 : Int64)) + (1 : Int64))) / (16 : Int64)) + ((q2 &&& (7 : Int64)) - (4 : Int64)))), .second, .val (.int (0 : Int32))]) (hb hby at_104) rfl rfl ?_
        refine Run.iload (pc' := 108) X0 hx (hb hby at_106) rfl rfl ?_
        refine Run.lload (pc' := 110) X0 hx (hb hby at_108) rfl rfl ?_
        refine Run.dload (pc' := 112) X0 hx (hb hby at_110) rfl rfl ?_
        refine Run.lload (pc' := 114) X0 hx (hb hby at_112) rfl rfl ?_
        obtain ⟨T3, L3, v3, X3, Q3, st3⟩ := callStatic X0 hx (y := (⟨"com/example/tallyhold/tallyhold/ledger/Ledger", "snapshotHurries", "(ZJDJ)Z"⟩ : MethodName)) (Ls := #[.val (.int p0), .val (.int p1), .val (.long q2), .second, .val (.long q3), .second, .val (.int (0 : Int32)), .val (.int ((p1 &&& (15 : Int32)) % (9 : Int32))), .val (.double (FP.ddiv (FP.i2d ((p1 &&& (15 : Int32)) % (9 : Int32))) (4620693217682128896 : UInt64))), .second, .val (.long ((q3 &&& (562949953421311 : Int64)) + (1 : Int64))), .second, .val (.long ((((p1 &&& (15 : Int32)) % (9 : Int32)).toInt64) * ((q3 &&& (562949953421311 : Int64)) + (1 : Int64)))), .second, .val (.long ((((((p1 &&& (15 : Int32)) % (9 : Int32)).toInt64) * ((q3 &&& (562949953421311 : Int64)) + (1 : Int64))) / (16 : Int64)) + ((q2 &&& (7 : Int64)) - (4 : Int64)))), .second, .val (.int (0 : Int32))]) (rest := []) (W := 0) (argsL := [(.int (0 : Int32)), (.long ((((((p1 &&& (15 : Int32)) % (9 : Int32)).toInt64) * ((q3 &&& (562949953421311 : Int64)) + (1 : Int64))) / (16 : Int64)) + ((q2 &&& (7 : Int64)) - (4 : Int64)))), (.double (FP.ddiv (FP.i2d ((p1 &&& (15 : Int32)) % (9 : Int32))) (4620693217682128896 : UInt64))), (.long ((q3 &&& (562949953421311 : Int64)) + (1 : Int64)))]) hZ hown (hw _ (List.mem_of_getElem? (i := 3) rfl)) (hw _ (List.mem_of_getElem? (i := 4) rfl)) (hw _ (List.mem_of_getElem? (i := 5) rfl)) (hw _ (List.mem_of_getElem? (i := 6) rfl)) (by decide) e0 (rm1 l Z a0 hw [] (0 : Int32) ((((((p1 &&& (15 : Int32)) % (9 : Int32)).toInt64) * ((q3 &&& (562949953421311 : Int64)) + (1 : Int64))) / (16 : Int64)) + ((q2 &&& (7 : Int64)) - (4 : Int64))) (FP.ddiv (FP.i2d ((p1 &&& (15 : Int32)) % (9 : Int32))) (4620693217682128896 : UInt64)) ((q3 &&& (562949953421311 : Int64)) + (1 : Int64))  h0 n0 Z0 (own_n1 p1 q3) (own_n2 p1 q3)) (hb hby at_114) (lenOf own_pd0 rfl) (by decide) (by decide) (by rw [hml]; rfl) (Nat.le_of_eq rfl) (by decide) (by decide)
        obtain ⟨rfl, M3, e3⟩ := Q3
        have N3 := Fr.app N0 M3
        refine Run.back (g' := (mkF m 117 #[.val (.int p0), .val (.int p1), .val (.long q2), .second, .val (.long q3), .second, .val (.int (0 : Int32)), .val (.int ((p1 &&& (15 : Int32)) % (9 : Int32))), .val (.double (FP.ddiv (FP.i2d ((p1 &&& (15 : Int32)) % (9 : Int32))) (4620693217682128896 : UInt64))), .second, .val (.long ((q3 &&& (562949953421311 : Int64)) + (1 : Int64))), .second, .val (.long ((((p1 &&& (15 : Int32)) % (9 : Int32)).toInt64) * ((q3 &&& (562949953421311 : Int64)) + (1 : Int64)))), .second, .val (.long ((((((p1 &&& (15 : Int32)) % (9 : Int32)).toInt64) * ((q3 &&& (562949953421311 : Int64)) + (1 : Int64))) / (16 : Int64)) + ((q2 &&& (7 : Int64)) - (4 : Int64)))), .second, .val (.int (0 : Int32))] [(.int (own_F1 (0 : Int32) ((((((p1 &&& (15 : Int32)) % (9 : Int32)).toInt64) * ((q3 &&& (562949953421311 : Int64)) + (1 : Int64))) / (16 : Int64)) + ((q2 &&& (7 : Int64)) - (4 : Int64))) (FP.ddiv (FP.i2d ((p1 &&& (15 : Int32)) % (9 : Int32))) (4620693217682128896 : UInt64)) ((q3 &&& (562949953421311 : Int64)) + (1 : Int64))))])) st3 ?_
        refine Run.iload (pc' := 119) X3 hx (hb hby at_117) rfl rfl ?_
        refine Run.icmpNo (pc' := 122) X3 hx (hb hby at_119) (teq (own_endT p1 q3 (own_c2 q2 _ (own_mb p1 q3).1 (own_mb p1 q3).2) hc96)).2 rfl ?_
        refine Run.iconst (pc' := 123) (v := (1 : Int32)) X3 hx (hb hby at_122) rfl rfl ?_
        refine Run.goto (pc' := 127) X3 hx (hb hby at_123) (by decide) (by decide) ?_
        exact Run.retSmall X3 hx (t := .boolean) (z' := (1 : Int32)) Bd.notSynchronized Bd.returns (by simp) rfl (hb hby at_127) ⟨rfl, N3⟩ (by decide) (by decide)
      · skip
        refine Run.ifNo (pc' := 99) X0 hx (hb hby at_96) ((if0 _ _).trans (flt hc96).1) rfl ?_
        refine Run.iconst (pc' := 100) (v := (1 : Int32)) X0 hx (hb hby at_99) rfl rfl ?_
        refine Run.goto (pc' := 104) X0 hx (hb hby at_100) (by decide) (by decide) ?_
        refine Run.istore (pc' := 106) X0 hx (l' := #[.val (.int p0), .val (.int p1), .val (.long q2), .second, .val (.long q3), .second, .val (.int (0 : Int32)), .val (.int ((p1 &&& (15 : Int32)) % (9 : Int32))), .val (.double (FP.ddiv (FP.i2d ((p1 &&& (15 : Int32)) % (9 : Int32))) (4620693217682128896 : UInt64))), .second, .val (.long ((q3 &&& (562949953421311 : Int64)) + (1 : Int64))), .second, .val (.long ((((p1 &&& (15 : Int32)) % (9 : Int32)).toInt64) * ((q3 &&& (562949953421311 : Int64)) + (1 : Int64)))), .second, .val (.long ((((((p1 &&& (15 : Int32)) % (9 : Int32)).toInt64) * ((q3 &&& (562949953421311 : Int64)) + (1 : Int64))) / (16 : Int64)) + ((q2 &&& (7 : Int64)) - (4 : Int64)))), .second, .val (.int (1 : Int32))]) (hb hby at_104) rfl rfl ?_
        refine Run.iload (pc' := 108) X0 hx (hb hby at_106) rfl rfl ?_
        refine Run.lload (pc' := 110) X0 hx (hb hby at_108) rfl rfl ?_
        refine Run.dload (pc' := 112) X0 hx (hb hby at_110) rfl rfl ?_
        refine Run.lload (pc' := 114) X0 hx (hb hby at_112) rfl rfl ?_
        obtain ⟨T4, L4, v4, X4, Q4, st4⟩ := callStatic X0 hx (y := (⟨"com/example/tallyhold/tallyhold/ledger/Ledger", "snapshotHurries", "(ZJDJ)Z"⟩ : MethodName)) (Ls := #[.val (.int p0), .val (.int p1), .val (.long q2), .second, .val (.long q3), .second, .val (.int (0 : Int32)), .val (.int ((p1 &&& (15 : Int32)) % (9 : Int32))), .val (.double (FP.ddiv (FP.i2d ((p1 &&& (15 : Int32)) % (9 : Int32))) (4620693217682128896 : UInt64))), .second, .val (.long ((q3 &&& (562949953421311 : Int64)) + (1 : Int64))), .second, .val (.long ((((p1 &&& (15 : Int32)) % (9 : Int32)).toInt64) * ((q3 &&& (562949953421311 : Int64)) + (1 : Int64)))), .second, .val (.long ((((((p1 &&& (15 : Int32)) % (9 : Int32)).toInt64) * ((q3 &&& (562949953421311 : Int64)) + (1 : Int64))) / (16 : Int64)) + ((q2 &&& (7 : Int64)) - (4 : Int64)))), .second, .val (.int (1 : Int32))]) (rest := []) (W := 0) (argsL := [(.int (0 : Int32)), (.long ((((((p1 &&& (15 : Int32)) % (9 : Int32)).toInt64) * ((q3 &&& (562949953421311 : Int64)) + (1 : Int64))) / (16 : Int64)) + ((q2 &&& (7 : Int64)) - (4 : Int64)))), (.double (FP.ddiv (FP.i2d ((p1 &&& (15 : Int32)) % (9 : Int32))) (4620693217682128896 : UInt64))), (.long ((q3 &&& (562949953421311 : Int64)) + (1 : Int64)))]) hZ hown (hw _ (List.mem_of_getElem? (i := 3) rfl)) (hw _ (List.mem_of_getElem? (i := 4) rfl)) (hw _ (List.mem_of_getElem? (i := 5) rfl)) (hw _ (List.mem_of_getElem? (i := 6) rfl)) (by decide) e0 (rm1 l Z a0 hw [] (0 : Int32) ((((((p1 &&& (15 : Int32)) % (9 : Int32)).toInt64) * ((q3 &&& (562949953421311 : Int64)) + (1 : Int64))) / (16 : Int64)) + ((q2 &&& (7 : Int64)) - (4 : Int64))) (FP.ddiv (FP.i2d ((p1 &&& (15 : Int32)) % (9 : Int32))) (4620693217682128896 : UInt64)) ((q3 &&& (562949953421311 : Int64)) + (1 : Int64))  h0 n0 Z0 (own_n1 p1 q3) (own_n2 p1 q3)) (hb hby at_114) (lenOf own_pd0 rfl) (by decide) (by decide) (by rw [hml]; rfl) (Nat.le_of_eq rfl) (by decide) (by decide)
        obtain ⟨rfl, M4, e4⟩ := Q4
        have N4 := Fr.app N0 M4
        refine Run.back (g' := (mkF m 117 #[.val (.int p0), .val (.int p1), .val (.long q2), .second, .val (.long q3), .second, .val (.int (0 : Int32)), .val (.int ((p1 &&& (15 : Int32)) % (9 : Int32))), .val (.double (FP.ddiv (FP.i2d ((p1 &&& (15 : Int32)) % (9 : Int32))) (4620693217682128896 : UInt64))), .second, .val (.long ((q3 &&& (562949953421311 : Int64)) + (1 : Int64))), .second, .val (.long ((((p1 &&& (15 : Int32)) % (9 : Int32)).toInt64) * ((q3 &&& (562949953421311 : Int64)) + (1 : Int64)))), .second, .val (.long ((((((p1 &&& (15 : Int32)) % (9 : Int32)).toInt64) * ((q3 &&& (562949953421311 : Int64)) + (1 : Int64))) / (16 : Int64)) + ((q2 &&& (7 : Int64)) - (4 : Int64)))), .second, .val (.int (1 : Int32))] [(.int (own_F1 (0 : Int32) ((((((p1 &&& (15 : Int32)) % (9 : Int32)).toInt64) * ((q3 &&& (562949953421311 : Int64)) + (1 : Int64))) / (16 : Int64)) + ((q2 &&& (7 : Int64)) - (4 : Int64))) (FP.ddiv (FP.i2d ((p1 &&& (15 : Int32)) % (9 : Int32))) (4620693217682128896 : UInt64)) ((q3 &&& (562949953421311 : Int64)) + (1 : Int64))))])) st4 ?_
        refine Run.iload (pc' := 119) X4 hx (hb hby at_117) rfl rfl ?_
        refine Run.icmpNo (pc' := 122) X4 hx (hb hby at_119) (teq (own_endF p1 q3 (own_c2 q2 _ (own_mb p1 q3).1 (own_mb p1 q3).2) hc96)).2 rfl ?_
        refine Run.iconst (pc' := 123) (v := (1 : Int32)) X4 hx (hb hby at_122) rfl rfl ?_
        refine Run.goto (pc' := 127) X4 hx (hb hby at_123) (by decide) (by decide) ?_
        exact Run.retSmall X4 hx (t := .boolean) (z' := (1 : Int32)) Bd.notSynchronized Bd.returns (by simp) rfl (hb hby at_127) ⟨rfl, N4⟩ (by decide) (by decide)
  · skip
    refine Run.ifNo (pc' := 6) X0 hx (hb hby at_3) ((if0 _ _).trans (feq hc3).1) rfl ?_
    refine Run.iconst (pc' := 7) (v := (1 : Int32)) X0 hx (hb hby at_6) rfl rfl ?_
    refine Run.goto (pc' := 11) X0 hx (hb hby at_7) (by decide) (by decide) ?_
    refine Run.istore (pc' := 13) X0 hx (l' := #[.val (.int p0), .val (.int p1), .val (.long q2), .second, .val (.long q3), .second, .val (.int (1 : Int32)), .unset, .unset, .unset, .unset, .unset, .unset, .unset, .unset, .unset, .unset]) (hb hby at_11) rfl rfl ?_
    refine Run.iloadN (pc' := 14) X0 hx (hb hby at_13) rfl rfl ?_
    refine Run.bipush (pc' := 16) (v := (15 : Int32)) X0 hx (hb hby at_14) rfl rfl ?_
    refine Run.iand (pc' := 17) X0 hx (hb hby at_16) rfl ?_
    refine Run.bipush (pc' := 19) (v := (9 : Int32)) X0 hx (hb hby at_17) rfl rfl ?_
    refine Run.irem (pc' := 20) X0 hx (hb hby at_19) (by decide) rfl ?_
    refine Run.istore (pc' := 22) X0 hx (l' := #[.val (.int p0), .val (.int p1), .val (.long q2), .second, .val (.long q3), .second, .val (.int (1 : Int32)), .val (.int ((p1 &&& (15 : Int32)) % (9 : Int32))), .unset, .unset, .unset, .unset, .unset, .unset, .unset, .unset, .unset]) (hb hby at_20) rfl rfl ?_
    refine Run.iload (pc' := 24) X0 hx (hb hby at_22) rfl rfl ?_
    refine Run.i2d (pc' := 25) X0 hx (hb hby at_24) rfl ?_
    refine Run.ldc2Double (pc' := 28) (v := (4620693217682128896 : UInt64)) X0 hx hown (mvT hZ (hw _ (List.mem_of_getElem? (i := 0) rfl))) (hb hby at_25) rfl ?_
    refine Run.ddiv (pc' := 29) X0 hx (hb hby at_28) (own_n0 p1) rfl ?_
    refine Run.dstore (pc' := 31) X0 hx (l' := #[.val (.int p0), .val (.int p1), .val (.long q2), .second, .val (.long q3), .second, .val (.int (1 : Int32)), .val (.int ((p1 &&& (15 : Int32)) % (9 : Int32))), .val (.double (FP.ddiv (FP.i2d ((p1 &&& (15 : Int32)) % (9 : Int32))) (4620693217682128896 : UInt64))), .second, .unset, .unset, .unset, .unset, .unset, .unset, .unset]) (hb hby at_29) rfl rfl ?_
    refine Run.lload (pc' := 33) X0 hx (hb hby at_31) rfl rfl ?_
    refine Run.ldc2Long (pc' := 36) (v := (562949953421311 : Int64)) X0 hx hown (mvT hZ (hw _ (List.mem_of_getElem? (i := 1) rfl))) (hb hby at_33) rfl ?_
    refine Run.land (pc' := 37) X0 hx (hb hby at_36) rfl ?_
    refine Run.lconst (pc' := 38) (v := (1 : Int64)) X0 hx (hb hby at_37) rfl rfl ?_
    refine Run.ladd (pc' := 39) X0 hx (hb hby at_38) rfl ?_
    refine Run.lstore (pc' := 41) X0 hx (l' := #[.val (.int p0), .val (.int p1), .val (.long q2), .second, .val (.long q3), .second, .val (.int (1 : Int32)), .val (.int ((p1 &&& (15 : Int32)) % (9 : Int32))), .val (.double (FP.ddiv (FP.i2d ((p1 &&& (15 : Int32)) % (9 : Int32))) (4620693217682128896 : UInt64))), .second, .val (.long ((q3 &&& (562949953421311 : Int64)) + (1 : Int64))), .second, .unset, .unset, .unset, .unset, .unset]) (hb hby at_39) rfl rfl ?_
    refine Run.iload (pc' := 43) X0 hx (hb hby at_41) rfl rfl ?_
    refine Run.i2l (pc' := 44) X0 hx (hb hby at_43) rfl ?_
    refine Run.lload (pc' := 46) X0 hx (hb hby at_44) rfl rfl ?_
    refine Run.lmul (pc' := 47) X0 hx (hb hby at_46) rfl ?_
    refine Run.lstore (pc' := 49) X0 hx (l' := #[.val (.int p0), .val (.int p1), .val (.long q2), .second, .val (.long q3), .second, .val (.int (1 : Int32)), .val (.int ((p1 &&& (15 : Int32)) % (9 : Int32))), .val (.double (FP.ddiv (FP.i2d ((p1 &&& (15 : Int32)) % (9 : Int32))) (4620693217682128896 : UInt64))), .second, .val (.long ((q3 &&& (562949953421311 : Int64)) + (1 : Int64))), .second, .val (.long ((((p1 &&& (15 : Int32)) % (9 : Int32)).toInt64) * ((q3 &&& (562949953421311 : Int64)) + (1 : Int64)))), .second, .unset, .unset, .unset]) (hb hby at_47) rfl rfl ?_
    refine Run.iloadN (pc' := 50) X0 hx (hb hby at_49) rfl rfl ?_
    refine Run.iconst (pc' := 51) (v := (2 : Int32)) X0 hx (hb hby at_50) rfl rfl ?_
    refine Run.iand (pc' := 52) X0 hx (hb hby at_51) rfl ?_
    by_cases hc52 : (p0 &&& (2 : Int32)) = (0 : Int32)
    · skip
      refine Run.ifNo (pc' := 55) X0 hx (hb hby at_52) ((if0 _ _).trans (teq hc52).2) rfl ?_
      refine Run.lloadN (pc' := 56) X0 hx (hb hby at_55) rfl rfl ?_
      refine Run.bipush (pc' := 58) (v := (11 : Int32)) X0 hx (hb hby at_56) rfl rfl ?_
      refine Run.lshr (pc' := 59) X0 hx (hb hby at_58) rfl ?_
      refine Run.lstore (pc' := 61) X0 hx (l' := #[.val (.int p0), .val (.int p1), .val (.long q2), .second, .val (.long q3), .second, .val (.int (1 : Int32)), .val (.int ((p1 &&& (15 : Int32)) % (9 : Int32))), .val (.double (FP.ddiv (FP.i2d ((p1 &&& (15 : Int32)) % (9 : Int32))) (4620693217682128896 : UInt64))), .second, .val (.long ((q3 &&& (562949953421311 : Int64)) + (1 : Int64))), .second, .val (.long ((((p1 &&& (15 : Int32)) % (9 : Int32)).toInt64) * ((q3 &&& (562949953421311 : Int64)) + (1 : Int64)))), .second, .val (.long (q2 >>> ((11 : Int32) &&& 0x3f).toInt64)), .second, .unset]) (hb hby at_59) rfl rfl ?_
      refine Run.goto (pc' := 82) X0 hx (hb hby at_61) (by decide) (by decide) ?_
      refine Run.iload (pc' := 84) X0 hx (hb hby at_82) rfl rfl ?_
      refine Run.ifYes (pc' := 99) X0 hx (hb hby at_84) ((if0 _ _).trans (feq (by decide : ¬ ((1 : Int32) = (0 : Int32)))).2) (by decide) (by decide) ?_
      refine Run.iconst (pc' := 100) (v := (1 : Int32)) X0 hx (hb hby at_99) rfl rfl ?_
      refine Run.goto (pc' := 104) X0 hx (hb hby at_100) (by decide) (by decide) ?_
      refine Run.istore (pc' := 106) X0 hx (l' := #[.val (.int p0), .val (.int p1), .val (.long q2), .second, .val (.long q3), .second, .val (.int (1 : Int32)), .val (.int ((p1 &&& (15 : Int32)) % (9 : Int32))), .val (.double (FP.ddiv (FP.i2d ((p1 &&& (15 : Int32)) % (9 : Int32))) (4620693217682128896 : UInt64))), .second, .val (.long ((q3 &&& (562949953421311 : Int64)) + (1 : Int64))), .second, .val (.long ((((p1 &&& (15 : Int32)) % (9 : Int32)).toInt64) * ((q3 &&& (562949953421311 : Int64)) + (1 : Int64)))), .second, .val (.long (q2 >>> ((11 : Int32) &&& 0x3f).toInt64)), .second, .val (.int (1 : Int32))]) (hb hby at_104) rfl rfl ?_
      refine Run.iload (pc' := 108) X0 hx (hb hby at_106) rfl rfl ?_
      refine Run.lload (pc' := 110) X0 hx (hb hby at_108) rfl rfl ?_
      refine Run.dload (pc' := 112) X0 hx (hb hby at_110) rfl rfl ?_
      refine Run.lload (pc' := 114) X0 hx (hb hby at_112) rfl rfl ?_
      obtain ⟨T5, L5, v5, X5, Q5, st5⟩ := callStatic X0 hx (y := (⟨"com/example/tallyhold/tallyhold/ledger/Ledger", "snapshotHurries", "(ZJDJ)Z"⟩ : MethodName)) (Ls := #[.val (.int p0), .val (.int p1), .val (.long q2), .second, .val (.long q3), .second, .val (.int (1 : Int32)), .val (.int ((p1 &&& (15 : Int32)) % (9 : Int32))), .val (.double (FP.ddiv (FP.i2d ((p1 &&& (15 : Int32)) % (9 : Int32))) (4620693217682128896 : UInt64))), .second, .val (.long ((q3 &&& (562949953421311 : Int64)) + (1 : Int64))), .second, .val (.long ((((p1 &&& (15 : Int32)) % (9 : Int32)).toInt64) * ((q3 &&& (562949953421311 : Int64)) + (1 : Int64)))), .second, .val (.long (q2 >>> ((11 : Int32) &&& 0x3f).toInt64)), .second, .val (.int (1 : Int32))]) (rest := []) (W := 0) (argsL := [(.int (1 : Int32)), (.long (q2 >>> ((11 : Int32) &&& 0x3f).toInt64)), (.double (FP.ddiv (FP.i2d ((p1 &&& (15 : Int32)) % (9 : Int32))) (4620693217682128896 : UInt64))), (.long ((q3 &&& (562949953421311 : Int64)) + (1 : Int64)))]) hZ hown (hw _ (List.mem_of_getElem? (i := 3) rfl)) (hw _ (List.mem_of_getElem? (i := 4) rfl)) (hw _ (List.mem_of_getElem? (i := 5) rfl)) (hw _ (List.mem_of_getElem? (i := 6) rfl)) (by decide) e0 (rm1 l Z a0 hw [] (1 : Int32) (q2 >>> ((11 : Int32) &&& 0x3f).toInt64) (FP.ddiv (FP.i2d ((p1 &&& (15 : Int32)) % (9 : Int32))) (4620693217682128896 : UInt64)) ((q3 &&& (562949953421311 : Int64)) + (1 : Int64))  h0 n0 Z0 (own_n1 p1 q3) (own_n2 p1 q3)) (hb hby at_114) (lenOf own_pd0 rfl) (by decide) (by decide) (by rw [hml]; rfl) (Nat.le_of_eq rfl) (by decide) (by decide)
      obtain ⟨rfl, M5, e5⟩ := Q5
      have N5 := Fr.app N0 M5
      refine Run.back (g' := (mkF m 117 #[.val (.int p0), .val (.int p1), .val (.long q2), .second, .val (.long q3), .second, .val (.int (1 : Int32)), .val (.int ((p1 &&& (15 : Int32)) % (9 : Int32))), .val (.double (FP.ddiv (FP.i2d ((p1 &&& (15 : Int32)) % (9 : Int32))) (4620693217682128896 : UInt64))), .second, .val (.long ((q3 &&& (562949953421311 : Int64)) + (1 : Int64))), .second, .val (.long ((((p1 &&& (15 : Int32)) % (9 : Int32)).toInt64) * ((q3 &&& (562949953421311 : Int64)) + (1 : Int64)))), .second, .val (.long (q2 >>> ((11 : Int32) &&& 0x3f).toInt64)), .second, .val (.int (1 : Int32))] [(.int (own_F1 (1 : Int32) (q2 >>> ((11 : Int32) &&& 0x3f).toInt64) (FP.ddiv (FP.i2d ((p1 &&& (15 : Int32)) % (9 : Int32))) (4620693217682128896 : UInt64)) ((q3 &&& (562949953421311 : Int64)) + (1 : Int64))))])) st5 ?_
      refine Run.iload (pc' := 119) X5 hx (hb hby at_117) rfl rfl ?_
      refine Run.icmpNo (pc' := 122) X5 hx (hb hby at_119) (teq (own_close _ _ _)).2 rfl ?_
      refine Run.iconst (pc' := 123) (v := (1 : Int32)) X5 hx (hb hby at_122) rfl rfl ?_
      refine Run.goto (pc' := 127) X5 hx (hb hby at_123) (by decide) (by decide) ?_
      exact Run.retSmall X5 hx (t := .boolean) (z' := (1 : Int32)) Bd.notSynchronized Bd.returns (by simp) rfl (hb hby at_127) ⟨rfl, N5⟩ (by decide) (by decide)
    · skip
      refine Run.ifYes (pc' := 64) X0 hx (hb hby at_52) ((if0 _ _).trans (feq hc52).2) (by decide) (by decide) ?_
      refine Run.lload (pc' := 66) X0 hx (hb hby at_64) rfl rfl ?_
      refine Run.ldc2Long (pc' := 69) (v := (16 : Int64)) X0 hx hown (mvT hZ (hw _ (List.mem_of_getElem? (i := 2) rfl))) (hb hby at_66) rfl ?_
      refine Run.ldiv (pc' := 70) X0 hx (hb hby at_69) (by decide) rfl ?_
      refine Run.lloadN (pc' := 71) X0 hx (hb hby at_70) rfl rfl ?_
      refine Run.ldc2Long (pc' := 74) (v := (7 : Int64)) X0 hx hown (mvT hZ (hw _ (List.mem_of_getElem? (i := 8) rfl))) (hb hby at_71) rfl ?_
      refine Run.land (pc' := 75) X0 hx (hb hby at_74) rfl ?_
      refine Run.ldc2Long (pc' := 78) (v := (4 : Int64)) X0 hx hown (mvT hZ (hw _ (List.mem_of_getElem? (i := 9) rfl))) (hb hby at_75) rfl ?_
      refine Run.lsub (pc' := 79) X0 hx (hb hby at_78) rfl ?_
      refine Run.ladd (pc' := 80) X0 hx (hb hby at_79) rfl ?_
      refine Run.lstore (pc' := 82) X0 hx (l' := #[.val (.int p0), .val (.int p1), .val (.long q2), .second, .val (.long q3), .second, .val (.int (1 : Int32)), .val (.int ((p1 &&& (15 : Int32)) % (9 : Int32))), .val (.double (FP.ddiv (FP.i2d ((p1 &&& (15 : Int32)) % (9 : Int32))) (4620693217682128896 : UInt64))), .second, .val (.long ((q3 &&& (562949953421311 : Int64)) + (1 : Int64))), .second, .val (.long ((((p1 &&& (15 : Int32)) % (9 : Int32)).toInt64) * ((q3 &&& (562949953421311 : Int64)) + (1 : Int64)))), .second, .val (.long ((((((p1 &&& (15 : Int32)) % (9 : Int32)).toInt64) * ((q3 &&& (562949953421311 : Int64)) + (1 : Int64))) / (16 : Int64)) + ((q2 &&& (7 : Int64)) - (4 : Int64)))), .second, .unset]) (hb hby at_80) rfl rfl ?_
      refine Run.iload (pc' := 84) X0 hx (hb hby at_82) rfl rfl ?_
      refine Run.ifYes (pc' := 99) X0 hx (hb hby at_84) ((if0 _ _).trans (feq (by decide : ¬ ((1 : Int32) = (0 : Int32)))).2) (by decide) (by decide) ?_
      refine Run.iconst (pc' := 100) (v := (1 : Int32)) X0 hx (hb hby at_99) rfl rfl ?_
      refine Run.goto (pc' := 104) X0 hx (hb hby at_100) (by decide) (by decide) ?_
      refine Run.istore (pc' := 106) X0 hx (l' := #[.val (.int p0), .val (.int p1), .val (.long q2), .second, .val (.long q3), .second, .val (.int (1 : Int32)), .val (.int ((p1 &&& (15 : Int32)) % (9 : Int32))), .val (.double (FP.ddiv (FP.i2d ((p1 &&& (15 : Int32)) % (9 : Int32))) (4620693217682128896 : UInt64))), .second, .val (.long ((q3 &&& (562949953421311 : Int64)) + (1 : Int64))), .second, .val (.long ((((p1 &&& (15 : Int32)) % (9 : Int32)).toInt64) * ((q3 &&& (562949953421311 : Int64)) + (1 : Int64)))), .second, .val (.long ((((((p1 &&& (15 : Int32)) % (9 : Int32)).toInt64) * ((q3 &&& (562949953421311 : Int64)) + (1 : Int64))) / (16 : Int64)) + ((q2 &&& (7 : Int64)) - (4 : Int64)))), .second, .val (.int (1 : Int32))]) (hb hby at_104) rfl rfl ?_
      refine Run.iload (pc' := 108) X0 hx (hb hby at_106) rfl rfl ?_
      refine Run.lload (pc' := 110) X0 hx (hb hby at_108) rfl rfl ?_
      refine Run.dload (pc' := 112) X0 hx (hb hby at_110) rfl rfl ?_
      refine Run.lload (pc' := 114) X0 hx (hb hby at_112) rfl rfl ?_
      obtain ⟨T6, L6, v6, X6, Q6, st6⟩ := callStatic X0 hx (y := (⟨"com/example/tallyhold/tallyhold/ledger/Ledger", "snapshotHurries", "(ZJDJ)Z"⟩ : MethodName)) (Ls := #[.val (.int p0), .val (.int p1), .val (.long q2), .second, .val (.long q3), .second, .val (.int (1 : Int32)), .val (.int ((p1 &&& (15 : Int32)) % (9 : Int32))), .val (.double (FP.ddiv (FP.i2d ((p1 &&& (15 : Int32)) % (9 : Int32))) (4620693217682128896 : UInt64))), .second, .val (.long ((q3 &&& (562949953421311 : Int64)) + (1 : Int64))), .second, .val (.long ((((p1 &&& (15 : Int32)) % (9 : Int32)).toInt64) * ((q3 &&& (562949953421311 : Int64)) + (1 : Int64)))), .second, .val (.long ((((((p1 &&& (15 : Int32)) % (9 : Int32)).toInt64) * ((q3 &&& (562949953421311 : Int64)) + (1 : Int64))) / (16 : Int64)) + ((q2 &&& (7 : Int64)) - (4 : Int64)))), .second, .val (.int (1 : Int32))]) (rest := []) (W := 0) (argsL := [(.int (1 : Int32)), (.long ((((((p1 &&& (15 : Int32)) % (9 : Int32)).toInt64) * ((q3 &&& (562949953421311 : Int64)) + (1 : Int64))) / (16 : Int64)) + ((q2 &&& (7 : Int64)) - (4 : Int64)))), (.double (FP.ddiv (FP.i2d ((p1 &&& (15 : Int32)) % (9 : Int32))) (4620693217682128896 : UInt64))), (.long ((q3 &&& (562949953421311 : Int64)) + (1 : Int64)))]) hZ hown (hw _ (List.mem_of_getElem? (i := 3) rfl)) (hw _ (List.mem_of_getElem? (i := 4) rfl)) (hw _ (List.mem_of_getElem? (i := 5) rfl)) (hw _ (List.mem_of_getElem? (i := 6) rfl)) (by decide) e0 (rm1 l Z a0 hw [] (1 : Int32) ((((((p1 &&& (15 : Int32)) % (9 : Int32)).toInt64) * ((q3 &&& (562949953421311 : Int64)) + (1 : Int64))) / (16 : Int64)) + ((q2 &&& (7 : Int64)) - (4 : Int64))) (FP.ddiv (FP.i2d ((p1 &&& (15 : Int32)) % (9 : Int32))) (4620693217682128896 : UInt64)) ((q3 &&& (562949953421311 : Int64)) + (1 : Int64))  h0 n0 Z0 (own_n1 p1 q3) (own_n2 p1 q3)) (hb hby at_114) (lenOf own_pd0 rfl) (by decide) (by decide) (by rw [hml]; rfl) (Nat.le_of_eq rfl) (by decide) (by decide)
      obtain ⟨rfl, M6, e6⟩ := Q6
      have N6 := Fr.app N0 M6
      refine Run.back (g' := (mkF m 117 #[.val (.int p0), .val (.int p1), .val (.long q2), .second, .val (.long q3), .second, .val (.int (1 : Int32)), .val (.int ((p1 &&& (15 : Int32)) % (9 : Int32))), .val (.double (FP.ddiv (FP.i2d ((p1 &&& (15 : Int32)) % (9 : Int32))) (4620693217682128896 : UInt64))), .second, .val (.long ((q3 &&& (562949953421311 : Int64)) + (1 : Int64))), .second, .val (.long ((((p1 &&& (15 : Int32)) % (9 : Int32)).toInt64) * ((q3 &&& (562949953421311 : Int64)) + (1 : Int64)))), .second, .val (.long ((((((p1 &&& (15 : Int32)) % (9 : Int32)).toInt64) * ((q3 &&& (562949953421311 : Int64)) + (1 : Int64))) / (16 : Int64)) + ((q2 &&& (7 : Int64)) - (4 : Int64)))), .second, .val (.int (1 : Int32))] [(.int (own_F1 (1 : Int32) ((((((p1 &&& (15 : Int32)) % (9 : Int32)).toInt64) * ((q3 &&& (562949953421311 : Int64)) + (1 : Int64))) / (16 : Int64)) + ((q2 &&& (7 : Int64)) - (4 : Int64))) (FP.ddiv (FP.i2d ((p1 &&& (15 : Int32)) % (9 : Int32))) (4620693217682128896 : UInt64)) ((q3 &&& (562949953421311 : Int64)) + (1 : Int64))))])) st6 ?_
      refine Run.iload (pc' := 119) X6 hx (hb hby at_117) rfl rfl ?_
      refine Run.icmpNo (pc' := 122) X6 hx (hb hby at_119) (teq (own_close _ _ _)).2 rfl ?_
      refine Run.iconst (pc' := 123) (v := (1 : Int32)) X6 hx (hb hby at_122) rfl rfl ?_
      refine Run.goto (pc' := 127) X6 hx (hb hby at_123) (by decide) (by decide) ?_
      exact Run.retSmall X6 hx (t := .boolean) (z' := (1 : Int32)) Bd.notSynchronized Bd.returns (by simp) rfl (hb hby at_127) ⟨rfl, N6⟩ (by decide) (by decide)
set_option maxRecDepth 65536 in
set_option maxHeartbeats 40000000 in
theorem comes_1 {Post : Tables → Env → Array Value → State → Outcome → State → Prop} (hpost : ∀ tb e args s v u, (limb_1_1.after args s (.returned v) u = true ∧ limb_1_2.after args s (.returned v) u = true ∧ True) → FrameEnd s (.returned v) u (Jvm.fieldLocs frame_1_writes args s ++ Jvm.arrayLocs frame_1_arrays args s ++ Jvm.staticLocs frame_1_statics s) 0 0 → Post tb e args s (.returned v) u) :
    ArmFor flags0 classFile x code maxLocals ret World_1 tables_1 room_1 Calls_1 rest_1 Pre_1 Post := by
  intro l hfl _ _ p e ha hc hk s m args below hf hA hF happ hP
  obtain ⟨hcalls, hrest, hpre⟩ := hP
  obtain ⟨-, -, -, hnamed, -, -, -, hat⟩ := (Spec.applies_iff hf).mp happ
  obtain ⟨hg, hn⟩ := and_e (Cond.before_iff.mp (show (Jvm.Cond.and given_1 narrow_1).before args s = true from hpre))
  obtain ⟨hcount, hg0⟩ := and_e hg
  obtain ⟨ha0, hg1⟩ := and_e hg0
  obtain ⟨ha1, hg2⟩ := and_e hg1
  obtain ⟨ha2, hg3⟩ := and_e hg2
  obtain ⟨w0, w1, w2, w3, rfl⟩ : ∃ w0 w1 w2 w3 : Value, args = #[w0, w1, w2, w3] := by
    have hs : args.size = 4 := by simpa [Cond.value, given_1] using hcount
    obtain ⟨L⟩ := args
    match L, hs with
    | [w0, w1, w2, w3], _ => exact ⟨w0, w1, w2, w3, rfl⟩
  have hw := fun d (hd : d ∈ tables_1) => atoms_spec (ws := Jvm.Cond.code x code maxLocals ret :: tables_1) hat d (List.mem_cons_of_mem _ hd)
  have hfit : Fit s := fun {y c} hc i hi => by
    obtain ⟨ha, rfl⟩ := Array.getElem?_eq_some_iff.mp hc
    have q := List.all_eq_true.mp ((Array.all_eq_true_iff_forall_mem.mp hF) _ (Array.getElem_mem ha)) i (List.mem_range.mpr hi)
    simpa [Array.getElem?_eq_getElem hi] using q
  obtain ⟨i0, ei0⟩ := is_v ha0
  obtain rfl : w0 = (.int i0) := Option.some.inj ei0
  obtain ⟨i1, ei1⟩ := is_v ha1
  obtain rfl : w1 = (.int i1) := Option.some.inj ei1
  obtain ⟨i2, ei2⟩ := isL_v ha2
  obtain rfl : w2 = (.long i2) := Option.some.inj ei2
  obtain ⟨i3, ei3⟩ := isL_v hg3
  obtain rfl : w3 = (.long i3) := Option.some.inj ei3
  obtain ⟨n, o, h1, h2, h3, _, L, rfl, ⟨rfl, N⟩, hq⟩ := rm0 l s _ hw tables_1 i0 i1 i2 i3 s.heap s.heap.size (Nat.le_refl _) p e ha hc hk s m _ below hf ((Spec.applies_iff_loose hf).mp happ).1 ⟨rfl, State.Warmed39.refl s, rfl⟩ trivial
  refine ⟨n, _, h1, h2, h3, hpost _ _ _ _ _ _ ⟨Cond.after_iff.mpr rfl, Cond.after_iff.mpr (eq_i res_at (Term.int_eval (1)) rfl), trivial⟩ ⟨hq.1, hq.2.1, (hq.2.2.sift fun y hy => Or.inr (N y hy)).mono (by decide) (by decide)⟩⟩
theorem main_1_1 : Claimed_1_1 := comes_1 fun _ _ _ _ _ _ h hF => ⟨h.1, hF⟩
theorem main_1_2 : Claimed_1_2 := comes_1 fun _ _ _ _ _ _ h hF => ⟨h.2.1, hF⟩
end Jvm.Pilot.@@N@@
namespace Jvm.Pilot.@@N@@
open Jvm Jvm.ClassFile Sem Op Lib Jvm.Free Jvm.Stand Jvm.Pilot.@@N@@.Jvm.D
/-! MADE BY PROGRAM (witnessworld.py) out of the Statement's table words and the real class files: 11 classes; the members and pool entries that the words name. The judged class is class 1, her method 1. -/
namespace start1
open Jvm.ClassFile
def u (s : String) : CpInfo := .utf8 (stringToUtf16 s)
/-- a pool by its gaps: so many unusable entries, then the entry; so many at the end -/
def gap : Nat → List CpInfo → List CpInfo
  | 0, r => r
  | n + 1, r => .unusable :: gap n r
def poolList (es : List (Nat × CpInfo)) (last : Nat) : List CpInfo := es.foldr (fun e r => gap e.1 (e.2 :: r)) (gap last [])
def pool (es : List (Nat × CpInfo)) (last : Nat) : Array CpInfo := ⟨poolList es last⟩
def fileOf (pool : Array CpInfo) (this : Nat) (attrs : Array Attribute := #[]) (ms : Array MethodInfo := #[]) (fl : Nat := 33) (sup : Nat := 0) (ifs : Array Nat := #[]) (fds : Array FieldInfo := #[]) : ClassFile where
  minorVersion := 0
  majorVersion := 65
  constantPool := pool
  accessFlags := fl
  thisClass := this
  superClass := sup
  interfaces := ifs
  fields := fds
  methods := ms
  attributes := attrs
def plain (name : String) (sup : Option ClassId) : Class where
  name := name
  kind := .ordinary
  loader := none
  accessFlags := 33
  super := sup
  interfaces := #[]
  cf := none
  fields := #[]
  methods := #[]
  instanceTypes := #[]
  staticTypes := #[]
  resolved := #[]
  callSites := []
  init := .initialized
  statics := none
  mirror := none

def pool0 : Array CpInfo := pool [(5, u "<init>"), (0, u "()V"), (1, .class_ 10), (1, u "java/lang/Object")] 113

def k0m0 : Method := { name := "<init>", desc := "()V", sig := { parameters := [], returnType := none }, accessFlags := 1, code := none }
/-- java/lang/Object -/
def k0 : Class := { plain "java/lang/Object" none with
  accessFlags := 33
  interfaces := #[]
  cf := some (fileOf pool0 8 #[] #[{ accessFlags := 1, nameIndex := 5, descriptorIndex := 6, attributes := #[] }] 33 0 #[] #[])
  fields := #[]
  methods := #[k0m0]
  instanceTypes := #[]
  staticTypes := #[]
  resolved := Array.replicate 124 none
  statics := none }

def pool1 : Array CpInfo := pool [(2, .class_ 4), (1, u "java/lang/Object"), (0, u "<init>"), (0, u "()V"), (0, .double 4620693217682128896), (1, .long 562949953421311), (1, .long 16), (1, .long 7), (1, .long 4), (1, .methodref 18 19), (0, .class_ 20), (0, .nameAndType 21 22), (0, u "com/example/tallyhold/tallyhold/ledger/Ledger"), (0, u "snapshotHurries"), (0, u "(ZJDJ)Z"), (0, .class_ 24), (0, u "com/example/tallyhold/tallyhold/ledger/LedgerSnapshotHurriesPinLaw"), (2, u "law"), (0, u "(IIJJ)Z")] 3

def k1m0 : Method := { name := "<init>", desc := "()V", sig := { parameters := [], returnType := none }, accessFlags := 1, code := none }
def k1c1 : Code := { maxStack := 7, maxLocals := 17, code := code, exceptionTable := #[], attributes := #[] }
def k1m1 : Method := { name := "law", desc := "(IIJJ)Z", sig := { parameters := [.int, .int, .long, .long], returnType := some .boolean }, accessFlags := 9, code := some k1c1 }
/-- com/example/tallyhold/tallyhold/ledger/LedgerSnapshotHurriesPinLaw -/
def k1 : Class := { plain "com/example/tallyhold/tallyhold/ledger/LedgerSnapshotHurriesPinLaw" (some 0) with
  accessFlags := 49
  interfaces := #[]
  cf := some (fileOf pool1 23 #[] #[{ accessFlags := 1, nameIndex := 5, descriptorIndex := 6, attributes := #[] }, { accessFlags := 9, nameIndex := 27, descriptorIndex := 28, attributes := #[] }] 49 2 #[] #[])
  fields := #[]
  methods := #[k1m0, k1m1]
  instanceTypes := #[]
  staticTypes := #[]
  resolved := Array.replicate 32 none
  statics := none }

def pool2 : Array CpInfo := pool [(1, .class_ 2), (0, u "java/lang/AutoCloseable"), (0, .class_ 4), (0, u "java/lang/Object")] 7

/-- java/lang/AutoCloseable -/
def k2 : Class := { plain "java/lang/AutoCloseable" (some 0) with
  accessFlags := 1537
  interfaces := #[]
  cf := some (fileOf pool2 1 #[] #[] 1537 3 #[] #[])
  fields := #[]
  methods := #[]
  instanceTypes := #[]
  staticTypes := #[]
  resolved := Array.replicate 12 none
  statics := none }

def pool3 : Array CpInfo := pool [(1, .class_ 2), (0, u "java/io/Closeable"), (0, .class_ 4), (0, u "java/lang/Object"), (0, .class_ 6), (0, u "java/lang/AutoCloseable")] 7

/-- java/io/Closeable -/
def k3 : Class := { plain "java/io/Closeable" (some 0) with
  accessFlags := 1537
  interfaces := #[2]
  cf := some (fileOf pool3 1 #[] #[] 1537 3 #[5] #[])
  fields := #[]
  methods := #[]
  instanceTypes := #[]
  staticTypes := #[]
  resolved := Array.replicate 14 none
  statics := none }

def pool4 : Array CpInfo := pool [(2, .class_ 4), (1, u "java/lang/Object"), (3, .class_ 10), (1, u "com/example/tallyhold/tallyhold/ledger/Ledger"), (0, u "writer"), (0, u "Ljava/lang/Object;"), (6, u "expiryTurnAt"), (0, u "J"), (2, u "directory"), (0, u "Ljava/nio/file/Path;"), (1, .class_ 28), (1, u "com/example/tallyhold/tallyhold/ledger/Ledger$Recovered"), (0, u "books"), (3, u "Lcom/example/tallyhold/tallyhold/ledger/Books;"), (2, u "journal"), (0, u "Lcom/example/tallyhold/tallyhold/journal/Journal;"), (2, u "history"), (3, u "Lcom/example/tallyhold/tallyhold/ledger/History;"), (2, u "recovery"), (3, u "Lcom/example/tallyhold/tallyhold/ledger/Recovery;"), (2, u "clock"), (0, u "Ljava/time/Clock;"), (2, u "snapshotEvery"), (0, u "Ljava/util/OptionalLong;"), (2, u "log"), (0, u "Ljava/io/PrintStream;"), (8, u "snapshotAt"), (6, u "snapshotDue"), (12, u "snapshots"), (0, u "Ljava/util/concurrent/ExecutorService;"), (8, u "expiries"), (0, u "Ljava/util/concurrent/ScheduledThreadPoolExecutor;"), (199, .class_ 305), (1, u "java/io/Closeable"), (128, u "closed"), (0, u "Z"), (2, u "closing"), (47, .class_ 488), (1, u "com/example/tallyhold/tallyhold/ledger/Ledger$Change"), (5, u "changesApplied"), (60, u "snapshotting"), (22, .double 4611686018427387904), (22, .class_ 602), (0, u "com/example/tallyhold/tallyhold/ledger/Ledger$Frozen"), (108, u "snapshotHurries"), (0, u "(ZJDJ)Z"), (57, u "MAX_BATCH"), (0, u "I"), (2, u "MAX_PAGE"), (1, u "DEFAULT_SNAPSHOT_EVERY"), (2, u "CLOSE_WAIT_SECONDS"), (0, u "SNAPSHOT_WAIT_SECONDS"), (0, u "SNAPSHOT_IDLE_PER_BUSY")] 174

def k4c0 : Code := { maxStack := 6, maxLocals := 7, code := prog_71_method_30_code, exceptionTable := #[], attributes := #[] }
def k4m0 : Method := { name := "snapshotHurries", desc := "(ZJDJ)Z", sig := { parameters := [.boolean, .long, .double, .long], returnType := some .boolean }, accessFlags := 8, code := some k4c0 }
/-- com/example/tallyhold/tallyhold/ledger/Ledger -/
def k4 : Class := { plain "com/example/tallyhold/tallyhold/ledger/Ledger" (some 0) with
  accessFlags := 49
  interfaces := #[3]
  cf := some (fileOf pool4 8 #[.nestMembers #[486, 601, 26]] #[{ accessFlags := 8, nameIndex := 711, descriptorIndex := 712, attributes := #[] }] 49 2 #[303] #[{ accessFlags := 25, nameIndex := 770, descriptorIndex := 771, attributes := #[] }, { accessFlags := 25, nameIndex := 774, descriptorIndex := 771, attributes := #[] }, { accessFlags := 25, nameIndex := 776, descriptorIndex := 20, attributes := #[] }, { accessFlags := 26, nameIndex := 779, descriptorIndex := 20, attributes := #[] }, { accessFlags := 26, nameIndex := 780, descriptorIndex := 20, attributes := #[] }, { accessFlags := 26, nameIndex := 781, descriptorIndex := 20, attributes := #[] }, { accessFlags := 18, nameIndex := 23, descriptorIndex := 24, attributes := #[] }, { accessFlags := 18, nameIndex := 29, descriptorIndex := 33, attributes := #[] }, { accessFlags := 18, nameIndex := 36, descriptorIndex := 37, attributes := #[] }, { accessFlags := 18, nameIndex := 40, descriptorIndex := 44, attributes := #[] }, { accessFlags := 18, nameIndex := 47, descriptorIndex := 51, attributes := #[] }, { accessFlags := 18, nameIndex := 58, descriptorIndex := 59, attributes := #[] }, { accessFlags := 18, nameIndex := 62, descriptorIndex := 63, attributes := #[] }, { accessFlags := 18, nameIndex := 92, descriptorIndex := 93, attributes := #[] }, { accessFlags := 2, nameIndex := 72, descriptorIndex := 20, attributes := #[] }, { accessFlags := 2, nameIndex := 79, descriptorIndex := 20, attributes := #[] }, { accessFlags := 66, nameIndex := 494, descriptorIndex := 20, attributes := #[] }, { accessFlags := 66, nameIndex := 438, descriptorIndex := 435, attributes := #[] }, { accessFlags := 2, nameIndex := 555, descriptorIndex := 435, attributes := #[] }, { accessFlags := 18, nameIndex := 54, descriptorIndex := 55, attributes := #[] }, { accessFlags := 18, nameIndex := 102, descriptorIndex := 103, attributes := #[] }, { accessFlags := 18, nameIndex := 11, descriptorIndex := 12, attributes := #[] }, { accessFlags := 2, nameIndex := 434, descriptorIndex := 435, attributes := #[] }, { accessFlags := 2, nameIndex := 19, descriptorIndex := 20, attributes := #[] }])
  fields := #[{ name := "MAX_BATCH", type := .int, accessFlags := 25, slot := 0, constantValue := 0 }, { name := "MAX_PAGE", type := .int, accessFlags := 25, slot := 1, constantValue := 0 }, { name := "DEFAULT_SNAPSHOT_EVERY", type := .long, accessFlags := 25, slot := 2, constantValue := 0 }, { name := "CLOSE_WAIT_SECONDS", type := .long, accessFlags := 26, slot := 3, constantValue := 0 }, { name := "SNAPSHOT_WAIT_SECONDS", type := .long, accessFlags := 26, slot := 4, constantValue := 0 }, { name := "SNAPSHOT_IDLE_PER_BUSY", type := .long, accessFlags := 26, slot := 5, constantValue := 0 }, { name := "directory", type := (.object "java/nio/file/Path"), accessFlags := 18, slot := 0, constantValue := 0 }, { name := "books", type := (.object "com/example/tallyhold/tallyhold/ledger/Books"), accessFlags := 18, slot := 1, constantValue := 0 }, { name := "journal", type := (.object "com/example/tallyhold/tallyhold/journal/Journal"), accessFlags := 18, slot := 2, constantValue := 0 }, { name := "history", type := (.object "com/example/tallyhold/tallyhold/ledger/History"), accessFlags := 18, slot := 3, constantValue := 0 }, { name := "recovery", type := (.object "com/example/tallyhold/tallyhold/ledger/Recovery"), accessFlags := 18, slot := 4, constantValue := 0 }, { name := "snapshotEvery", type := (.object "java/util/OptionalLong"), accessFlags := 18, slot := 5, constantValue := 0 }, { name := "log", type := (.object "java/io/PrintStream"), accessFlags := 18, slot := 6, constantValue := 0 }, { name := "snapshots", type := (.object "java/util/concurrent/ExecutorService"), accessFlags := 18, slot := 7, constantValue := 0 }, { name := "snapshotAt", type := .long, accessFlags := 2, slot := 8, constantValue := 0 }, { name := "snapshotDue", type := .long, accessFlags := 2, slot := 9, constantValue := 0 }, { name := "changesApplied", type := .long, accessFlags := 66, slot := 10, constantValue := 0 }, { name := "closing", type := .boolean, accessFlags := 66, slot := 11, constantValue := 0 }, { name := "snapshotting", type := .boolean, accessFlags := 2, slot := 12, constantValue := 0 }, { name := "clock", type := (.object "java/time/Clock"), accessFlags := 18, slot := 13, constantValue := 0 }, { name := "expiries", type := (.object "java/util/concurrent/ScheduledThreadPoolExecutor"), accessFlags := 18, slot := 14, constantValue := 0 }, { name := "writer", type := (.object "java/lang/Object"), accessFlags := 18, slot := 15, constantValue := 0 }, { name := "closed", type := .boolean, accessFlags := 2, slot := 16, constantValue := 0 }, { name := "expiryTurnAt", type := .long, accessFlags := 2, slot := 17, constantValue := 0 }]
  methods := #[k4m0]
  instanceTypes := #[(.object "java/nio/file/Path"), (.object "com/example/tallyhold/tallyhold/ledger/Books"), (.object "com/example/tallyhold/tallyhold/journal/Journal"), (.object "com/example/tallyhold/tallyhold/ledger/History"), (.object "com/example/tallyhold/tallyhold/ledger/Recovery"), (.object "java/util/OptionalLong"), (.object "java/io/PrintStream"), (.object "java/util/concurrent/ExecutorService"), .long, .long, .long, .boolean, .boolean, (.object "java/time/Clock"), (.object "java/util/concurrent/ScheduledThreadPoolExecutor"), (.object "java/lang/Object"), .boolean, .long]
  staticTypes := #[.int, .int, .long, .long, .long, .long]
  resolved := Array.replicate 956 none
  statics := none }

def pool5 : Array CpInfo := pool [(1, u "java/lang/Cloneable"), (0, .class_ 1), (0, u "java/lang/Object"), (0, .class_ 3)] 3

/-- java/lang/Cloneable -/
def k5 : Class := { plain "java/lang/Cloneable" (some 0) with
  accessFlags := 1537
  interfaces := #[]
  cf := some (fileOf pool5 2 #[] #[] 1537 4 #[] #[])
  fields := #[]
  methods := #[]
  instanceTypes := #[]
  staticTypes := #[]
  resolved := Array.replicate 8 none
  statics := none }

def pool6 : Array CpInfo := pool [(1, u "java/io/Serializable"), (0, .class_ 1), (0, u "java/lang/Object"), (0, .class_ 3)] 3

/-- java/io/Serializable -/
def k6 : Class := { plain "java/io/Serializable" (some 0) with
  accessFlags := 1537
  interfaces := #[]
  cf := some (fileOf pool6 2 #[] #[] 1537 4 #[] #[])
  fields := #[]
  methods := #[]
  instanceTypes := #[]
  staticTypes := #[]
  resolved := Array.replicate 8 none
  statics := none }

/-- the primitive byte -/
def k7 : Class := { plain "byte" none with kind := .primitive 'B', accessFlags := 0x411 }
/-- [B -/
def k8 : Class := { plain "[B" (some 0) with kind := .array 7 .byte, interfaces := #[5, 6], accessFlags := 1041 }

/-- the primitive int -/
def k9 : Class := { plain "int" none with kind := .primitive 'I', accessFlags := 0x411 }
/-- [I -/
def k10 : Class := { plain "[I" (some 0) with kind := .array 9 .int, interfaces := #[5, 6], accessFlags := 1041 }

def heap : Heap := #[]
def classes : Array Class := #[k0, k1, k2, k3, k4, k5, k6, k7, k8, k9, k10]
def interned : List (Array UInt16 × Addr) := []
def slotsUsed : Nat := 0
def theMethod : MethodId := ⟨1, 1⟩
def args0 : Array Value := #[.int 2, .int 5, .long 77, .long 99]
def aboutOver (below : List Frame) : State where
  vm := { classes := classes, interned := interned.toArray }
  heap := heap
  slotsUsed := slotsUsed
  threads := #[{ frames := .invoking theMethod args0 :: below }]
def below0 : List Frame := [.native { method := ⟨0, 0⟩, args := #[] }]
def about1 : State := aboutOver below0
def p0 : Program := .bare "" "" ""
def e0 : Env := launch0.env 0 0 0
theorem w_frames : about1.frames = Frame.invoking theMethod args0 :: below0 := rfl
set_option maxRecDepth 65536 in
theorem w_args : argsFit about1.vm theMethod args0 = true := by decide +kernel
set_option maxRecDepth 65536 in
theorem w_heap : heapFits about1 = true := by decide +kernel
set_option maxRecDepth 65536 in
theorem w_runnable : about1.curStatus? = some .runnable := by decide +kernel
set_option maxRecDepth 65536 in
theorem w_alone : about1.alone = true := by decide +kernel
set_option maxRecDepth 65536 in
theorem w_named : about1.methodNamed? x = some theMethod := by decide +kernel
set_option maxRecDepth 65536 in
theorem w_hears : about1.hears theMethod below0 = true := by decide +kernel
set_option maxRecDepth 65536 in
theorem w_ripe : about1.ripe theMethod args0 below0 = true := by decide +kernel
theorem w_running : about1.status = .running := rfl
set_option maxRecDepth 65536 in
theorem w_room : about1.hasRoom e0.platform room_1 = true :=
  launch0.hasRoom_least _ room_1 (by decide +kernel) (by decide +kernel) (by decide +kernel) (by decide +kernel) (by decide +kernel) (by decide +kernel)
theorem allAtoms_all (ts : List Jvm.Cond) (a : Array Jvm.Value) (st : Jvm.State) : (allAtoms ts).before a st = ts.all (fun c => c.before a st) := by
  induction ts with
  | nil => rfl
  | cons c t ih =>
    show (Jvm.Cond.and c (allAtoms t)).before a st = _
    rw [Jvm.Cond.before_and, ih, List.all_cons]
def words1 : List Jvm.Cond := Jvm.Cond.code x code maxLocals ret :: tables_1
/-- a 'code' word, met by the world's own term for the bytes: nothing is compared byte by byte -/
theorem code_word {y : MethodName} {bytes : ByteArray} {mx : Nat} {rt : Option FieldType} {a : Array Value} {s : State} {m : MethodId} {meth : Method} {c : Code} (h1 : s.methodNamed? y = some m) (h2 : s.vm.method? m = some meth) (h3 : meth.code = some c) (h4 : c.code = bytes)
    (h5 : (c.maxLocals == mx && c.exceptionTable.isEmpty && decide (c.maxStack ≤ mostOperands) && decide (meth.sig.returnType = rt) && !meth.locks && decide (parseMethodDescriptor y.desc = some meth.sig)) = true) : (Jvm.Cond.code y bytes mx rt).before a s = true := by
  simp only [Bool.and_eq_true, beq_iff_eq, Bool.not_eq_true', decide_eq_true_eq] at h5
  obtain ⟨⟨⟨⟨⟨g1, g2⟩, g3⟩, g4⟩, g5⟩, g6⟩ := h5
  simp [Cond.before, Cond.holds, Cond.value, h1, h2, h3, h4, g1, g2, g3, g4, g5, g6]
def isCode : Jvm.Cond → Bool
  | .code _ _ _ _ => true
  | _ => false
theorem all_split {L : List Jvm.Cond} {P : Jvm.Cond → Bool} (h1 : L.all (fun c => isCode c || P c) = true) (h2 : ∀ c ∈ L.filter isCode, P c = true) : L.all P = true := by
  refine List.all_eq_true.mpr fun c hc => ?_
  have h := List.all_eq_true.mp h1 c hc
  rcases Bool.eq_false_or_eq_true (isCode c) with hi | hi
  · exact h2 c (List.mem_filter.mpr ⟨hc, hi⟩)
  · simpa [hi] using h
set_option maxRecDepth 65536 in
theorem w_c0 : (Jvm.Cond.code x code maxLocals ret).before args0 about1 = true := code_word (m := ⟨1, 1⟩) (meth := k1m1) (c := k1c1) (by decide +kernel) rfl rfl rfl (by decide +kernel)
set_option maxRecDepth 65536 in
theorem w_c1 : (Jvm.Cond.code ({ cls := "com/example/tallyhold/tallyhold/ledger/Ledger", name := "snapshotHurries", desc := "(ZJDJ)Z" } : Jvm.MethodName) prog_71_method_30_code (7 : Nat) (Option.some Jvm.ClassFile.FieldType.boolean)).before args0 about1 = true := code_word (m := ⟨4, 0⟩) (meth := k4m0) (c := k4c0) (by decide +kernel) rfl rfl rfl (by decide +kernel)
def codes1 : List Jvm.Cond := [Jvm.Cond.code x code maxLocals ret, Jvm.Cond.code ({ cls := "com/example/tallyhold/tallyhold/ledger/Ledger", name := "snapshotHurries", desc := "(ZJDJ)Z" } : Jvm.MethodName) prog_71_method_30_code (7 : Nat) (Option.some Jvm.ClassFile.FieldType.boolean)]
set_option maxRecDepth 65536 in
theorem codes_eq : words1.filter isCode = codes1 := rfl
theorem w_codes : ∀ c ∈ words1.filter isCode, c.before args0 about1 = true := by
  rw [codes_eq]
  intro c hc
  simp only [codes1, List.mem_cons, List.not_mem_nil, or_false] at hc
  rcases hc with rfl | rfl
  · exact w_c0
  · exact w_c1
set_option maxRecDepth 65536 in
theorem w_t1 : words1.all (fun c => isCode c || c.before args0 about1) = true := by decide +kernel
theorem w_tables : (allAtoms (Jvm.Cond.code x code maxLocals ret :: tables_1)).before args0 about1 = true := by
  rw [allAtoms_all]
  show words1.all (fun c => c.before args0 about1) = true
  refine all_split ?_ w_codes
  rw [w_t1]
set_option maxRecDepth 65536 in
theorem w_case : (Jvm.Cond.and given_1 narrow_1).before args0 about1 = true := by decide +kernel
theorem w_applies : (headSpec (Jvm.Cond.code x code maxLocals ret :: tables_1) room_1).applies x e0.platform about1 = true :=
  (Spec.applies_iff w_frames).mpr ⟨w_running, w_runnable, w_alone, w_named, w_hears, w_ripe, w_room, w_tables⟩
theorem atStart : AtStart classFile x code maxLocals ret World_1 tables_1 room_1 Calls_1 rest_1 Pre_1 launch0 p0 e0 about1 theMethod args0 below0 :=
  ⟨lists_1, trivial, launch0.admits_env _ _ _, launch0.least_env, fairChoices_fair.cas, fairChoices_fair.clock, w_frames, w_args, w_heap, w_applies, trivial, trivial, w_case⟩
end start1
theorem witness_1 : WitnessClaimed_1 := ⟨start1.p0, start1.e0, start1.about1, start1.theMethod, start1.args0, start1.below0, start1.atStart⟩
end Jvm.Pilot.@@N@@
