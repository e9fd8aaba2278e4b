import JvmDerived
import JvmDerived.Pilot.@@N@@Statement
import JvmDerived.Pilot.@@N@@Code
set_option linter.unusedVariables false
set_option linter.unusedSimpArgs false
namespace Jvm.OwnRun
open Sem ClassFile Op Lib Jvm.Stand Jvm.Free Jvm.LawKit Jvm.RoadKit
/-- from T with the top frame g the method's run ends as Φ says -/
def Run (tb : Tables) (e : Env) (below : List Frame) (Φ : Outcome → State → Prop) (T : State) (g : JFrame) : Prop := ∃ s₂ o, Steps tb e below (T.setTop g) s₂ ∧ s₂.status = .running ∧ Ended s₂ below o ∧ Φ o s₂
/-- what a contract asks of the end -/
def FinR (s : State) (K N : Nat) (Q : Option Value → Heap → List Loc → Prop) : Outcome → State → Prop := fun o u => ∃ v L, o = .returned v ∧ Q v u.heap L ∧ FrameEnd s o u L K N
/-- a contract's word on its end, kept in one piece -/
abbrev Say (Q : Option Value → Heap → List Loc → Prop) (v : Option Value) (h : Heap) (L : List Loc) : Prop := Q v h L
section Steps
variable {p : Program} {l : Launch} {e : Env} {R : Room} {s : State} {m : MethodId} {args : Array Value} {below : List Frame} {meth : Method} {c : Code} {T : State} {locs : List Loc} {cells slots : Nat} {Φ : Outcome → State → Prop} {pc pc' : Nat} {Ls : Array Slot} {rest : List Value}
theorem Run.back {tb : Tables} {T' : State} {g g' : JFrame} (h : ∀ t, Steps tb e below (T'.setTop g') t → Steps tb e below (T.setTop g) t) (k : Run tb e below Φ T' g') : Run tb e below Φ T g := by
  obtain ⟨s₂, o, h1, h2⟩ := k
  exact ⟨s₂, o, h _ h1, h2⟩
theorem Run.fwd {tb : Tables} {T' : State} {g g' : JFrame} (h : Steps tb e below (T.setTop g) (T'.setTop g')) (k : Run tb e below Φ T' g') : Run tb e below Φ T g := k.back fun _ kt => h.trans kt
theorem Run.iload (X : Stand p l e R s m args below meth c T locs cells slots) (hx : p.tables.exec = Jvm.exec) {k : Nat} {v : Int32} (hd : decode c.code pc = .ok (.iload k, 2)) (hl : Ls[k]? = some (.val (.int v))) (hp : pc + 2 = pc') (k : Run p.tables e below Φ T (mkF m pc' Ls (.int v :: rest))) : Run p.tables e below Φ T (mkF m pc Ls rest) := by
  subst hp
  exact k.back fun _ kt => XS.iload X.here hx rfl hd hl kt
theorem Run.iloadN (X : Stand p l e R s m args below meth c T locs cells slots) (hx : p.tables.exec = Jvm.exec) {k : Fin 4} {v : Int32} (hd : decode c.code pc = .ok (.iload_n k, 1)) (hl : Ls[k.val]? = some (.val (.int v))) (hp : pc + 1 = pc') (k : Run p.tables e below Φ T (mkF m pc' Ls (.int v :: rest))) : Run p.tables e below Φ T (mkF m pc Ls rest) := by
  subst hp
  exact k.back fun _ kt => XS.iloadN X.here hx rfl hd hl kt
theorem Run.istore (X : Stand p l e R s m args below meth c T locs cells slots) (hx : p.tables.exec = Jvm.exec) {k : Nat} {v : Int32} {l' : Array Slot} (hd : decode c.code pc = .ok (.istore k, 2)) (hl : storeLocals Ls k (.int v) = some l') (hp : pc + 2 = pc') (k : Run p.tables e below Φ T (mkF m pc' l' rest)) : Run p.tables e below Φ T (mkF m pc Ls (.int v :: rest)) := by
  subst hp
  exact k.back fun _ kt => XS.istore X.here hx rfl hd rfl hl kt
theorem Run.istoreN (X : Stand p l e R s m args below meth c T locs cells slots) (hx : p.tables.exec = Jvm.exec) {k : Fin 4} {v : Int32} {l' : Array Slot} (hd : decode c.code pc = .ok (.istore_n k, 1)) (hl : storeLocals Ls k.val (.int v) = some l') (hp : pc + 1 = pc') (k : Run p.tables e below Φ T (mkF m pc' l' rest)) : Run p.tables e below Φ T (mkF m pc Ls (.int v :: rest)) := by
  subst hp
  exact k.back fun _ kt => XS.istoreN X.here hx rfl hd rfl hl kt
theorem Run.lload (X : Stand p l e R s m args below meth c T locs cells slots) (hx : p.tables.exec = Jvm.exec) {k : Nat} {v : Int64} (hd : decode c.code pc = .ok (.lload k, 2)) (hl : Ls[k]? = some (.val (.long v))) (hp : pc + 2 = pc') (k : Run p.tables e below Φ T (mkF m pc' Ls (.long v :: rest))) : Run p.tables e below Φ T (mkF m pc Ls rest) := by
  subst hp
  exact k.back fun _ kt => XS.lload X.here hx rfl hd hl kt
theorem Run.lloadN (X : Stand p l e R s m args below meth c T locs cells slots) (hx : p.tables.exec = Jvm.exec) {k : Fin 4} {v : Int64} (hd : decode c.code pc = .ok (.lload_n k, 1)) (hl : Ls[k.val]? = some (.val (.long v))) (hp : pc + 1 = pc') (k : Run p.tables e below Φ T (mkF m pc' Ls (.long v :: rest))) : Run p.tables e below Φ T (mkF m pc Ls rest) := by
  subst hp
  exact k.back fun _ kt => XS.lloadN X.here hx rfl hd hl kt
theorem Run.lstore (X : Stand p l e R s m args below meth c T locs cells slots) (hx : p.tables.exec = Jvm.exec) {k : Nat} {v : Int64} {l' : Array Slot} (hd : decode c.code pc = .ok (.lstore k, 2)) (hl : storeLocals Ls k (.long v) = some l') (hp : pc + 2 = pc') (k : Run p.tables e below Φ T (mkF m pc' l' rest)) : Run p.tables e below Φ T (mkF m pc Ls (.long v :: rest)) := by
  subst hp
  exact k.back fun _ kt => XS.lstore X.here hx rfl hd rfl hl kt
theorem Run.lstoreN (X : Stand p l e R s m args below meth c T locs cells slots) (hx : p.tables.exec = Jvm.exec) {k : Fin 4} {v : Int64} {l' : Array Slot} (hd : decode c.code pc = .ok (.lstore_n k, 1)) (hl : storeLocals Ls k.val (.long v) = some l') (hp : pc + 1 = pc') (k : Run p.tables e below Φ T (mkF m pc' l' rest)) : Run p.tables e below Φ T (mkF m pc Ls (.long v :: rest)) := by
  subst hp
  exact k.back fun _ kt => XS.lstoreN X.here hx rfl hd rfl hl kt
theorem Run.aload (X : Stand p l e R s m args below meth c T locs cells slots) (hx : p.tables.exec = Jvm.exec) {k : Nat} {v : Addr} (hd : decode c.code pc = .ok (.aload k, 2)) (hl : Ls[k]? = some (.val (.ref v))) (hp : pc + 2 = pc') (k : Run p.tables e below Φ T (mkF m pc' Ls (.ref v :: rest))) : Run p.tables e below Φ T (mkF m pc Ls rest) := by
  subst hp
  exact k.back fun _ kt => XS.aload X.here hx rfl hd hl rfl kt
theorem Run.aloadN (X : Stand p l e R s m args below meth c T locs cells slots) (hx : p.tables.exec = Jvm.exec) {k : Fin 4} {v : Addr} (hd : decode c.code pc = .ok (.aload_n k, 1)) (hl : Ls[k.val]? = some (.val (.ref v))) (hp : pc + 1 = pc') (k : Run p.tables e below Φ T (mkF m pc' Ls (.ref v :: rest))) : Run p.tables e below Φ T (mkF m pc Ls rest) := by
  subst hp
  exact k.back fun _ kt => XS.aloadN X.here hx rfl hd hl rfl kt
theorem Run.astore (X : Stand p l e R s m args below meth c T locs cells slots) (hx : p.tables.exec = Jvm.exec) {k : Nat} {v : Addr} {l' : Array Slot} (hd : decode c.code pc = .ok (.astore k, 2)) (hl : storeLocals Ls k (.ref v) = some l') (hp : pc + 2 = pc') (k : Run p.tables e below Φ T (mkF m pc' l' rest)) : Run p.tables e below Φ T (mkF m pc Ls (.ref v :: rest)) := by
  subst hp
  exact k.back fun _ kt => XS.astore X.here hx rfl hd rfl rfl hl kt
theorem Run.astoreN (X : Stand p l e R s m args below meth c T locs cells slots) (hx : p.tables.exec = Jvm.exec) {k : Fin 4} {v : Addr} {l' : Array Slot} (hd : decode c.code pc = .ok (.astore_n k, 1)) (hl : storeLocals Ls k.val (.ref v) = some l') (hp : pc + 1 = pc') (k : Run p.tables e below Φ T (mkF m pc' l' rest)) : Run p.tables e below Φ T (mkF m pc Ls (.ref v :: rest)) := by
  subst hp
  exact k.back fun _ kt => XS.astoreN X.here hx rfl hd rfl rfl hl kt
theorem Run.iconst (X : Stand p l e R s m args below meth c T locs cells slots) (hx : p.tables.exec = Jvm.exec) {i : Int} {v : Int32} (hd : decode c.code pc = .ok (.iconst i, 1)) (hv : Int32.ofInt i = v) (hp : pc + 1 = pc') (k : Run p.tables e below Φ T (mkF m pc' Ls (.int v :: rest))) : Run p.tables e below Φ T (mkF m pc Ls rest) := by
  subst hp
  exact k.back fun _ kt => XS.iconst X.here hx rfl hd (by rw [hv]; exact kt)
theorem Run.bipush (X : Stand p l e R s m args below meth c T locs cells slots) (hx : p.tables.exec = Jvm.exec) {i : Int} {v : Int32} (hd : decode c.code pc = .ok (.bipush i, 2)) (hv : (Int8.ofInt i).toInt32 = v) (hp : pc + 2 = pc') (k : Run p.tables e below Φ T (mkF m pc' Ls (.int v :: rest))) : Run p.tables e below Φ T (mkF m pc Ls rest) := by
  subst hp
  exact k.back fun _ kt => XS.bipush X.here hx rfl hd (by rw [hv]; exact kt)
theorem Run.sipush (X : Stand p l e R s m args below meth c T locs cells slots) (hx : p.tables.exec = Jvm.exec) {i : Int} {v : Int32} (hd : decode c.code pc = .ok (.sipush i, 3)) (hv : (Int16.ofInt i).toInt32 = v) (hp : pc + 3 = pc') (k : Run p.tables e below Φ T (mkF m pc' Ls (.int v :: rest))) : Run p.tables e below Φ T (mkF m pc Ls rest) := by
  subst hp
  exact k.back fun _ kt => XS.sipush X.here hx rfl hd (by rw [hv]; exact kt)
theorem Run.lconst (X : Stand p l e R s m args below meth c T locs cells slots) (hx : p.tables.exec = Jvm.exec) {i : Fin 2} {v : Int64} (hd : decode c.code pc = .ok (.lconst i, 1)) (hv : Int64.ofNat i = v) (hp : pc + 1 = pc') (k : Run p.tables e below Φ T (mkF m pc' Ls (.long v :: rest))) : Run p.tables e below Φ T (mkF m pc Ls rest) := by
  subst hp
  exact k.back fun _ kt => XS.lconst X.here hx rfl hd (by first | (rw [hv]; exact kt) | (rw [← hv] at kt; exact kt))
theorem Run.aconstNull (X : Stand p l e R s m args below meth c T locs cells slots) (hx : p.tables.exec = Jvm.exec) (hd : decode c.code pc = .ok (.aconst_null, 1)) (hp : pc + 1 = pc') (k : Run p.tables e below Φ T (mkF m pc' Ls (.null :: rest))) : Run p.tables e below Φ T (mkF m pc Ls rest) := by
  subst hp
  exact k.back fun _ kt => XS.aconstNull X.here hx rfl hd kt
theorem Run.iadd (X : Stand p l e R s m args below meth c T locs cells slots) (hx : p.tables.exec = Jvm.exec) {x y : Int32} (hd : decode c.code pc = .ok (.iadd, 1)) (hp : pc + 1 = pc') (k : Run p.tables e below Φ T (mkF m pc' Ls (.int (x + y) :: rest))) : Run p.tables e below Φ T (mkF m pc Ls (.int y :: .int x :: rest)) := by
  subst hp
  exact k.back fun _ kt => XS.iadd X.here hx rfl hd rfl kt
theorem Run.isub (X : Stand p l e R s m args below meth c T locs cells slots) (hx : p.tables.exec = Jvm.exec) {x y : Int32} (hd : decode c.code pc = .ok (.isub, 1)) (hp : pc + 1 = pc') (k : Run p.tables e below Φ T (mkF m pc' Ls (.int (x - y) :: rest))) : Run p.tables e below Φ T (mkF m pc Ls (.int y :: .int x :: rest)) := by
  subst hp
  exact k.back fun _ kt => XS.isub X.here hx rfl hd rfl kt
theorem Run.imul (X : Stand p l e R s m args below meth c T locs cells slots) (hx : p.tables.exec = Jvm.exec) {x y : Int32} (hd : decode c.code pc = .ok (.imul, 1)) (hp : pc + 1 = pc') (k : Run p.tables e below Φ T (mkF m pc' Ls (.int (x * y) :: rest))) : Run p.tables e below Φ T (mkF m pc Ls (.int y :: .int x :: rest)) := by
  subst hp
  exact k.back fun _ kt => XS.imul X.here hx rfl hd rfl kt
theorem Run.iand (X : Stand p l e R s m args below meth c T locs cells slots) (hx : p.tables.exec = Jvm.exec) {x y : Int32} (hd : decode c.code pc = .ok (.iand, 1)) (hp : pc + 1 = pc') (k : Run p.tables e below Φ T (mkF m pc' Ls (.int (x &&& y) :: rest))) : Run p.tables e below Φ T (mkF m pc Ls (.int y :: .int x :: rest)) := by
  subst hp
  exact k.back fun _ kt => XS.iand X.here hx rfl hd rfl kt
theorem Run.ior (X : Stand p l e R s m args below meth c T locs cells slots) (hx : p.tables.exec = Jvm.exec) {x y : Int32} (hd : decode c.code pc = .ok (.ior, 1)) (hp : pc + 1 = pc') (k : Run p.tables e below Φ T (mkF m pc' Ls (.int (x ||| y) :: rest))) : Run p.tables e below Φ T (mkF m pc Ls (.int y :: .int x :: rest)) := by
  subst hp
  exact k.back fun _ kt => XS.ior X.here hx rfl hd rfl kt
theorem Run.ixor (X : Stand p l e R s m args below meth c T locs cells slots) (hx : p.tables.exec = Jvm.exec) {x y : Int32} (hd : decode c.code pc = .ok (.ixor, 1)) (hp : pc + 1 = pc') (k : Run p.tables e below Φ T (mkF m pc' Ls (.int (x ^^^ y) :: rest))) : Run p.tables e below Φ T (mkF m pc Ls (.int y :: .int x :: rest)) := by
  subst hp
  exact k.back fun _ kt => XS.ixor X.here hx rfl hd rfl kt
theorem Run.idiv (X : Stand p l e R s m args below meth c T locs cells slots) (hx : p.tables.exec = Jvm.exec) {x y : Int32} (hd : decode c.code pc = .ok (.idiv, 1)) (hy : y ≠ 0) (hp : pc + 1 = pc') (k : Run p.tables e below Φ T (mkF m pc' Ls (.int (x / y) :: rest))) : Run p.tables e below Φ T (mkF m pc Ls (.int y :: .int x :: rest)) := by
  subst hp
  exact k.back fun _ kt => XS.idiv X.here hx rfl hd rfl hy kt
theorem Run.ladd (X : Stand p l e R s m args below meth c T locs cells slots) (hx : p.tables.exec = Jvm.exec) {x y : Int64} (hd : decode c.code pc = .ok (.ladd, 1)) (hp : pc + 1 = pc') (k : Run p.tables e below Φ T (mkF m pc' Ls (.long (x + y) :: rest))) : Run p.tables e below Φ T (mkF m pc Ls (.long y :: .long x :: rest)) := by
  subst hp
  exact k.back fun _ kt => XS.ladd X.here hx rfl hd rfl kt
theorem Run.lsub (X : Stand p l e R s m args below meth c T locs cells slots) (hx : p.tables.exec = Jvm.exec) {x y : Int64} (hd : decode c.code pc = .ok (.lsub, 1)) (hp : pc + 1 = pc') (k : Run p.tables e below Φ T (mkF m pc' Ls (.long (x - y) :: rest))) : Run p.tables e below Φ T (mkF m pc Ls (.long y :: .long x :: rest)) := by
  subst hp
  exact k.back fun _ kt => XS.lsub X.here hx rfl hd rfl kt
theorem Run.lmul (X : Stand p l e R s m args below meth c T locs cells slots) (hx : p.tables.exec = Jvm.exec) {x y : Int64} (hd : decode c.code pc = .ok (.lmul, 1)) (hp : pc + 1 = pc') (k : Run p.tables e below Φ T (mkF m pc' Ls (.long (x * y) :: rest))) : Run p.tables e below Φ T (mkF m pc Ls (.long y :: .long x :: rest)) := by
  subst hp
  exact k.back fun _ kt => XS.lmul X.here hx rfl hd rfl kt
theorem Run.land (X : Stand p l e R s m args below meth c T locs cells slots) (hx : p.tables.exec = Jvm.exec) {x y : Int64} (hd : decode c.code pc = .ok (.land, 1)) (hp : pc + 1 = pc') (k : Run p.tables e below Φ T (mkF m pc' Ls (.long (x &&& y) :: rest))) : Run p.tables e below Φ T (mkF m pc Ls (.long y :: .long x :: rest)) := by
  subst hp
  exact k.back fun _ kt => XS.land X.here hx rfl hd rfl kt
theorem Run.lor (X : Stand p l e R s m args below meth c T locs cells slots) (hx : p.tables.exec = Jvm.exec) {x y : Int64} (hd : decode c.code pc = .ok (.lor, 1)) (hp : pc + 1 = pc') (k : Run p.tables e below Φ T (mkF m pc' Ls (.long (x ||| y) :: rest))) : Run p.tables e below Φ T (mkF m pc Ls (.long y :: .long x :: rest)) := by
  subst hp
  exact k.back fun _ kt => XS.lor X.here hx rfl hd rfl kt
theorem Run.lxor (X : Stand p l e R s m args below meth c T locs cells slots) (hx : p.tables.exec = Jvm.exec) {x y : Int64} (hd : decode c.code pc = .ok (.lxor, 1)) (hp : pc + 1 = pc') (k : Run p.tables e below Φ T (mkF m pc' Ls (.long (x ^^^ y) :: rest))) : Run p.tables e below Φ T (mkF m pc Ls (.long y :: .long x :: rest)) := by
  subst hp
  exact k.back fun _ kt => XS.lxor X.here hx rfl hd rfl kt
theorem Run.ldiv (X : Stand p l e R s m args below meth c T locs cells slots) (hx : p.tables.exec = Jvm.exec) {x y : Int64} (hd : decode c.code pc = .ok (.ldiv, 1)) (hy : y ≠ 0) (hp : pc + 1 = pc') (k : Run p.tables e below Φ T (mkF m pc' Ls (.long (x / y) :: rest))) : Run p.tables e below Φ T (mkF m pc Ls (.long y :: .long x :: rest)) := by
  subst hp
  exact k.back fun _ kt => XS.ldiv X.here hx rfl hd rfl hy kt
theorem Run.irem (X : Stand p l e R s m args below meth c T locs cells slots) (hx : p.tables.exec = Jvm.exec) {x y : Int32} (hd : decode c.code pc = .ok (.irem, 1)) (hy : y ≠ 0) (hp : pc + 1 = pc') (k : Run p.tables e below Φ T (mkF m pc' Ls (.int (x % y) :: rest))) : Run p.tables e below Φ T (mkF m pc Ls (.int y :: .int x :: rest)) := by
  subst hp
  exact k.back fun _ kt => iremM X hx rfl hd rfl hy kt
theorem Run.ishl (X : Stand p l e R s m args below meth c T locs cells slots) (hx : p.tables.exec = Jvm.exec) {x : Int32} {y : Int32} (hd : decode c.code pc = .ok (.ishl, 1)) (hp : pc + 1 = pc') (k : Run p.tables e below Φ T (mkF m pc' Ls (.int (x <<< (y &&& 31)) :: rest))) : Run p.tables e below Φ T (mkF m pc Ls (.int y :: .int x :: rest)) := by
  subst hp
  exact k.back fun _ kt => XS.ishl X.here hx rfl hd rfl kt
theorem Run.ishr (X : Stand p l e R s m args below meth c T locs cells slots) (hx : p.tables.exec = Jvm.exec) {x : Int32} {y : Int32} (hd : decode c.code pc = .ok (.ishr, 1)) (hp : pc + 1 = pc') (k : Run p.tables e below Φ T (mkF m pc' Ls (.int (x >>> (y &&& 31)) :: rest))) : Run p.tables e below Φ T (mkF m pc Ls (.int y :: .int x :: rest)) := by
  subst hp
  exact k.back fun _ kt => XS.ishr X.here hx rfl hd rfl kt
theorem Run.iushr (X : Stand p l e R s m args below meth c T locs cells slots) (hx : p.tables.exec = Jvm.exec) {x : Int32} {y : Int32} (hd : decode c.code pc = .ok (.iushr, 1)) (hp : pc + 1 = pc') (k : Run p.tables e below Φ T (mkF m pc' Ls (.int ((x.toUInt32 >>> (y &&& 31).toUInt32).toInt32) :: rest))) : Run p.tables e below Φ T (mkF m pc Ls (.int y :: .int x :: rest)) := by
  subst hp
  exact k.back fun _ kt => XS.iushr X.here hx rfl hd rfl kt
theorem Run.lshl (X : Stand p l e R s m args below meth c T locs cells slots) (hx : p.tables.exec = Jvm.exec) {x : Int64} {y : Int32} (hd : decode c.code pc = .ok (.lshl, 1)) (hp : pc + 1 = pc') (k : Run p.tables e below Φ T (mkF m pc' Ls (.long (x <<< (y &&& 0x3f).toInt64) :: rest))) : Run p.tables e below Φ T (mkF m pc Ls (.int y :: .long x :: rest)) := by
  subst hp
  exact k.back fun _ kt => XS.lshl X.here hx rfl hd rfl kt
theorem Run.lshr (X : Stand p l e R s m args below meth c T locs cells slots) (hx : p.tables.exec = Jvm.exec) {x : Int64} {y : Int32} (hd : decode c.code pc = .ok (.lshr, 1)) (hp : pc + 1 = pc') (k : Run p.tables e below Φ T (mkF m pc' Ls (.long (x >>> (y &&& 0x3f).toInt64) :: rest))) : Run p.tables e below Φ T (mkF m pc Ls (.int y :: .long x :: rest)) := by
  subst hp
  exact k.back fun _ kt => XS.lshr X.here hx rfl hd rfl kt
theorem Run.lushr (X : Stand p l e R s m args below meth c T locs cells slots) (hx : p.tables.exec = Jvm.exec) {x : Int64} {y : Int32} (hd : decode c.code pc = .ok (.lushr, 1)) (hp : pc + 1 = pc') (k : Run p.tables e below Φ T (mkF m pc' Ls (.long ((x.toUInt64 >>> (y &&& 0x3f).toInt64.toUInt64).toInt64) :: rest))) : Run p.tables e below Φ T (mkF m pc Ls (.int y :: .long x :: rest)) := by
  subst hp
  exact k.back fun _ kt => XS.lushr X.here hx rfl hd rfl kt
theorem Run.i2l (X : Stand p l e R s m args below meth c T locs cells slots) (hx : p.tables.exec = Jvm.exec) {x : Int32} (hd : decode c.code pc = .ok (.i2l, 1)) (hp : pc + 1 = pc') (k : Run p.tables e below Φ T (mkF m pc' Ls (.long (x.toInt64) :: rest))) : Run p.tables e below Φ T (mkF m pc Ls (.int x :: rest)) := by
  subst hp
  exact k.back fun _ kt => XS.i2l X.here hx rfl hd rfl kt
theorem Run.l2i (X : Stand p l e R s m args below meth c T locs cells slots) (hx : p.tables.exec = Jvm.exec) {x : Int64} (hd : decode c.code pc = .ok (.l2i, 1)) (hp : pc + 1 = pc') (k : Run p.tables e below Φ T (mkF m pc' Ls (.int (x.toInt32) :: rest))) : Run p.tables e below Φ T (mkF m pc Ls (.long x :: rest)) := by
  subst hp
  exact k.back fun _ kt => XS.l2i X.here hx rfl hd rfl kt
theorem Run.i2b (X : Stand p l e R s m args below meth c T locs cells slots) (hx : p.tables.exec = Jvm.exec) {x : Int32} (hd : decode c.code pc = .ok (.i2b, 1)) (hp : pc + 1 = pc') (k : Run p.tables e below Φ T (mkF m pc' Ls (.int (x.toInt8.toInt32) :: rest))) : Run p.tables e below Φ T (mkF m pc Ls (.int x :: rest)) := by
  subst hp
  exact k.back fun _ kt => XS.i2b X.here hx rfl hd rfl kt
theorem Run.i2s (X : Stand p l e R s m args below meth c T locs cells slots) (hx : p.tables.exec = Jvm.exec) {x : Int32} (hd : decode c.code pc = .ok (.i2s, 1)) (hp : pc + 1 = pc') (k : Run p.tables e below Φ T (mkF m pc' Ls (.int (x.toInt16.toInt32) :: rest))) : Run p.tables e below Φ T (mkF m pc Ls (.int x :: rest)) := by
  subst hp
  exact k.back fun _ kt => XS.i2s X.here hx rfl hd rfl kt
theorem Run.i2c (X : Stand p l e R s m args below meth c T locs cells slots) (hx : p.tables.exec = Jvm.exec) {x : Int32} (hd : decode c.code pc = .ok (.i2c, 1)) (hp : pc + 1 = pc') (k : Run p.tables e below Φ T (mkF m pc' Ls (.int (x.toUInt32.toUInt16.toUInt32.toInt32) :: rest))) : Run p.tables e below Φ T (mkF m pc Ls (.int x :: rest)) := by
  subst hp
  exact k.back fun _ kt => XS.i2c X.here hx rfl hd rfl kt
theorem Run.ineg (X : Stand p l e R s m args below meth c T locs cells slots) (hx : p.tables.exec = Jvm.exec) {x : Int32} (hd : decode c.code pc = .ok (.ineg, 1)) (hp : pc + 1 = pc') (k : Run p.tables e below Φ T (mkF m pc' Ls (.int (-x) :: rest))) : Run p.tables e below Φ T (mkF m pc Ls (.int x :: rest)) := by
  subst hp
  exact k.back fun _ kt => XS.ineg X.here hx rfl hd rfl kt
theorem Run.lcmp (X : Stand p l e R s m args below meth c T locs cells slots) (hx : p.tables.exec = Jvm.exec) {x y : Int64} (hd : decode c.code pc = .ok (.lcmp, 1)) (hp : pc + 1 = pc') (k : Run p.tables e below Φ T (mkF m pc' Ls (.int (lcmpW x y) :: rest))) : Run p.tables e below Φ T (mkF m pc Ls (.long y :: .long x :: rest)) := by
  subst hp
  exact k.back fun _ kt => XS.lcmp X.here hx rfl hd rfl kt
theorem Run.dup (X : Stand p l e R s m args below meth c T locs cells slots) (hx : p.tables.exec = Jvm.exec) {x : Value} (hd : decode c.code pc = .ok (.dup, 1)) (hc : x.category = 1) (hp : pc + 1 = pc') (k : Run p.tables e below Φ T (mkF m pc' Ls (x :: x :: rest))) : Run p.tables e below Φ T (mkF m pc Ls (x :: rest)) := by
  subst hp
  exact k.back fun _ kt => XS.dup X.here hx rfl hd rfl hc kt
theorem Run.dupX1 (X : Stand p l e R s m args below meth c T locs cells slots) (hx : p.tables.exec = Jvm.exec) {x y : Value} (hd : decode c.code pc = .ok (.dup_x1, 1)) (hc : x.category = 1) (hc2 : y.category = 1) (hp : pc + 1 = pc') (k : Run p.tables e below Φ T (mkF m pc' Ls (x :: y :: x :: rest))) : Run p.tables e below Φ T (mkF m pc Ls (x :: y :: rest)) := by
  subst hp
  exact k.back fun _ kt => XS.dupX1 X.here hx rfl hd rfl hc hc2 kt
theorem Run.pop (X : Stand p l e R s m args below meth c T locs cells slots) (hx : p.tables.exec = Jvm.exec) {x : Value} (hd : decode c.code pc = .ok (.pop, 1)) (hc : x.category = 1) (hp : pc + 1 = pc') (k : Run p.tables e below Φ T (mkF m pc' Ls rest)) : Run p.tables e below Φ T (mkF m pc Ls (x :: rest)) := by
  subst hp
  exact k.back fun _ kt => XS.pop X.here hx rfl hd rfl hc kt
theorem Run.iinc (X : Stand p l e R s m args below meth c T locs cells slots) (hx : p.tables.exec = Jvm.exec) {n : Nat} {i : Int} {v w : Int32} {l' : Array Slot} (hd : decode c.code pc = .ok (.iinc n i, 3)) (hl : Ls[n]? = some (.val (.int v))) (hv : Int32.ofInt i = w) (hl' : storeLocals Ls n (.int (v + w)) = some l') (hp : pc + 3 = pc') (k : Run p.tables e below Φ T (mkF m pc' l' rest)) : Run p.tables e below Φ T (mkF m pc Ls rest) := by
  subst hp
  exact k.back fun _ kt => XS.iinc X.here hx rfl hd hl (by rw [hv]; exact hl') kt
theorem Run.goto (X : Stand p l e R s m args below meth c T locs cells slots) (hx : p.tables.exec = Jvm.exec) {o : Int} (hd : decode c.code pc = .ok (.goto o, 3)) (ho : 0 ≤ (pc : Int) + o) (hp : ((pc : Int) + o).toNat = pc') (k : Run p.tables e below Φ T (mkF m pc' Ls rest)) : Run p.tables e below Φ T (mkF m pc Ls rest) := k.back fun _ kt => XS.goto X.here hx rfl rfl hd ho hp kt
theorem Run.ifYes (X : Stand p l e R s m args below meth c T locs cells slots) (hx : p.tables.exec = Jvm.exec) {cd : ClassFile.Cond} {o : Int} {x : Int32} (hd : decode c.code pc = .ok (.ifCond cd o, 3)) (hc : ifCond.holds cd x = true) (ho : 0 ≤ (pc : Int) + o) (hp : ((pc : Int) + o).toNat = pc') (k : Run p.tables e below Φ T (mkF m pc' Ls rest)) : Run p.tables e below Φ T (mkF m pc Ls (.int x :: rest)) := k.back fun _ kt => XS.ifYes X.here hx rfl rfl hd rfl hc ho hp kt
theorem Run.ifNo (X : Stand p l e R s m args below meth c T locs cells slots) (hx : p.tables.exec = Jvm.exec) {cd : ClassFile.Cond} {o : Int} {x : Int32} (hd : decode c.code pc = .ok (.ifCond cd o, 3)) (hc : ifCond.holds cd x = false) (hp : pc + 3 = pc') (k : Run p.tables e below Φ T (mkF m pc' Ls rest)) : Run p.tables e below Φ T (mkF m pc Ls (.int x :: rest)) := by
  subst hp
  exact k.back fun _ kt => XS.ifNo X.here hx rfl hd rfl hc kt
theorem Run.icmpYes (X : Stand p l e R s m args below meth c T locs cells slots) (hx : p.tables.exec = Jvm.exec) {cd : ClassFile.Cond} {o : Int} {x y : Int32} (hd : decode c.code pc = .ok (.if_icmp cd o, 3)) (hc : if_icmp.holds cd x y = true) (ho : 0 ≤ (pc : Int) + o) (hp : ((pc : Int) + o).toNat = pc') (k : Run p.tables e below Φ T (mkF m pc' Ls rest)) : Run p.tables e below Φ T (mkF m pc Ls (.int y :: .int x :: rest)) := k.back fun _ kt => XS.icmpYes X.here hx rfl rfl hd rfl hc ho hp kt
theorem Run.icmpNo (X : Stand p l e R s m args below meth c T locs cells slots) (hx : p.tables.exec = Jvm.exec) {cd : ClassFile.Cond} {o : Int} {x y : Int32} (hd : decode c.code pc = .ok (.if_icmp cd o, 3)) (hc : if_icmp.holds cd x y = false) (hp : pc + 3 = pc') (k : Run p.tables e below Φ T (mkF m pc' Ls rest)) : Run p.tables e below Φ T (mkF m pc Ls (.int y :: .int x :: rest)) := by
  subst hp
  exact k.back fun _ kt => XS.icmpNo X.here hx rfl hd rfl hc kt
theorem Run.acmpYes (X : Stand p l e R s m args below meth c T locs cells slots) (hx : p.tables.exec = Jvm.exec) {cd : ACond} {o : Int} {a b : Addr} (hd : decode c.code pc = .ok (.if_acmp cd o, 3)) (hc : if_acmp.holds cd (some a) (some b) = true) (ho : 0 ≤ (pc : Int) + o) (hp : ((pc : Int) + o).toNat = pc') (k : Run p.tables e below Φ T (mkF m pc' Ls rest)) : Run p.tables e below Φ T (mkF m pc Ls (.ref b :: .ref a :: rest)) := k.back fun _ kt => XS.acmpYes X.here hx rfl rfl hd rfl hc ho hp kt
theorem Run.acmpNo (X : Stand p l e R s m args below meth c T locs cells slots) (hx : p.tables.exec = Jvm.exec) {cd : ACond} {o : Int} {a b : Addr} (hd : decode c.code pc = .ok (.if_acmp cd o, 3)) (hc : if_acmp.holds cd (some a) (some b) = false) (hp : pc + 3 = pc') (k : Run p.tables e below Φ T (mkF m pc' Ls rest)) : Run p.tables e below Φ T (mkF m pc Ls (.ref b :: .ref a :: rest)) := by
  subst hp
  exact k.back fun _ kt => XS.acmpNo X.here hx rfl hd rfl hc kt
theorem own_acmpEqT {a b : Addr} (h : a = b) : if_acmp.holds .eq (some a) (some b) = true := by subst h; simp [if_acmp.holds]
theorem own_acmpEqF {a b : Addr} (h : ¬ a = b) : if_acmp.holds .eq (some a) (some b) = false := by simp [if_acmp.holds, h]
theorem own_acmpNeT {a b : Addr} (h : a = b) : if_acmp.holds .ne (some a) (some b) = false := by subst h; simp [if_acmp.holds]
theorem own_acmpNeF {a b : Addr} (h : ¬ a = b) : if_acmp.holds .ne (some a) (some b) = true := by simp [if_acmp.holds, h]
theorem Run.ldcInt (X : Stand p l e R s m args below meth c T locs cells slots) (hx : p.tables.exec = Jvm.exec) {own : String} {index : Nat} {v : Int32} (hown : s.vm.findClass own = some m.cls) (hconst : (Cond.constant own index v).before args s = true) (hd : decode c.code pc = .ok (.ldc index, 2)) (hp : pc + 2 = pc') (k : Run p.tables e below Φ T (mkF m pc' Ls (.int v :: rest))) : Run p.tables e below Φ T (mkF m pc Ls rest) := by
  subst hp
  exact k.back fun _ kt => X.ldcInt hx hown hconst (g := mkF m pc Ls rest) rfl hd _ kt
theorem Run.ldc2Long (X : Stand p l e R s m args below meth c T locs cells slots) (hx : p.tables.exec = Jvm.exec) {own : String} {index : Nat} {v : Int64} (hown : s.vm.findClass own = some m.cls) (hconst : (Cond.constantLong own index v).before args s = true) (hd : decode c.code pc = .ok (.ldc2_w index, 3)) (hp : pc + 3 = pc') (k : Run p.tables e below Φ T (mkF m pc' Ls (.long v :: rest))) : Run p.tables e below Φ T (mkF m pc Ls rest) := by
  subst hp
  exact k.back fun _ kt => X.ldc2Long hx hown hconst (g := mkF m pc Ls rest) rfl hd _ kt
theorem Run.switchHit (X : Stand p l e R s m args below meth c T locs cells slots) (hx : p.tables.exec = Jvm.exec) {default : Int} {pairs : Array (Int × Int)} {len : Nat} {a off : Int} {z : Int32} (hd : decode c.code pc = .ok (.lookupswitch default pairs, len)) (hs : (pairs.toList.zip (pairs.toList.drop 1)).all (fun (a, next) => a.1 < next.1) = true) (hf : pairs.find? (·.1 == z.toInt) = some (a, off)) (ho : 0 ≤ (pc : Int) + off) (hp : ((pc : Int) + off).toNat = pc') (k : Run p.tables e below Φ T (mkF m pc' Ls rest)) : Run p.tables e below Φ T (mkF m pc Ls (.int z :: rest)) := by
  subst hp
  exact k.back fun _ kt => X.lookupswitchHit hx (g := mkF m pc Ls (.int z :: rest)) rfl rfl hd hs hf ho _ kt
theorem Run.switchMiss (X : Stand p l e R s m args below meth c T locs cells slots) (hx : p.tables.exec = Jvm.exec) {default : Int} {pairs : Array (Int × Int)} {len : Nat} {z : Int32} (hd : decode c.code pc = .ok (.lookupswitch default pairs, len)) (hs : (pairs.toList.zip (pairs.toList.drop 1)).all (fun (a, next) => a.1 < next.1) = true) (hf : pairs.find? (·.1 == z.toInt) = none) (ho : 0 ≤ (pc : Int) + default) (hp : ((pc : Int) + default).toNat = pc') (k : Run p.tables e below Φ T (mkF m pc' Ls rest)) : Run p.tables e below Φ T (mkF m pc Ls (.int z :: rest)) := by
  subst hp
  exact k.back fun _ kt => X.lookupswitchMiss hx (g := mkF m pc Ls (.int z :: rest)) rfl rfl hd hs hf ho _ kt
/-- a body that writes nothing returns r -/
abbrev QPure (n0 : Nat) (h0 : Heap) (r : Value) : Option Value → Heap → List Loc → Prop := fun v h L => v = some r ∧ Fr n0 L ∧ h = h0
theorem Run.retInt (X : Stand p l e R s m args below meth c T locs cells slots) (hx : p.tables.exec = Jvm.exec) {K N : Nat} {Q : Option Value → Heap → List Loc → Prop} {z : Int32} (hlk : meth.locks = false) (hret : meth.sig.returnType = some .int) (hd : decode c.code pc = .ok (.ireturn, 1)) (hQ : Q (some (.int z)) T.heap locs) (hc : cells ≤ K) (hn : slots ≤ N) : Run p.tables e below (FinR s K N Q) T (mkF m pc Ls (.int z :: rest)) := by
  obtain ⟨fs, hr, hrun, hended, hW, hsame⟩ := X.leave (v := (some (.int z))) (fun h => by rw [hret] at h; cases h) hlk
  exact ⟨_, _, retOut X hx hret rfl (Or.inl ⟨rfl, Or.inl rfl, z, rfl⟩) hd hr, hrun, hended, _, _, rfl, hQ, ⟨_, rfl⟩, hW, hsame.mono hc hn⟩
theorem Run.retLong (X : Stand p l e R s m args below meth c T locs cells slots) (hx : p.tables.exec = Jvm.exec) {K N : Nat} {Q : Option Value → Heap → List Loc → Prop} {z : Int64} (hlk : meth.locks = false) (hret : meth.sig.returnType = some .long) (hd : decode c.code pc = .ok (.lreturn, 1)) (hQ : Q (some (.long z)) T.heap locs) (hc : cells ≤ K) (hn : slots ≤ N) : Run p.tables e below (FinR s K N Q) T (mkF m pc Ls (.long z :: rest)) := by
  obtain ⟨fs, hr, hrun, hended, hW, hsame⟩ := X.leave (v := (some (.long z))) (fun h => by rw [hret] at h; cases h) hlk
  exact ⟨_, _, retOut X hx hret rfl (Or.inr (Or.inl ⟨rfl, rfl, z, rfl⟩)) hd hr, hrun, hended, _, _, rfl, hQ, ⟨_, rfl⟩, hW, hsame.mono hc hn⟩
theorem Run.retRef (X : Stand p l e R s m args below meth c T locs cells slots) (hx : p.tables.exec = Jvm.exec) {K N : Nat} {Q : Option Value → Heap → List Loc → Prop} {z : Addr} {t : FieldType} (hlk : meth.locks = false) (hret : meth.sig.returnType = some t) (ht : t.isReference = true) (hnr : narrow t (.ref z) = .ref z) (hd : decode c.code pc = .ok (.areturn, 1)) (hQ : Q (some (.ref z)) T.heap locs) (hc : cells ≤ K) (hn : slots ≤ N) : Run p.tables e below (FinR s K N Q) T (mkF m pc Ls (.ref z :: rest)) := by
  obtain ⟨fs, hr, hrun, hended, hW, hsame⟩ := X.leave (v := (some (.ref z))) (fun h => by rw [hret] at h; cases h) hlk
  exact ⟨_, _, retOut X hx hret hnr (Or.inr (Or.inr (Or.inr (Or.inr ⟨rfl, ht, rfl⟩)))) hd hr, hrun, hended, _, _, rfl, hQ, ⟨_, rfl⟩, hW, hsame.mono hc hn⟩
theorem Run.retSmall (X : Stand p l e R s m args below meth c T locs cells slots) (hx : p.tables.exec = Jvm.exec) {K N : Nat} {Q : Option Value → Heap → List Loc → Prop} {z z' : Int32} {t : FieldType} (hlk : meth.locks = false) (hret : meth.sig.returnType = some t) (ht : t = .boolean ∨ t = .byte ∨ t = .char ∨ t = .short) (hz : nar t z = z') (hd : decode c.code pc = .ok (.ireturn, 1)) (hQ : Q (some (.int z')) T.heap locs) (hc : cells ≤ K) (hn : slots ≤ N) : Run p.tables e below (FinR s K N Q) T (mkF m pc Ls (.int z :: rest)) := by
  obtain ⟨fs, hr, hrun, hended, hW, hsame⟩ := X.leave (v := (some (.int z'))) (fun h => by rw [hret] at h; cases h) hlk
  exact ⟨_, _, RoadKit.retN X hx hret ht hd (by rw [hz]; exact hr), hrun, hended, _, _, rfl, hQ, ⟨_, rfl⟩, hW, hsame.mono hc hn⟩
theorem Run.retVoid (X : Stand p l e R s m args below meth c T locs cells slots) (hx : p.tables.exec = Jvm.exec) {K N : Nat} {Q : Option Value → Heap → List Loc → Prop} (hlk : meth.locks = false) (hret : meth.sig.returnType = none) (hd : decode c.code pc = .ok (.return_, 1)) (hQ : Q none T.heap locs) (hc : cells ≤ K) (hn : slots ≤ N) : Run p.tables e below (FinR s K N Q) T (mkF m pc Ls []) := by
  obtain ⟨fs, hr, hrun, hended, hW, hsame⟩ := X.leave (v := none) (fun _ => rfl) hlk
  exact ⟨_, _, X.returnOut hx hret hd hr, hrun, hended, _, _, rfl, hQ, ⟨_, rfl⟩, hW, hsame.mono hc hn⟩
theorem callStatic (X : Stand p l e R s m args below meth c T locs cells slots) (hx : p.tables.exec = Jvm.exec) {a0 : Array Value} {Z : State} {h : Heap} {own : String} {index : Nat} {bytes : ByteArray} {maxL : Nat} {ret : Option FieldType} {rm : Room} {W : Nat} {Qc : Option Value → Heap → List Loc → Prop} {y : MethodName} {argsL : List Value} (hZ : Z.Warmed39 s.vm) (hown : s.vm.findClass own = some m.cls) (w1 : (Cond.methodLink own index y).before a0 Z = true) (w2 : (Cond.static y).before a0 Z = true) (w3 : (Cond.initialized y.cls).before a0 Z = true) (w4 : (Cond.code y bytes maxL ret).before a0 Z = true) (hy : y.cls ≠ "java/lang/invoke/MethodHandle" ∧ y.cls ≠ "java/lang/invoke/VarHandle") (eT : T.heap = h) (hM : MetFree l y (head1 [Cond.code y bytes maxL ret] rm) (fun av U => av = argsL.toArray ∧ Z.Warmed39 U.vm ∧ U.heap = h) (fun _ _ _ _ _ => True) (fun _ U o U' => ∃ v L, o = .returned v ∧ Qc v U'.heap L ∧ FrameEnd U o U' L rm.cells rm.slots)) (hd : decode c.code pc = .ok (.invokestatic index, 3)) (hlen : ∀ sig, parseMethodDescriptor y.desc = some sig → argsL.length = sig.parameters.length) (hf : rm.frames + 1 ≤ R.frames) (hl : W + (maxL + 11) + rm.locals ≤ R.locals) (hsize : Ls.size = c.maxLocals) (hW : (rest.map fun v => v.category).sum ≤ W) (hcs : cells + rm.cells ≤ R.cells) (hss : slots + rm.slots ≤ R.slots) :
    ∃ (T' : State) (L : List Loc) (v : Option Value), Stand p l e R s m args below meth c T' (locs ++ L) (cells + rm.cells) (slots + rm.slots) ∧ Qc v T'.heap L ∧ ∀ t, Steps p.tables e below (T'.setTop (mkF m (pc + 3) Ls (v.toList ++ rest))) t → Steps p.tables e below (T.setTop (mkF m pc Ls (argsL.reverse ++ rest))) t := by
  obtain ⟨v, vm, ⟨T', L', k', n'⟩, -, X', ⟨L, hQ, l1, l2, l3⟩, st⟩ := Jvm.LawKit.callS X hx (y := y) hown (mvT hZ w1) (mvT hZ w2) (mvT hZ w3) (mvT hZ w4) hy (backOf (W := W) hM hZ w4 w3 hf hl) (g := mkF m pc Ls (argsL.reverse ++ rest)) rfl hsize (argsL := argsL) (rest := rest) hlen rfl (by show 2 * 0 + _ ≤ _; omega) hd (fun _ _ => ⟨rfl, eT, hcs, hss⟩)
  dsimp only [Pt.U, Pt.locs, Pt.cells, Pt.slots] at X' hQ l1 l2 l3 st
  subst l1 l2 l3
  exact ⟨T', L, v, X', hQ, st⟩
theorem callSpecial (X : Stand p l e R s m args below meth c T locs cells slots) (hx : p.tables.exec = Jvm.exec) {a0 : Array Value} {Z : State} {h : Heap} {own : String} {index : Nat} {bytes : ByteArray} {maxL : Nat} {rm : Room} {W : Nat} {Qc : Option Value → Heap → List Loc → Prop} {y : MethodName} {a : Addr} {argsL : List Value} (hy1 : y.name = "<init>") (hZ : Z.Warmed39 s.vm) (hown : s.vm.findClass own = some m.cls) (w1 : (Cond.methodLink own index y).before a0 Z = true) (w2 : (Cond.instanceMethod y).before a0 Z = true) (w3 : (Cond.initialized y.cls).before a0 Z = true) (w4 : (Cond.code y bytes maxL none).before a0 Z = true) (hy : y.cls ≠ "java/lang/invoke/MethodHandle" ∧ y.cls ≠ "java/lang/invoke/VarHandle") (eT : T.heap = h) (hM : MetFree l y (head1 [Cond.code y bytes maxL none] rm) (fun av U => av = (.ref a :: argsL).toArray ∧ Z.Warmed39 U.vm ∧ U.heap = h) (fun _ _ _ _ _ => True) (fun _ U o U' => ∃ v L, o = .returned v ∧ Qc v U'.heap L ∧ FrameEnd U o U' L rm.cells rm.slots)) (hd : decode c.code pc = .ok (.invokespecial index, 3)) (hlen : ∀ sig, parseMethodDescriptor y.desc = some sig → argsL.length = sig.parameters.length) (hf : rm.frames + 1 ≤ R.frames) (hl : W + (maxL + 11) + rm.locals ≤ R.locals) (hsize : Ls.size = c.maxLocals) (hW : (rest.map fun v => v.category).sum ≤ W) (hcs : cells + rm.cells ≤ R.cells) (hss : slots + rm.slots ≤ R.slots) :
    ∃ (T' : State) (L : List Loc) (v : Option Value), Stand p l e R s m args below meth c T' (locs ++ L) (cells + rm.cells) (slots + rm.slots) ∧ Qc v T'.heap L ∧ ∀ t, Steps p.tables e below (T'.setTop (mkF m (pc + 3) Ls (v.toList ++ rest))) t → Steps p.tables e below (T.setTop (mkF m pc Ls (argsL.reverse ++ .ref a :: rest))) t := by
  obtain ⟨v, vm, ⟨T', L', k', n'⟩, -, X', ⟨L, hQ, l1, l2, l3⟩, st⟩ := X.specialBack hx (y := y) hy1 hown (mvT hZ w1) (mvT hZ w2) (mvT hZ w4) hy (backOf (W := W) hM hZ w4 w3 hf hl) (g := mkF m pc Ls (argsL.reverse ++ .ref a :: rest)) rfl hsize (Steps.refl _) (a := a) (argsL := argsL) (rest := rest) hlen rfl (by show 2 * 0 + _ ≤ _; omega) hd (fun _ _ => ⟨rfl, eT, hcs, hss⟩)
  dsimp only [Pt.U, Pt.locs, Pt.cells, Pt.slots] at X' hQ l1 l2 l3 st
  subst l1 l2 l3
  exact ⟨T', L, v, X', hQ, fun t kt => st.trans kt⟩
theorem callVirtual (X : Stand p l e R s m args below meth c T locs cells slots) (hx : p.tables.exec = Jvm.exec) {a0 : Array Value} {Z : State} {h : Heap} {own : String} {index : Nat} {bytes : ByteArray} {maxL : Nat} {ret : Option FieldType} {rm : Room} {W : Nat} {Qc : Option Value → Heap → List Loc → Prop} {y z : MethodName} {C : String} {a : Addr} {argsL : List Value} (hZ : Z.Warmed39 s.vm) (hown : s.vm.findClass own = some m.cls) (w1 : (Cond.methodLink own index y).before a0 Z = true) (w2 : (Cond.declares y).before a0 Z = true) (hnf : NotFace s y) (w5 : (Cond.selects C y z).before a0 Z = true) (w6 : (Cond.instanceMethod z).before a0 Z = true) (w3 : (Cond.initialized z.cls).before a0 Z = true) (w4 : (Cond.code z bytes maxL ret).before a0 Z = true) (hy : y.cls ≠ "java/lang/invoke/MethodHandle" ∧ y.cls ≠ "java/lang/invoke/VarHandle") (eT : T.heap = h) (E : Exa Z h a C) (hM : MetFree l z (head1 [Cond.code z bytes maxL ret] rm) (fun av U => av = (.ref a :: argsL).toArray ∧ Z.Warmed39 U.vm ∧ U.heap = h) (fun _ _ _ _ _ => True) (fun _ U o U' => ∃ v L, o = .returned v ∧ Qc v U'.heap L ∧ FrameEnd U o U' L rm.cells rm.slots)) (hd : decode c.code pc = .ok (.invokevirtual index, 3)) (hlen : ∀ sig, parseMethodDescriptor y.desc = some sig → argsL.length = sig.parameters.length) (hf : rm.frames + 1 ≤ R.frames) (hl : W + (maxL + 11) + rm.locals ≤ R.locals) (hsize : Ls.size = c.maxLocals) (hW : (rest.map fun v => v.category).sum ≤ W) (hcs : cells + rm.cells ≤ R.cells) (hss : slots + rm.slots ≤ R.slots) :
    ∃ (T' : State) (L : List Loc) (v : Option Value), Stand p l e R s m args below meth c T' (locs ++ L) (cells + rm.cells) (slots + rm.slots) ∧ Qc v T'.heap L ∧ ∀ t, Steps p.tables e below (T'.setTop (mkF m (pc + 3) Ls (v.toList ++ rest))) t → Steps p.tables e below (T.setTop (mkF m pc Ls (argsL.reverse ++ .ref a :: rest))) t := by
  obtain ⟨cB, kB, qa, -, qc⟩ := isOf hZ eT E
  obtain ⟨v, vm, ⟨T', L', k', n'⟩, -, X', ⟨L, hQ, l1, l2, l3⟩, st⟩ := X.virtualBack hx (y := y) (z := z) hown (mvT hZ w1) (mvT hZ w2) hnf (mvT hZ w5) (mvT hZ w6) hy (backOf (W := W) hM hZ w4 w3 hf hl) qa qc (g := mkF m pc Ls (argsL.reverse ++ .ref a :: rest)) rfl hsize (Steps.refl _) (argsL := argsL) (rest := rest) hlen rfl (by show 2 * 0 + _ ≤ _; omega) hd (fun _ _ => ⟨rfl, eT, hcs, hss⟩)
  dsimp only [Pt.U, Pt.locs, Pt.cells, Pt.slots] at X' hQ l1 l2 l3 st
  subst l1 l2 l3
  exact ⟨T', L, v, X', hQ, fun t kt => st.trans kt⟩
end Steps
section Arrays
variable {Z : State} {h h' : Heap} {a b : Addr} {ty : FieldType} {n : Int32} {f : Int32 → Int32} {sl : Nat} {v : Value} {ws : List Addr}
/-- the array at a: of kind ty, n places, the place j holds the int f j -/
def Ints (Z : State) (h : Heap) (a : Addr) (ty : FieldType) (n : Int32) (f : Int32 → Int32) : Prop := ∃ cl : Cell, Arr Z h a cl ty ∧ cl.slots.size = n.toNatClampNeg ∧ ¬ n < 0 ∧ ∀ j : Int32, ¬ j < 0 → j < n → cl.slots[j.toNatClampNeg]? = some (.int (f j))
theorem Ints.lt (F : Ints Z h a ty n f) : a < h.size := by obtain ⟨_, A, -⟩ := F; exact A.lt
theorem Ints.ext (E : Ext h h') (F : Ints Z h a ty n f) : Ints Z h' a ty n f := by obtain ⟨c, A, r⟩ := F; exact ⟨c, A.ext E, r⟩
theorem Ints.other (W : Wr h h' b sl v) (F : Ints Z h a ty n f) (q : a ≠ b) : Ints Z h' a ty n f := by obtain ⟨c, A, r⟩ := F; exact ⟨c, A.other W q, r⟩
theorem Ints.keep (F : Ints Z h a ty n f) (K : Keep h h' ws) (q : a ∉ ws) : Ints Z h' a ty n f := by obtain ⟨c, A, r⟩ := F; exact ⟨c, ⟨K.2.1 a c A.1 q, A.2⟩, r⟩
theorem Ints.inb {cl : Cell} (S : cl.slots.size = n.toNatClampNeg) {j : Int32} (h1 : ¬ j < 0) (h2 : j < n) : ¬ (j < 0 ∨ cl.slots.size ≤ j.toNatClampNeg) := inb_of S ⟨h1, h2⟩
theorem nat_inj {i j : Int32} (hi : ¬ i < 0) (hj : ¬ j < 0) (q : i.toNatClampNeg = j.toNatClampNeg) : i = j := Int32.toInt_inj.mp (by rw [nat_of hi, nat_of hj, q])
theorem Ints.set {j : Int32} {x : Int32} {cl : Cell} (A : Arr Z h a cl ty) (S : cl.slots.size = n.toNatClampNeg) (hn : ¬ n < 0) (H : ∀ j : Int32, ¬ j < 0 → j < n → cl.slots[j.toNatClampNeg]? = some (.int (f j))) (h1 : ¬ j < 0) (h2 : j < n) (W : Wr h h' a j.toNatClampNeg (.int x)) : Ints Z h' a ty n (fun i => if i = j then x else f i) := by
  refine ⟨_, A.same W, by rw [← S]; simp [Cell.setSlot], hn, fun i hi hi2 => ?_⟩
  have hlt : i.toNatClampNeg < cl.slots.size := Nat.lt_of_not_le fun q => inb_of S ⟨hi, hi2⟩ (Or.inr q)
  by_cases e : i = j
  · subst e; simp [Cell.setSlot, hlt]
  · have hne : j.toNatClampNeg ≠ i.toNatClampNeg := fun q => e (nat_inj hi h1 q.symm)
    simp only [if_neg e]
    rw [← H i hi hi2]
    simp [Cell.setSlot, Array.getElem?_setIfInBounds_ne hne]
theorem Ints.new {k : ClassId} (A : Arr Z h a (newA k ty n) ty) (hn : ¬ n < 0) (hd : defaultValue ty = .int 0) : Ints Z h a ty n (fun _ => 0) := by
  obtain ⟨cl, A', -, S, -, H, -⟩ := Arv.new A hn
  exact ⟨cl, A', S, hn, fun j h1 h2 => by rw [H _ (Nat.lt_of_not_le fun q => inb_of S ⟨h1, h2⟩ (Or.inr q))]; simp [hd]⟩
theorem Ints.congr {g : Int32 → Int32} (F : Ints Z h a ty n f) (q : ∀ j : Int32, ¬ j < 0 → j < n → f j = g j) : Ints Z h a ty n g := by
  obtain ⟨cl, A, S, hn, H⟩ := F
  exact ⟨cl, A, S, hn, fun j h1 h2 => by rw [← q j h1 h2]; exact H j h1 h2⟩
end Arrays
section ArraySteps
variable {p : Program} {l : Launch} {e : Env} {R : Room} {s : State} {m : MethodId} {args : Array Value} {below : List Frame} {meth : Method} {c : Code} {T : State} {locs : List Loc} {cells slots : Nat} {Φ : Outcome → State → Prop} {pc pc' : Nat} {Ls : Array Slot} {rest : List Value} {Z : State} {h : Heap} {a : Addr} {n j : Int32} {f : Int32 → Int32}
theorem Run.iaload (X : Stand p l e R s m args below meth c T locs cells slots) (hx : p.tables.exec = Jvm.exec) (hZ : Z.Warmed39 s.vm) (eT : T.heap = h) (F : Ints Z h a .int n f) (h1 : ¬ j < 0) (h2 : j < n) (hd : decode c.code pc = .ok (.iaload, 1)) (hp : pc + 1 = pc') (k : Run p.tables e below Φ T (mkF m pc' Ls (.int (f j) :: rest))) : Run p.tables e below Φ T (mkF m pc Ls (.int j :: .ref a :: rest)) := by
  subst hp
  obtain ⟨cl, A, S, hn, H⟩ := F
  exact k.back fun _ kt => X.iaload hx (by rw [eT]; exact A.1) (State.isArrayOf_alike hZ.alike A.2.1) A.2.2 (inb_of S ⟨h1, h2⟩) (H j h1 h2) (g := mkF m pc Ls (.int j :: .ref a :: rest)) rfl rfl hd _ kt
theorem Run.baload (X : Stand p l e R s m args below meth c T locs cells slots) (hx : p.tables.exec = Jvm.exec) (hZ : Z.Warmed39 s.vm) (eT : T.heap = h) (F : Ints Z h a .byte n f) (h1 : ¬ j < 0) (h2 : j < n) (hd : decode c.code pc = .ok (.baload, 1)) (hp : pc + 1 = pc') (k : Run p.tables e below Φ T (mkF m pc' Ls (.int (f j) :: rest))) : Run p.tables e below Φ T (mkF m pc Ls (.int j :: .ref a :: rest)) := by
  subst hp
  obtain ⟨cl, A, S, hn, H⟩ := F
  exact k.back fun _ kt => X.baloadBytes hx (by rw [eT]; exact A.1) (State.isArrayOf_alike hZ.alike A.2.1) A.2.2 (inb_of S ⟨h1, h2⟩) (H j h1 h2) (g := mkF m pc Ls (.int j :: .ref a :: rest)) rfl rfl hd _ kt
theorem Run.zaload (X : Stand p l e R s m args below meth c T locs cells slots) (hx : p.tables.exec = Jvm.exec) (hZ : Z.Warmed39 s.vm) (eT : T.heap = h) (F : Ints Z h a .boolean n f) (h1 : ¬ j < 0) (h2 : j < n) (hd : decode c.code pc = .ok (.baload, 1)) (hp : pc + 1 = pc') (k : Run p.tables e below Φ T (mkF m pc' Ls (.int (f j) :: rest))) : Run p.tables e below Φ T (mkF m pc Ls (.int j :: .ref a :: rest)) := by
  subst hp
  obtain ⟨cl, A, S, hn, H⟩ := F
  exact k.back fun _ kt => X.baloadBooleans hx (by rw [eT]; exact A.1) (State.isArrayOf_alike hZ.alike A.2.1) A.2.2 (inb_of S ⟨h1, h2⟩) (H j h1 h2) (g := mkF m pc Ls (.int j :: .ref a :: rest)) rfl rfl hd _ kt
theorem Run.arraylength (X : Stand p l e R s m args below meth c T locs cells slots) (hx : p.tables.exec = Jvm.exec) {ty : FieldType} (hZ : Z.Warmed39 s.vm) (eT : T.heap = h) (F : Ints Z h a ty n f) (hd : decode c.code pc = .ok (.arraylength, 1)) (hp : pc + 1 = pc') (k : Run p.tables e below Φ T (mkF m pc' Ls (.int n :: rest))) : Run p.tables e below Φ T (mkF m pc Ls (.ref a :: rest)) := by
  subst hp
  obtain ⟨cl, A, S, hn, H⟩ := F
  rw [← len_of S hn] at k
  exact k.back fun _ kt => X.arraylength hx (by rw [eT]; exact A.1) (State.isArrayOf_alike hZ.alike A.2.1) (g := mkF m pc Ls (.ref a :: rest)) rfl rfl hd _ kt
theorem st_iastore (X : Stand p l e R s m args below meth c T locs cells slots) (hx : p.tables.exec = Jvm.exec) {x : Int32} (hZ : Z.Warmed39 s.vm) (eT : T.heap = h) (F : Ints Z h a .int n f) (h1 : ¬ j < 0) (h2 : j < n) (hd : decode c.code pc = .ok (.iastore, 1)) : ∃ T' h' sl v, Stand p l e R s m args below meth c T' (locs ++ [⟨a, sl⟩]) cells slots ∧ T'.heap = h' ∧ Wr h h' a sl v ∧ Ints Z h' a .int n (fun i => if i = j then x else f i) ∧ ∀ t, Steps p.tables e below (T'.setTop (mkF m (pc + 1) Ls rest)) t → Steps p.tables e below (T.setTop (mkF m pc Ls (.int x :: .int j :: .ref a :: rest))) t := by
  obtain ⟨cl, A, S, hn, H⟩ := F
  obtain ⟨T', h', X', e', W, st⟩ := stI X hx hZ eT A (j := j) (x := x) (inb_of S ⟨h1, h2⟩) (g := mkF m pc Ls (.int x :: .int j :: .ref a :: rest)) rfl rfl hd
  exact ⟨T', h', _, _, X', e', W, Ints.set A S hn H h1 h2 W, st⟩
theorem st_bastore (X : Stand p l e R s m args below meth c T locs cells slots) (hx : p.tables.exec = Jvm.exec) {x : Int32} (hZ : Z.Warmed39 s.vm) (eT : T.heap = h) (F : Ints Z h a .byte n f) (h1 : ¬ j < 0) (h2 : j < n) (hd : decode c.code pc = .ok (.bastore, 1)) : ∃ T' h' sl v, Stand p l e R s m args below meth c T' (locs ++ [⟨a, sl⟩]) cells slots ∧ T'.heap = h' ∧ Wr h h' a sl v ∧ Ints Z h' a .byte n (fun i => if i = j then x.toInt8.toInt32 else f i) ∧ ∀ t, Steps p.tables e below (T'.setTop (mkF m (pc + 1) Ls rest)) t → Steps p.tables e below (T.setTop (mkF m pc Ls (.int x :: .int j :: .ref a :: rest))) t := by
  obtain ⟨cl, A, S, hn, H⟩ := F
  obtain ⟨T', h', X', e', W, st⟩ := stB X hx hZ eT A (j := j) (x := x) (inb_of S ⟨h1, h2⟩) (g := mkF m pc Ls (.int x :: .int j :: .ref a :: rest)) rfl rfl hd
  exact ⟨T', h', _, _, X', e', W, Ints.set A S hn H h1 h2 W, st⟩
theorem st_zastore (X : Stand p l e R s m args below meth c T locs cells slots) (hx : p.tables.exec = Jvm.exec) {x : Int32} (hZ : Z.Warmed39 s.vm) (eT : T.heap = h) (F : Ints Z h a .boolean n f) (h1 : ¬ j < 0) (h2 : j < n) (hd : decode c.code pc = .ok (.bastore, 1)) : ∃ T' h' sl v, Stand p l e R s m args below meth c T' (locs ++ [⟨a, sl⟩]) cells slots ∧ T'.heap = h' ∧ Wr h h' a sl v ∧ Ints Z h' a .boolean n (fun i => if i = j then x &&& 1 else f i) ∧ ∀ t, Steps p.tables e below (T'.setTop (mkF m (pc + 1) Ls rest)) t → Steps p.tables e below (T.setTop (mkF m pc Ls (.int x :: .int j :: .ref a :: rest))) t := by
  obtain ⟨cl, A, S, hn, H⟩ := F
  obtain ⟨T', h', X', e', W, st⟩ := stZ X hx hZ eT A (j := j) (x := x) (inb_of S ⟨h1, h2⟩) (g := mkF m pc Ls (.int x :: .int j :: .ref a :: rest)) rfl rfl hd
  exact ⟨T', h', _, _, X', e', W, Ints.set A S hn H h1 h2 W, st⟩
theorem st_newarray (X : Stand p l e R s m args below meth c T locs cells slots) (hx : p.tables.exec = Jvm.exec) {aty : ArrayType} {a0 : Array Value} (hZ : Z.Warmed39 s.vm) (w : (Cond.arrayClass (newarray.typeOf aty)).before a0 Z = true) (eT : T.heap = h) (hd : decode c.code pc = .ok (.newarray aty, 2)) (hn : ¬ n < 0) {cap : Nat} (hcap : n.toNatClampNeg ≤ cap) (hb : cap * 8 ≤ 536870912) (hc : cells + 1 ≤ R.cells) (hl : slots + cap ≤ R.slots) (hdef : defaultValue (newarray.typeOf aty) = .int 0) : ∃ T' h' b, Stand p l e R s m args below meth c T' locs (cells + 1) (slots + cap) ∧ T'.heap = h' ∧ Ext h h' ∧ b = h.size ∧ Ints Z h' b (newarray.typeOf aty) n (fun _ => 0) ∧ ∀ t, Steps p.tables e below (T'.setTop (mkF m (pc + 2) Ls (.ref b :: rest))) t → Steps p.tables e below (T.setTop (mkF m pc Ls (.int n :: rest))) t := by
  obtain ⟨T', h', cA, X', e', E, A, st⟩ := newP X hx hZ w eT (g := mkF m pc Ls (.int n :: rest)) rfl hd rfl hn hcap hb hc hl
  exact ⟨T', h', _, X', e', E, rfl, Ints.new A hn hdef, st⟩
end ArraySteps
section Table
variable {Z : State} {args : Array Value} {t : Term} {a : Addr} {c : Cell} {ty : FieldType} {n j : Int32}
theorem tab_ints {h : Heap} (F : Tab Z h a c ty n) : Ints Z h a ty n (atv c) := ⟨c, F.1, F.2.1, F.2.2.1, fun j h1 h2 => F.2.2.2 j (inb_of F.2.1 ⟨h1, h2⟩)⟩
theorem tab_all {q : Jvm.Cond} (et : ∀ idx, t.eval args Z none idx Z = some (.ref a)) (F : Tab Z Z.heap a c ty n) (h : (Jvm.Cond.all t q).value args Z none Z [] = some true) (h1 : ¬ j < 0) (h2 : j < n) : q.value args Z none Z [j.toNatClampNeg] = some true :=
  Jvm.Cond.all_elim (et []) (F.1.fin (Vm.Alike.refl _)) h _ (Nat.lt_of_not_le fun y => inb_of F.2.1 ⟨h1, h2⟩ (Or.inr y))
theorem tab_elem (et : ∀ idx, t.eval args Z none idx Z = some (.ref a)) (F : Tab Z Z.heap a c ty n) (h1 : ¬ j < 0) (h2 : j < n) : (Term.elem t (.index 0)).eval args Z none [j.toNatClampNeg] Z = some (.int (atv c j)) :=
  (elem_f (et _) (idx_at h1) (F.1.fin (Vm.Alike.refl _)) h1).trans (F.2.2.2 j (inb_of F.2.1 ⟨h1, h2⟩))
theorem tab_le {x v : Int32} (et : ∀ idx, t.eval args Z none idx Z = some (.ref a)) (F : Tab Z Z.heap a c ty n) (h : (Jvm.Cond.all t (.or (.le (.int x) (.index 0)) (.eq (.elem t (.index 0)) (.int v)))).value args Z none Z [] = some true) (j : Int32) (h1 : ¬ j < 0) (h2 : j < n) : x ≤ j ∨ atv c j = v :=
  or_e2 (Jvm.Cond.le_ints (Term.int_eval x) (idx_at h1)) (Jvm.Cond.eq_ints (tab_elem et F h1 h2) (Term.int_eval v)) (tab_all et F h h1 h2)
theorem tab_in {x y v : Int32} (et : ∀ idx, t.eval args Z none idx Z = some (.ref a)) (F : Tab Z Z.heap a c ty n) (h : (Jvm.Cond.all t (.or (.lt (.index 0) (.int x)) (.or (.le (.int y) (.index 0)) (.eq (.elem t (.index 0)) (.int v))))).value args Z none Z [] = some true) (j : Int32) (h1 : ¬ j < 0) (h2 : j < n) : j < x ∨ ¬ j < y ∨ atv c j = v :=
  or3 (tab_all et F h h1 h2) (Jvm.Cond.lt_ints (idx_at h1) (Term.int_eval x)) (Jvm.Cond.le_ints (Term.int_eval y) (idx_at h1)) (Jvm.Cond.eq_ints (tab_elem et F h1 h2) (Term.int_eval v))
theorem tab_one {k v : Int32} (et : ∀ idx, t.eval args Z none idx Z = some (.ref a)) (F : Tab Z Z.heap a c ty n) (h1 : ¬ k < 0) (h2 : k < n) (h : (Jvm.Cond.eq (.elem t (.int k)) (.int v)).value args Z none Z [] = some true) : atv c k = v := by
  have e := (elem_f (et []) (Term.int_eval (args := args) (first := Z) (o := none) (idx := []) (s := Z) k) (F.1.fin (Vm.Alike.refl _)) h1).trans (F.2.2.2 k (inb_of F.2.1 ⟨h1, h2⟩))
  have q := (Jvm.Cond.eq_ints e (Term.int_eval v)).symm.trans h
  simpa using q
theorem tab_ge {x v : Int32} (et : ∀ idx, t.eval args Z none idx Z = some (.ref a)) (F : Tab Z Z.heap a c ty n) (h : (Jvm.Cond.all t (.or (.lt (.index 0) (.int x)) (.eq (.elem t (.index 0)) (.int v)))).value args Z none Z [] = some true) (j : Int32) (h1 : ¬ j < 0) (h2 : j < n) : j < x ∨ atv c j = v :=
  or_e2 (Jvm.Cond.lt_ints (idx_at h1) (Term.int_eval x)) (Jvm.Cond.eq_ints (tab_elem et F h1 h2) (Term.int_eval v)) (tab_all et F h h1 h2)
theorem tab_start (hf : Fit Z) (et : t.eval args Z none [] Z = some (.ref a)) (A : Arr Z Z.heap a c ty) (hl : (Jvm.Cond.eq (Term.length t) (.int n)).value args Z none Z [] = some true) (ht : ty = .int ∨ ty = .boolean ∨ ty = .byte ∨ ty = .char ∨ ty = .short) (hn : ¬ n < 0) : Tab Z Z.heap a c ty n := by
  have e := eqv_i (Term.int_eval n) hl
  have ha : Z.arrayAt? a = some c := A.fin (Vm.Alike.refl _)
  by_cases q : c.slots.size < 2 ^ 31
  · have e2 := len_f et ha q
    exact Tab.start hf A ht q (by simpa using Option.some.inj (e2.symm.trans e)) hn
  · simp [Term.eval, et, ha, q] at e
theorem small_int (N : Nat) (hN : N < 2147483648) (P : Int32 → Prop) (H : ∀ k : Fin N, P (Int32.ofNat k.val)) (c : Int32) (h1 : ¬ c < 0) (h2 : c < Int32.ofNat N) : P c := by
  have e : c.toInt = (c.toNatClampNeg : Int) := nat_of h1
  have hc : Int32.ofNat c.toNatClampNeg = c := by
    apply Int32.toInt_inj.mp
    rw [Int32.toInt_ofNat_of_lt (by have := c.toInt_lt; omega), e]
  have h3 : c.toInt < (Int32.ofNat N).toInt := Int32.lt_iff_toInt_lt.mp h2
  rw [Int32.toInt_ofNat_of_lt (by omega)] at h3
  rw [← hc]
  exact H ⟨c.toNatClampNeg, by omega⟩
end Table
end Jvm.OwnRun

namespace Jvm.Pilot.@@N@@
open Jvm Jvm.ClassFile Sem Op Lib Jvm.Free Jvm.Stand Jvm.LawKit Jvm.RoadKit Jvm.OwnRun Bundle Jvm.Pilot.@@N@@.Jvm.D
theorem own_pd0 : parseMethodDescriptor "(IIILjava/util/function/BiFunction;)I" = some ⟨[.int, .int, .int, (.object "java/util/function/BiFunction")], some .int⟩ := by decide +kernel
theorem own_pd1 : parseMethodDescriptor "()V" = some ⟨[], none⟩ := by decide +kernel
theorem own_pd2 : parseMethodDescriptor "(III)I" = some ⟨[.int, .int, .int], some .int⟩ := by decide +kernel
theorem own_pd3 : parseMethodDescriptor "([BII)V" = some ⟨[(.array .byte), .int, .int], none⟩ := by decide +kernel
theorem own_pd4 : parseMethodDescriptor "()I" = some ⟨[], some .int⟩ := by decide +kernel
theorem own_pd5 : parseMethodDescriptor "(IIII)I" = some ⟨[.int, .int, .int, .int], some .int⟩ := by decide +kernel
theorem own_pn0 : plainName "java/io/InputStream" = true := by first | (simp [plainName, overriddenIn]; done) | decide +kernel
theorem own_pn1 : plainName "jdk/internal/util/Preconditions" = true := by first | (simp [plainName, overriddenIn]; done) | decide +kernel
theorem own_pn2 : plainName "java/util/Objects" = true := by first | (simp [plainName, overriddenIn]; done) | decide +kernel
theorem own_pn3 : plainName "com/example/tallyhold/tallyhold/ledger/ArrayInput" = true := by first | (simp [plainName, overriddenIn]; done) | decide +kernel
theorem own_pn4 : plainName "com/example/tallyhold/tallyhold/ledger/ArrayInputReadPinLaw" = true := by first | (simp [plainName, overriddenIn]; done) | decide +kernel
theorem own_d1_0 : decode jdk_2022_method_1_code 0 = .ok (.aload_n 0, 1) := by decide +kernel
theorem own_d1_1 : decode jdk_2022_method_1_code 1 = .ok (.invokespecial 3, 3) := by decide +kernel
theorem own_d1_4 : decode jdk_2022_method_1_code 4 = .ok (.return_, 1) := by decide +kernel
theorem own_ef1 (m : MethodId) (x0 : Addr) : entryFrame m #[(.ref x0)] 1 = mkF m 0 #[.val (.ref x0)] [] := by first | (simp [entryFrame, mkF, argsToLocals, Value.category]; done) | rfl
set_option maxRecDepth 65536 in
set_option maxHeartbeats 40000000 in
theorem rm1 (l : Launch) (Z : State) (a0 : Array Value) (hw : ∀ d ∈ tables_1, d.before a0 Z = true) (ws : List Jvm.Cond) (o0 : Addr) (h0 : Heap) (n0 : Nat) (Z0 : n0 ≤ h0.size) :
    MetFree l (⟨"java/io/InputStream", "<init>", "()V"⟩ : MethodName) (head1 (Jvm.Cond.code (⟨"java/io/InputStream", "<init>", "()V"⟩ : MethodName) jdk_2022_method_1_code 1 none :: ws) ({ frames := 1, cells := 0, slots := 0, locals := 12 } : Room)) (fun a U => a = #[(.ref o0)] ∧ Z.Warmed39 U.vm ∧ U.heap = h0) (fun _ _ _ _ _ => True) (fun _ U o U' => ∃ v L, o = .returned v ∧ (Say (fun v h L => v = none ∧ Fr n0 L ∧ h = h0)) v U'.heap L ∧ FrameEnd U o U' L ({ frames := 1, cells := 0, slots := 0, locals := 12 } : Room).cells ({ frames := 1, cells := 0, slots := 0, locals := 12 } : Room).slots) := by
  refine MetFree.of_bodySF (plainFor_of_name own_pn0) hisR ?_
  intro p e s m args below meth c s₁ Bd hml0 hP hK
  obtain ⟨rfl, hZ, hh⟩ := hP
  have hx := Bd.exec
  have hby := Bd.bytes
  have hml : c.maxLocals = 1 := hml0
  have hown : s.vm.findClass "java/io/InputStream" = some m.cls := findClass_of_methodNamed Bd.named
  have hnm := (name_of_methodNamed Bd.named Bd.method).1
  have X0 : Stand p l e ({ frames := 1, cells := 0, slots := 0, locals := 12 } : Room) s m #[(.ref o0)] below meth c s₁ [] 0 0 := Stand.of_body Bd
  have e0 : s₁.heap = h0 := by rw [← hh, Bd.state]; rfl
  have N0 := Fr.nil n0
  suffices H : Run p.tables e below (FinR s ({ frames := 1, cells := 0, slots := 0, locals := 12 } : Room).cells ({ frames := 1, cells := 0, slots := 0, locals := 12 } : Room).slots (Say (fun v h L => v = none ∧ Fr n0 L ∧ h = h0))) s₁ (mkF m 0 #[.val (.ref o0)] []) by
    obtain ⟨s₂, o, k1, k2, k3, k4⟩ := H
    exact ⟨s₂, o, castTop (own_ef1 m o0) k1, k2, k3, k4⟩
  refine Run.aloadN (pc' := 1) X0 hx (hb hby own_d1_0) rfl rfl ?_
  obtain ⟨T1, X1, e1, st1⟩ := initO X0 hx hZ hown (hw _ (List.mem_of_getElem? (i := 13) rfl)) (hw _ (List.mem_of_getElem? (i := 14) rfl)) (hw _ (List.mem_of_getElem? (i := 15) rfl)) e0 (g := (mkF m 1 #[.val (.ref o0)] [(.ref o0)])) rfl (by rw [hml]; rfl) rfl (hb hby own_d1_1) (by decide) (W := 0) (by show 2 * 0 + _ ≤ _; exact Nat.le_of_eq rfl) (by decide)
  refine Run.back (g' := (mkF m 4 #[.val (.ref o0)] [])) st1 ?_
  exact Run.retVoid X1 hx Bd.notSynchronized Bd.returns (hb hby own_d1_4) ⟨rfl, N0, e1⟩ (by decide) (by decide)
def own_F2 (p0 : Int32) (p1 : Int32) (p2 : Int32) : Int32 := p0
theorem own_d2_0 : decode jdk_41_method_13_code 0 = .ok (.iload_n 2, 1) := by decide +kernel
theorem own_d2_1 : decode jdk_41_method_13_code 1 = .ok (.iload_n 0, 1) := by decide +kernel
theorem own_d2_2 : decode jdk_41_method_13_code 2 = .ok (.ior, 1) := by decide +kernel
theorem own_d2_3 : decode jdk_41_method_13_code 3 = .ok (.iload_n 1, 1) := by decide +kernel
theorem own_d2_4 : decode jdk_41_method_13_code 4 = .ok (.ior, 1) := by decide +kernel
theorem own_d2_5 : decode jdk_41_method_13_code 5 = .ok (.ifCond .lt 10, 3) := by decide +kernel
theorem own_d2_8 : decode jdk_41_method_13_code 8 = .ok (.iload_n 1, 1) := by decide +kernel
theorem own_d2_9 : decode jdk_41_method_13_code 9 = .ok (.iload_n 2, 1) := by decide +kernel
theorem own_d2_10 : decode jdk_41_method_13_code 10 = .ok (.iload_n 0, 1) := by decide +kernel
theorem own_d2_11 : decode jdk_41_method_13_code 11 = .ok (.isub, 1) := by decide +kernel
theorem own_d2_12 : decode jdk_41_method_13_code 12 = .ok (.if_icmp .le 11, 3) := by decide +kernel
theorem own_d2_23 : decode jdk_41_method_13_code 23 = .ok (.iload_n 0, 1) := by decide +kernel
theorem own_d2_24 : decode jdk_41_method_13_code 24 = .ok (.ireturn, 1) := by decide +kernel
theorem own_ef2 (m : MethodId) (x0 : Int32) (x1 : Int32) (x2 : Int32) : entryFrame m #[(.int x0), (.int x1), (.int x2), .null] 4 = mkF m 0 #[.val (.int x0), .val (.int x1), .val (.int x2), .val .null] [] := by first | (simp [entryFrame, mkF, argsToLocals, Value.category]; done) | rfl
set_option maxRecDepth 65536 in
set_option maxHeartbeats 40000000 in
theorem rm2 (l : Launch) (Z : State) (a0 : Array Value) (hw : ∀ d ∈ tables_1, d.before a0 Z = true) (ws : List Jvm.Cond) (p0 : Int32) (p1 : Int32) (p2 : Int32) (h0 : Heap) (n0 : Nat) (Z0 : n0 ≤ h0.size) (hk1 : ¬ ((p2 ||| p0) ||| p1) < (0 : Int32)) (hk2 : ¬ (p2 - p0) < p1) :
    MetFree l (⟨"jdk/internal/util/Preconditions", "checkFromIndexSize", "(IIILjava/util/function/BiFunction;)I"⟩ : MethodName) (head1 (Jvm.Cond.code (⟨"jdk/internal/util/Preconditions", "checkFromIndexSize", "(IIILjava/util/function/BiFunction;)I"⟩ : MethodName) jdk_41_method_13_code 4 (some .int) :: ws) ({ frames := 0, cells := 0, slots := 0, locals := 0 } : Room)) (fun a U => a = #[(.int p0), (.int p1), (.int p2), .null] ∧ Z.Warmed39 U.vm ∧ U.heap = h0) (fun _ _ _ _ _ => True) (fun _ U o U' => ∃ v L, o = .returned v ∧ (QPure n0 h0 (.int (own_F2 p0 p1 p2))) v U'.heap L ∧ FrameEnd U o U' L ({ frames := 0, cells := 0, slots := 0, locals := 0 } : Room).cells ({ frames := 0, cells := 0, slots := 0, locals := 0 } : Room).slots) := by
  refine MetFree.of_bodySF (plainFor_of_name own_pn1) hisR ?_
  intro p e s m args below meth c s₁ Bd hml0 hP hK
  obtain ⟨rfl, hZ, hh⟩ := hP
  have hx := Bd.exec
  have hby := Bd.bytes
  have hml : c.maxLocals = 4 := hml0
  have hown : s.vm.findClass "jdk/internal/util/Preconditions" = some m.cls := findClass_of_methodNamed Bd.named
  have hnm := (name_of_methodNamed Bd.named Bd.method).1
  have X0 : Stand p l e ({ frames := 0, cells := 0, slots := 0, locals := 0 } : Room) s m #[(.int p0), (.int p1), (.int p2), .null] below meth c s₁ [] 0 0 := Stand.of_body Bd
  have e0 : s₁.heap = h0 := by rw [← hh, Bd.state]; rfl
  have N0 := Fr.nil n0
  suffices H : Run p.tables e below (FinR s ({ frames := 0, cells := 0, slots := 0, locals := 0 } : Room).cells ({ frames := 0, cells := 0, slots := 0, locals := 0 } : Room).slots (QPure n0 h0 (.int (own_F2 p0 p1 p2)))) s₁ (mkF m 0 #[.val (.int p0), .val (.int p1), .val (.int p2), .val .null] []) by
    obtain ⟨s₂, o, k1, k2, k3, k4⟩ := H
    exact ⟨s₂, o, castTop (own_ef2 m p0 p1 p2) k1, k2, k3, k4⟩
  obtain ⟨r, hr⟩ : ∃ r, r = own_F2 p0 p1 p2 := ⟨_, rfl⟩
  rw [← hr]
  rw [own_F2] at hr
  refine Run.iloadN (pc' := 1) X0 hx (hb hby own_d2_0) rfl rfl ?_
  refine Run.iloadN (pc' := 2) X0 hx (hb hby own_d2_1) rfl rfl ?_
  refine Run.ior (pc' := 3) X0 hx (hb hby own_d2_2) rfl ?_
  refine Run.iloadN (pc' := 4) X0 hx (hb hby own_d2_3) rfl rfl ?_
  refine Run.ior (pc' := 5) X0 hx (hb hby own_d2_4) rfl ?_
  refine Run.ifNo (pc' := 8) X0 hx (hb hby own_d2_5) ((if0 _ _).trans (flt hk1).1) rfl ?_
  refine Run.iloadN (pc' := 9) X0 hx (hb hby own_d2_8) rfl rfl ?_
  refine Run.iloadN (pc' := 10) X0 hx (hb hby own_d2_9) rfl rfl ?_
  refine Run.iloadN (pc' := 11) X0 hx (hb hby own_d2_10) rfl rfl ?_
  refine Run.isub (pc' := 12) X0 hx (hb hby own_d2_11) rfl ?_
  refine Run.icmpYes (pc' := 23) X0 hx (hb hby own_d2_12) (flt hk2).2.2.2 (by decide) (by decide) ?_
  refine Run.iloadN (pc' := 24) X0 hx (hb hby own_d2_23) rfl rfl ?_
  exact Run.retInt X0 hx Bd.notSynchronized Bd.returns (hb hby own_d2_24) ⟨by rw [hr], N0, e0⟩ (by decide) (by decide)
def own_F3 (p0 : Int32) (p1 : Int32) (p2 : Int32) : Int32 := (own_F2 p0 p1 p2)
theorem own_d3_0 : decode jdk_31_method_19_code 0 = .ok (.iload_n 0, 1) := by decide +kernel
theorem own_d3_1 : decode jdk_31_method_19_code 1 = .ok (.iload_n 1, 1) := by decide +kernel
theorem own_d3_2 : decode jdk_31_method_19_code 2 = .ok (.iload_n 2, 1) := by decide +kernel
theorem own_d3_3 : decode jdk_31_method_19_code 3 = .ok (.aconst_null, 1) := by decide +kernel
theorem own_d3_4 : decode jdk_31_method_19_code 4 = .ok (.invokestatic 115, 3) := by decide +kernel
theorem own_d3_7 : decode jdk_31_method_19_code 7 = .ok (.ireturn, 1) := by decide +kernel
theorem own_ef3 (m : MethodId) (x0 : Int32) (x1 : Int32) (x2 : Int32) : entryFrame m #[(.int x0), (.int x1), (.int x2)] 3 = mkF m 0 #[.val (.int x0), .val (.int x1), .val (.int x2)] [] := by first | (simp [entryFrame, mkF, argsToLocals, Value.category]; done) | rfl
set_option maxRecDepth 65536 in
set_option maxHeartbeats 40000000 in
theorem rm3 (l : Launch) (Z : State) (a0 : Array Value) (hw : ∀ d ∈ tables_1, d.before a0 Z = true) (ws : List Jvm.Cond) (p0 : Int32) (p1 : Int32) (p2 : Int32) (h0 : Heap) (n0 : Nat) (Z0 : n0 ≤ h0.size) (hk1 : ¬ ((p2 ||| p0) ||| p1) < (0 : Int32)) (hk2 : ¬ (p2 - p0) < p1) :
    MetFree l (⟨"java/util/Objects", "checkFromIndexSize", "(III)I"⟩ : MethodName) (head1 (Jvm.Cond.code (⟨"java/util/Objects", "checkFromIndexSize", "(III)I"⟩ : MethodName) jdk_31_method_19_code 3 (some .int) :: ws) ({ frames := 1, cells := 0, slots := 0, locals := 15 } : Room)) (fun a U => a = #[(.int p0), (.int p1), (.int p2)] ∧ Z.Warmed39 U.vm ∧ U.heap = h0) (fun _ _ _ _ _ => True) (fun _ U o U' => ∃ v L, o = .returned v ∧ (QPure n0 h0 (.int (own_F3 p0 p1 p2))) v U'.heap L ∧ FrameEnd U o U' L ({ frames := 1, cells := 0, slots := 0, locals := 15 } : Room).cells ({ frames := 1, cells := 0, slots := 0, locals := 15 } : Room).slots) := by
  refine MetFree.of_bodySF (plainFor_of_name own_pn2) hisR ?_
  intro p e s m args below meth c s₁ Bd hml0 hP hK
  obtain ⟨rfl, hZ, hh⟩ := hP
  have hx := Bd.exec
  have hby := Bd.bytes
  have hml : c.maxLocals = 3 := hml0
  have hown : s.vm.findClass "java/util/Objects" = some m.cls := findClass_of_methodNamed Bd.named
  have hnm := (name_of_methodNamed Bd.named Bd.method).1
  have X0 : Stand p l e ({ frames := 1, cells := 0, slots := 0, locals := 15 } : Room) s m #[(.int p0), (.int p1), (.int p2)] below meth c s₁ [] 0 0 := Stand.of_body Bd
  have e0 : s₁.heap = h0 := by rw [← hh, Bd.state]; rfl
  have N0 := Fr.nil n0
  suffices H : Run p.tables e below (FinR s ({ frames := 1, cells := 0, slots := 0, locals := 15 } : Room).cells ({ frames := 1, cells := 0, slots := 0, locals := 15 } : Room).slots (QPure n0 h0 (.int (own_F3 p0 p1 p2)))) s₁ (mkF m 0 #[.val (.int p0), .val (.int p1), .val (.int p2)] []) by
    obtain ⟨s₂, o, k1, k2, k3, k4⟩ := H
    exact ⟨s₂, o, castTop (own_ef3 m p0 p1 p2) k1, k2, k3, k4⟩
  obtain ⟨r, hr⟩ : ∃ r, r = own_F3 p0 p1 p2 := ⟨_, rfl⟩
  rw [← hr]
  rw [own_F3] at hr
  refine Run.iloadN (pc' := 1) X0 hx (hb hby own_d3_0) rfl rfl ?_
  refine Run.iloadN (pc' := 2) X0 hx (hb hby own_d3_1) rfl rfl ?_
  refine Run.iloadN (pc' := 3) X0 hx (hb hby own_d3_2) rfl rfl ?_
  refine Run.aconstNull (pc' := 4) X0 hx (hb hby own_d3_3) rfl ?_
  obtain ⟨T1, L1, v1, X1, Q1, st1⟩ := callStatic X0 hx (y := (⟨"jdk/internal/util/Preconditions", "checkFromIndexSize", "(IIILjava/util/function/BiFunction;)I"⟩ : MethodName)) (Ls := #[.val (.int p0), .val (.int p1), .val (.int p2)]) (rest := []) (W := 0) (argsL := [(.int p0), (.int p1), (.int p2), .null]) hZ hown (hw _ (List.mem_of_getElem? (i := 20) rfl)) (hw _ (List.mem_of_getElem? (i := 21) rfl)) (hw _ (List.mem_of_getElem? (i := 22) rfl)) (hw _ (List.mem_of_getElem? (i := 23) rfl)) (by decide) e0 (rm2 l Z a0 hw [] p0 p1 p2  h0 n0 Z0 hk1 hk2) (hb hby own_d3_4) (lenOf own_pd0 rfl) (by decide) (by decide) (by rw [hml]; rfl) (Nat.le_of_eq rfl) (by decide) (by decide)
  obtain ⟨rfl, M1, e1⟩ := Q1
  have N1 := Fr.app N0 M1
  refine Run.back (g' := (mkF m 7 #[.val (.int p0), .val (.int p1), .val (.int p2)] [(.int (own_F2 p0 p1 p2))])) st1 ?_
  exact Run.retInt X1 hx Bd.notSynchronized Bd.returns (hb hby own_d3_7) ⟨by rw [hr], N1, e1⟩ (by decide) (by decide)
def own_R (w z : Int32) (g : Int32 → Int32) : Int32 := (if w < z then ((g w) &&& (255 : Int32)) else (-1 : Int32))
def own_N (w z : Int32) : Int32 := (if w < z then (w + (1 : Int32)) else w)

theorem own_d4_0 : decode prog_32_method_2_code 0 = .ok (.aload_n 0, 1) := by decide +kernel
theorem own_d4_1 : decode prog_32_method_2_code 1 = .ok (.invokespecial 7, 3) := by decide +kernel
theorem own_d4_4 : decode prog_32_method_2_code 4 = .ok (.iload_n 2, 1) := by decide +kernel
theorem own_d4_5 : decode prog_32_method_2_code 5 = .ok (.iload_n 3, 1) := by decide +kernel
theorem own_d4_6 : decode prog_32_method_2_code 6 = .ok (.aload_n 1, 1) := by decide +kernel
theorem own_d4_7 : decode prog_32_method_2_code 7 = .ok (.arraylength, 1) := by decide +kernel
theorem own_d4_8 : decode prog_32_method_2_code 8 = .ok (.invokestatic 12, 3) := by decide +kernel
theorem own_d4_11 : decode prog_32_method_2_code 11 = .ok (.pop, 1) := by decide +kernel
theorem own_d4_12 : decode prog_32_method_2_code 12 = .ok (.aload_n 0, 1) := by decide +kernel
theorem own_d4_13 : decode prog_32_method_2_code 13 = .ok (.aload_n 1, 1) := by decide +kernel
theorem own_d4_14 : decode prog_32_method_2_code 14 = .ok (.putfield 18, 3) := by decide +kernel
theorem own_d4_17 : decode prog_32_method_2_code 17 = .ok (.aload_n 0, 1) := by decide +kernel
theorem own_d4_18 : decode prog_32_method_2_code 18 = .ok (.iload_n 2, 1) := by decide +kernel
theorem own_d4_19 : decode prog_32_method_2_code 19 = .ok (.putfield 22, 3) := by decide +kernel
theorem own_d4_22 : decode prog_32_method_2_code 22 = .ok (.aload_n 0, 1) := by decide +kernel
theorem own_d4_23 : decode prog_32_method_2_code 23 = .ok (.iload_n 2, 1) := by decide +kernel
theorem own_d4_24 : decode prog_32_method_2_code 24 = .ok (.iload_n 3, 1) := by decide +kernel
theorem own_d4_25 : decode prog_32_method_2_code 25 = .ok (.iadd, 1) := by decide +kernel
theorem own_d4_26 : decode prog_32_method_2_code 26 = .ok (.putfield 26, 3) := by decide +kernel
theorem own_d4_29 : decode prog_32_method_2_code 29 = .ok (.return_, 1) := by decide +kernel
theorem own_ef4 (m : MethodId) (x0 : Addr) (x1 : Addr) (x2 : Int32) (x3 : Int32) : entryFrame m #[(.ref x0), (.ref x1), (.int x2), (.int x3)] 4 = mkF m 0 #[.val (.ref x0), .val (.ref x1), .val (.int x2), .val (.int x3)] [] := by first | (simp [entryFrame, mkF, argsToLocals, Value.category]; done) | rfl
set_option maxRecDepth 65536 in
set_option maxHeartbeats 40000000 in
theorem rm4 (l : Launch) (Z : State) (a0 : Array Value) (hw : ∀ d ∈ tables_1, d.before a0 Z = true) (ws : List Jvm.Cond) (o0 : Addr) (o1 : Addr) (p2 : Int32) (p3 : Int32) (g : Int32 → Int32) (h0 : Heap) (n0 : Nat) (Z0 : n0 ≤ h0.size) (E_o : Exa Z h0 o0 "com/example/tallyhold/tallyhold/ledger/ArrayInput") (F_bytes : Fld Z h0 o0 "com/example/tallyhold/tallyhold/ledger/ArrayInput" "bytes" "[B" .null) (F_at : Fld Z h0 o0 "com/example/tallyhold/tallyhold/ledger/ArrayInput" "at" "I" (.int (0 : Int32))) (F_end : Fld Z h0 o0 "com/example/tallyhold/tallyhold/ledger/ArrayInput" "end" "I" (.int (0 : Int32))) (g_o : n0 ≤ o0) (A_t : Ints Z h0 o1 .byte (4 : Int32) g) (ne_o : o1 ≠ o0) (hk1 : ¬ (((4 : Int32) ||| p2) ||| p3) < (0 : Int32)) (hk2 : ¬ ((4 : Int32) - p2) < p3) :
    MetFree l (⟨"com/example/tallyhold/tallyhold/ledger/ArrayInput", "<init>", "([BII)V"⟩ : MethodName) (head1 (Jvm.Cond.code (⟨"com/example/tallyhold/tallyhold/ledger/ArrayInput", "<init>", "([BII)V"⟩ : MethodName) prog_32_method_2_code 4 none :: ws) ({ frames := 2, cells := 0, slots := 0, locals := 30 } : Room)) (fun a U => a = #[(.ref o0), (.ref o1), (.int p2), (.int p3)] ∧ Z.Warmed39 U.vm ∧ U.heap = h0) (fun _ _ _ _ _ => True) (fun _ U o U' => ∃ v L, o = .returned v ∧ (Say (fun v h L => v = none ∧ Fr n0 L ∧ Keep h0 h [o0] ∧ Exa Z h o0 "com/example/tallyhold/tallyhold/ledger/ArrayInput" ∧ Fld Z h o0 "com/example/tallyhold/tallyhold/ledger/ArrayInput" "bytes" "[B" (.ref o1) ∧ Fld Z h o0 "com/example/tallyhold/tallyhold/ledger/ArrayInput" "at" "I" (.int p2) ∧ Fld Z h o0 "com/example/tallyhold/tallyhold/ledger/ArrayInput" "end" "I" (.int (p2 + p3)))) v U'.heap L ∧ FrameEnd U o U' L ({ frames := 2, cells := 0, slots := 0, locals := 30 } : Room).cells ({ frames := 2, cells := 0, slots := 0, locals := 30 } : Room).slots) := by
  refine MetFree.of_bodySF (plainFor_of_name own_pn3) hisR ?_
  intro p e s m args below meth c s₁ Bd hml0 hP hK
  obtain ⟨rfl, hZ, hh⟩ := hP
  have hx := Bd.exec
  have hby := Bd.bytes
  have hml : c.maxLocals = 4 := hml0
  have hown : s.vm.findClass "com/example/tallyhold/tallyhold/ledger/ArrayInput" = some m.cls := findClass_of_methodNamed Bd.named
  have hnm := (name_of_methodNamed Bd.named Bd.method).1
  have X0 : Stand p l e ({ frames := 2, cells := 0, slots := 0, locals := 30 } : Room) s m #[(.ref o0), (.ref o1), (.int p2), (.int p3)] below meth c s₁ [] 0 0 := Stand.of_body Bd
  have e0 : s₁.heap = h0 := by rw [← hh, Bd.state]; rfl
  have N0 := Fr.nil n0
  suffices H : Run p.tables e below (FinR s ({ frames := 2, cells := 0, slots := 0, locals := 30 } : Room).cells ({ frames := 2, cells := 0, slots := 0, locals := 30 } : Room).slots (Say (fun v h L => v = none ∧ Fr n0 L ∧ Keep h0 h [o0] ∧ Exa Z h o0 "com/example/tallyhold/tallyhold/ledger/ArrayInput" ∧ Fld Z h o0 "com/example/tallyhold/tallyhold/ledger/ArrayInput" "bytes" "[B" (.ref o1) ∧ Fld Z h o0 "com/example/tallyhold/tallyhold/ledger/ArrayInput" "at" "I" (.int p2) ∧ Fld Z h o0 "com/example/tallyhold/tallyhold/ledger/ArrayInput" "end" "I" (.int (p2 + p3))))) s₁ (mkF m 0 #[.val (.ref o0), .val (.ref o1), .val (.int p2), .val (.int p3)] []) by
    obtain ⟨s₂, o, k1, k2, k3, k4⟩ := H
    exact ⟨s₂, o, castTop (own_ef4 m o0 o1 p2 p3) k1, k2, k3, k4⟩
  refine Run.aloadN (pc' := 1) X0 hx (hb hby own_d4_0) rfl rfl ?_
  obtain ⟨T1, L1, v1, X1, Q1, st1⟩ := callSpecial X0 hx (y := (⟨"java/io/InputStream", "<init>", "()V"⟩ : MethodName)) (a := o0) (Ls := #[.val (.ref o0), .val (.ref o1), .val (.int p2), .val (.int p3)]) (rest := []) (W := 0) (argsL := []) rfl hZ hown (hw _ (List.mem_of_getElem? (i := 8) rfl)) (hw _ (List.mem_of_getElem? (i := 9) rfl)) (hw _ (List.mem_of_getElem? (i := 11) rfl)) (hw _ (List.mem_of_getElem? (i := 12) rfl)) (by decide) e0 (rm1 l Z a0 hw [] o0  h0 n0 Z0 ) (hb hby own_d4_1) (lenOf own_pd1 rfl) (by decide) (by decide) (by rw [hml]; rfl) (Nat.le_of_eq rfl) (by decide) (by decide)
  obtain ⟨rfl, M1, e1⟩ := Q1
  have N1 := Fr.app N0 M1
  refine Run.back (g' := (mkF m 4 #[.val (.ref o0), .val (.ref o1), .val (.int p2), .val (.int p3)] [])) st1 ?_
  refine Run.iloadN (pc' := 5) X1 hx (hb hby own_d4_4) rfl rfl ?_
  refine Run.iloadN (pc' := 6) X1 hx (hb hby own_d4_5) rfl rfl ?_
  refine Run.aloadN (pc' := 7) X1 hx (hb hby own_d4_6) rfl rfl ?_
  refine Run.arraylength (pc' := 8) X1 hx hZ e1 A_t (hb hby own_d4_7) rfl ?_
  obtain ⟨T2, L2, v2, X2, Q2, st2⟩ := callStatic X1 hx (y := (⟨"java/util/Objects", "checkFromIndexSize", "(III)I"⟩ : MethodName)) (Ls := #[.val (.ref o0), .val (.ref o1), .val (.int p2), .val (.int p3)]) (rest := []) (W := 0) (argsL := [(.int p2), (.int p3), (.int (4 : Int32))]) hZ hown (hw _ (List.mem_of_getElem? (i := 16) rfl)) (hw _ (List.mem_of_getElem? (i := 17) rfl)) (hw _ (List.mem_of_getElem? (i := 18) rfl)) (hw _ (List.mem_of_getElem? (i := 19) rfl)) (by decide) e1 (rm3 l Z a0 hw [] p2 p3 (4 : Int32)  h0 n0 Z0 hk1 hk2) (hb hby own_d4_8) (lenOf own_pd2 rfl) (by decide) (by decide) (by rw [hml]; rfl) (Nat.le_of_eq rfl) (by decide) (by decide)
  obtain ⟨rfl, M2, e2⟩ := Q2
  have N2 := Fr.app N1 M2
  refine Run.back (g' := (mkF m 11 #[.val (.ref o0), .val (.ref o1), .val (.int p2), .val (.int p3)] [(.int (own_F3 p2 p3 (4 : Int32)))])) st2 ?_
  refine Run.pop (pc' := 12) X2 hx (hb hby own_d4_11) rfl rfl ?_
  refine Run.aloadN (pc' := 13) X2 hx (hb hby own_d4_12) rfl rfl ?_
  refine Run.aloadN (pc' := 14) X2 hx (hb hby own_d4_13) rfl rfl ?_
  obtain ⟨T3, h3, X3, e3, W3, st3⟩ := putF X2 hx hZ hown (host := "") (Or.inl (hw _ (List.mem_of_getElem? (i := 24) rfl))) Via.refl e2 F_bytes E_o (Or.inr ⟨(hw _ (List.mem_of_getElem? (i := 25) rfl)), rfl, hnm⟩) (hw _ (List.mem_of_getElem? (i := 3) rfl)) (ty := (.array .byte)) (by decide) rfl rfl (g := (mkF m 14 #[.val (.ref o0), .val (.ref o1), .val (.int p2), .val (.int p3)] [(.ref o1), (.ref o0)])) rfl rfl (hb hby own_d4_14)
  have N3 := Fr.snoc X3 N2 g_o
  have fq4 := Exa.wr W3 E_o
  have fq5 := Fld.same W3 F_bytes
  have fq6 := Fld.other W3 F_at (Or.inr (slot_ne (Or.inl (hw _ (List.mem_of_getElem? (i := 27) rfl))) (Or.inr (hw _ (List.mem_of_getElem? (i := 25) rfl))) (by decide) (t := .int) (t' := (.array .byte)) (by decide) (by decide)))
  have fq7 := Fld.other W3 F_end (Or.inr (slot_ne (Or.inr (hw _ (List.mem_of_getElem? (i := 29) rfl))) (Or.inr (hw _ (List.mem_of_getElem? (i := 25) rfl))) (by decide) (t := .int) (t' := (.array .byte)) (by decide) (by decide)))
  have fq8 := Ints.other W3 A_t ne_o
  have Z3 : n0 ≤ h3.size := Nat.le_trans Z0 (Keep.of_wr W3).1
  have K3 := (Keep.refl h0 [o0]).wr W3 (Or.inl (List.mem_of_getElem? (i := 0) rfl))
  refine Run.back (g' := (mkF m 17 #[.val (.ref o0), .val (.ref o1), .val (.int p2), .val (.int p3)] [])) st3 ?_
  refine Run.aloadN (pc' := 18) X3 hx (hb hby own_d4_17) rfl rfl ?_
  refine Run.iloadN (pc' := 19) X3 hx (hb hby own_d4_18) rfl rfl ?_
  obtain ⟨T9, h9, X9, e9, W9, st9⟩ := putF X3 hx hZ hown (host := "") (Or.inl (hw _ (List.mem_of_getElem? (i := 26) rfl))) Via.refl e3 fq6 fq4 (Or.inl (hw _ (List.mem_of_getElem? (i := 27) rfl))) (hw _ (List.mem_of_getElem? (i := 3) rfl)) (ty := .int) (by decide) rfl rfl (g := (mkF m 19 #[.val (.ref o0), .val (.ref o1), .val (.int p2), .val (.int p3)] [(.int p2), (.ref o0)])) rfl rfl (hb hby own_d4_19)
  have N9 := Fr.snoc X9 N3 g_o
  have fq10 := Exa.wr W9 fq4
  have fq11 := Fld.other W9 fq5 (Or.inr (slot_ne (Or.inr (hw _ (List.mem_of_getElem? (i := 25) rfl))) (Or.inl (hw _ (List.mem_of_getElem? (i := 27) rfl))) (by decide) (t := (.array .byte)) (t' := .int) (by decide) (by decide)))
  have fq12 := Fld.same W9 fq6
  have fq13 := Fld.other W9 fq7 (Or.inr (slot_ne (Or.inr (hw _ (List.mem_of_getElem? (i := 29) rfl))) (Or.inl (hw _ (List.mem_of_getElem? (i := 27) rfl))) (by decide) (t := .int) (t' := .int) (by decide) (by decide)))
  have fq14 := Ints.other W9 fq8 ne_o
  have Z9 : n0 ≤ h9.size := Nat.le_trans Z3 (Keep.of_wr W9).1
  have K9 := K3.wr W9 (Or.inl (List.mem_of_getElem? (i := 0) rfl))
  refine Run.back (g' := (mkF m 22 #[.val (.ref o0), .val (.ref o1), .val (.int p2), .val (.int p3)] [])) st9 ?_
  refine Run.aloadN (pc' := 23) X9 hx (hb hby own_d4_22) rfl rfl ?_
  refine Run.iloadN (pc' := 24) X9 hx (hb hby own_d4_23) rfl rfl ?_
  refine Run.iloadN (pc' := 25) X9 hx (hb hby own_d4_24) rfl rfl ?_
  refine Run.iadd (pc' := 26) X9 hx (hb hby own_d4_25) rfl ?_
  obtain ⟨T15, h15, X15, e15, W15, st15⟩ := putF X9 hx hZ hown (host := "") (Or.inl (hw _ (List.mem_of_getElem? (i := 28) rfl))) Via.refl e9 fq13 fq10 (Or.inr ⟨(hw _ (List.mem_of_getElem? (i := 29) rfl)), rfl, hnm⟩) (hw _ (List.mem_of_getElem? (i := 3) rfl)) (ty := .int) (by decide) rfl rfl (g := (mkF m 26 #[.val (.ref o0), .val (.ref o1), .val (.int p2), .val (.int p3)] [(.int (p2 + p3)), (.ref o0)])) rfl rfl (hb hby own_d4_26)
  have N15 := Fr.snoc X15 N9 g_o
  have fq16 := Exa.wr W15 fq10
  have fq17 := Fld.other W15 fq11 (Or.inr (slot_ne (Or.inr (hw _ (List.mem_of_getElem? (i := 25) rfl))) (Or.inr (hw _ (List.mem_of_getElem? (i := 29) rfl))) (by decide) (t := (.array .byte)) (t' := .int) (by decide) (by decide)))
  have fq18 := Fld.other W15 fq12 (Or.inr (slot_ne (Or.inl (hw _ (List.mem_of_getElem? (i := 27) rfl))) (Or.inr (hw _ (List.mem_of_getElem? (i := 29) rfl))) (by decide) (t := .int) (t' := .int) (by decide) (by decide)))
  have fq19 := Fld.same W15 fq13
  have fq20 := Ints.other W15 fq14 ne_o
  have Z15 : n0 ≤ h15.size := Nat.le_trans Z9 (Keep.of_wr W15).1
  have K15 := K9.wr W15 (Or.inl (List.mem_of_getElem? (i := 0) rfl))
  refine Run.back (g' := (mkF m 29 #[.val (.ref o0), .val (.ref o1), .val (.int p2), .val (.int p3)] [])) st15 ?_
  exact Run.retVoid X15 hx Bd.notSynchronized Bd.returns (hb hby own_d4_29) ⟨rfl, N15, by rw [e15]; exact K15, by rw [e15]; exact fq16, by rw [e15]; exact fq17, by rw [e15]; exact fq18, by rw [e15]; exact fq19⟩ (by decide) (by decide)
theorem own_d5_0 : decode prog_32_method_4_code 0 = .ok (.aload_n 0, 1) := by decide +kernel
theorem own_d5_1 : decode prog_32_method_4_code 1 = .ok (.getfield 22, 3) := by decide +kernel
theorem own_d5_4 : decode prog_32_method_4_code 4 = .ok (.aload_n 0, 1) := by decide +kernel
theorem own_d5_5 : decode prog_32_method_4_code 5 = .ok (.getfield 26, 3) := by decide +kernel
theorem own_d5_8 : decode prog_32_method_4_code 8 = .ok (.if_icmp .ge 26, 3) := by decide +kernel
theorem own_d5_11 : decode prog_32_method_4_code 11 = .ok (.aload_n 0, 1) := by decide +kernel
theorem own_d5_12 : decode prog_32_method_4_code 12 = .ok (.getfield 18, 3) := by decide +kernel
theorem own_d5_15 : decode prog_32_method_4_code 15 = .ok (.aload_n 0, 1) := by decide +kernel
theorem own_d5_16 : decode prog_32_method_4_code 16 = .ok (.dup, 1) := by decide +kernel
theorem own_d5_17 : decode prog_32_method_4_code 17 = .ok (.getfield 22, 3) := by decide +kernel
theorem own_d5_20 : decode prog_32_method_4_code 20 = .ok (.dup_x1, 1) := by decide +kernel
theorem own_d5_21 : decode prog_32_method_4_code 21 = .ok (.iconst 1, 1) := by decide +kernel
theorem own_d5_22 : decode prog_32_method_4_code 22 = .ok (.iadd, 1) := by decide +kernel
theorem own_d5_23 : decode prog_32_method_4_code 23 = .ok (.putfield 22, 3) := by decide +kernel
theorem own_d5_26 : decode prog_32_method_4_code 26 = .ok (.baload, 1) := by decide +kernel
theorem own_d5_27 : decode prog_32_method_4_code 27 = .ok (.sipush 255, 3) := by decide +kernel
theorem own_d5_30 : decode prog_32_method_4_code 30 = .ok (.iand, 1) := by decide +kernel
theorem own_d5_31 : decode prog_32_method_4_code 31 = .ok (.goto 4, 3) := by decide +kernel
theorem own_d5_34 : decode prog_32_method_4_code 34 = .ok (.iconst (-1), 1) := by decide +kernel
theorem own_d5_35 : decode prog_32_method_4_code 35 = .ok (.ireturn, 1) := by decide +kernel
theorem own_ef5 (m : MethodId) (x0 : Addr) : entryFrame m #[(.ref x0)] 1 = mkF m 0 #[.val (.ref x0)] [] := by first | (simp [entryFrame, mkF, argsToLocals, Value.category]; done) | rfl
set_option maxRecDepth 65536 in
set_option maxHeartbeats 40000000 in
theorem rm5 (l : Launch) (Z : State) (a0 : Array Value) (hw : ∀ d ∈ tables_1, d.before a0 Z = true) (ws : List Jvm.Cond) (o0 : Addr) (ta : Addr) (w : Int32) (z : Int32) (g : Int32 → Int32) (h0 : Heap) (n0 : Nat) (Z0 : n0 ≤ h0.size) (E_o : Exa Z h0 o0 "com/example/tallyhold/tallyhold/ledger/ArrayInput") (F_bytes : Fld Z h0 o0 "com/example/tallyhold/tallyhold/ledger/ArrayInput" "bytes" "[B" (.ref ta)) (F_at : Fld Z h0 o0 "com/example/tallyhold/tallyhold/ledger/ArrayInput" "at" "I" (.int w)) (F_end : Fld Z h0 o0 "com/example/tallyhold/tallyhold/ledger/ArrayInput" "end" "I" (.int z)) (g_o : n0 ≤ o0) (A_t : Ints Z h0 ta .byte (4 : Int32) g) (ne_o : ta ≠ o0) (hb0 : ¬ w < 0) (hb1 : w < z → w < (4 : Int32)) :
    MetFree l (⟨"com/example/tallyhold/tallyhold/ledger/ArrayInput", "read", "()I"⟩ : MethodName) (head1 (Jvm.Cond.code (⟨"com/example/tallyhold/tallyhold/ledger/ArrayInput", "read", "()I"⟩ : MethodName) prog_32_method_4_code 1 (some .int) :: ws) ({ frames := 0, cells := 0, slots := 0, locals := 0 } : Room)) (fun a U => a = #[(.ref o0)] ∧ Z.Warmed39 U.vm ∧ U.heap = h0) (fun _ _ _ _ _ => True) (fun _ U o U' => ∃ v L, o = .returned v ∧ (Say (fun v h L => v = some (.int (own_R w z g)) ∧ Fr n0 L ∧ Keep h0 h [o0] ∧ Exa Z h o0 "com/example/tallyhold/tallyhold/ledger/ArrayInput" ∧ Fld Z h o0 "com/example/tallyhold/tallyhold/ledger/ArrayInput" "bytes" "[B" (.ref ta) ∧ Fld Z h o0 "com/example/tallyhold/tallyhold/ledger/ArrayInput" "at" "I" (.int (own_N w z)) ∧ Fld Z h o0 "com/example/tallyhold/tallyhold/ledger/ArrayInput" "end" "I" (.int z))) v U'.heap L ∧ FrameEnd U o U' L ({ frames := 0, cells := 0, slots := 0, locals := 0 } : Room).cells ({ frames := 0, cells := 0, slots := 0, locals := 0 } : Room).slots) := by
  refine MetFree.of_bodySF (plainFor_of_name own_pn3) hisR ?_
  intro p e s m args below meth c s₁ Bd hml0 hP hK
  obtain ⟨rfl, hZ, hh⟩ := hP
  have hx := Bd.exec
  have hby := Bd.bytes
  have hml : c.maxLocals = 1 := hml0
  have hown : s.vm.findClass "com/example/tallyhold/tallyhold/ledger/ArrayInput" = some m.cls := findClass_of_methodNamed Bd.named
  have hnm := (name_of_methodNamed Bd.named Bd.method).1
  have X0 : Stand p l e ({ frames := 0, cells := 0, slots := 0, locals := 0 } : Room) s m #[(.ref o0)] below meth c s₁ [] 0 0 := Stand.of_body Bd
  have e0 : s₁.heap = h0 := by rw [← hh, Bd.state]; rfl
  have N0 := Fr.nil n0
  suffices H : Run p.tables e below (FinR s ({ frames := 0, cells := 0, slots := 0, locals := 0 } : Room).cells ({ frames := 0, cells := 0, slots := 0, locals := 0 } : Room).slots (Say (fun v h L => v = some (.int (own_R w z g)) ∧ Fr n0 L ∧ Keep h0 h [o0] ∧ Exa Z h o0 "com/example/tallyhold/tallyhold/ledger/ArrayInput" ∧ Fld Z h o0 "com/example/tallyhold/tallyhold/ledger/ArrayInput" "bytes" "[B" (.ref ta) ∧ Fld Z h o0 "com/example/tallyhold/tallyhold/ledger/ArrayInput" "at" "I" (.int (own_N w z)) ∧ Fld Z h o0 "com/example/tallyhold/tallyhold/ledger/ArrayInput" "end" "I" (.int z)))) s₁ (mkF m 0 #[.val (.ref o0)] []) by
    obtain ⟨s₂, o, k1, k2, k3, k4⟩ := H
    exact ⟨s₂, o, castTop (own_ef5 m o0) k1, k2, k3, k4⟩
  refine Run.aloadN (pc' := 1) X0 hx (hb hby own_d5_0) rfl rfl ?_
  obtain ⟨T1, X1, e1, st1⟩ := getF X0 hx hZ hown (host := "") (Or.inl (hw _ (List.mem_of_getElem? (i := 26) rfl))) Via.refl e0 F_at (g := (mkF m 1 #[.val (.ref o0)] [(.ref o0)])) rfl rfl (hb hby own_d5_1)
  refine Run.back (g' := (mkF m 4 #[.val (.ref o0)] [(.int w)])) st1 ?_
  refine Run.aloadN (pc' := 5) X1 hx (hb hby own_d5_4) rfl rfl ?_
  obtain ⟨T2, X2, e2, st2⟩ := getF X1 hx hZ hown (host := "") (Or.inl (hw _ (List.mem_of_getElem? (i := 28) rfl))) Via.refl e1 F_end (g := (mkF m 5 #[.val (.ref o0)] [(.ref o0), (.int w)])) rfl rfl (hb hby own_d5_5)
  refine Run.back (g' := (mkF m 8 #[.val (.ref o0)] [(.int z), (.int w)])) st2 ?_
  by_cases hc8 : w < z
  · skip
    refine Run.icmpNo (pc' := 11) X2 hx (hb hby own_d5_8) (tlt hc8).2.1 rfl ?_
    refine Run.aloadN (pc' := 12) X2 hx (hb hby own_d5_11) rfl rfl ?_
    obtain ⟨T3, X3, e3, st3⟩ := getF X2 hx hZ hown (host := "") (Or.inl (hw _ (List.mem_of_getElem? (i := 24) rfl))) Via.refl e2 F_bytes (g := (mkF m 12 #[.val (.ref o0)] [(.ref o0)])) rfl rfl (hb hby own_d5_12)
    refine Run.back (g' := (mkF m 15 #[.val (.ref o0)] [(.ref ta)])) st3 ?_
    refine Run.aloadN (pc' := 16) X3 hx (hb hby own_d5_15) rfl rfl ?_
    refine Run.dup (pc' := 17) X3 hx (hb hby own_d5_16) rfl rfl ?_
    obtain ⟨T4, X4, e4, st4⟩ := getF X3 hx hZ hown (host := "") (Or.inl (hw _ (List.mem_of_getElem? (i := 26) rfl))) Via.refl e3 F_at (g := (mkF m 17 #[.val (.ref o0)] [(.ref o0), (.ref o0), (.ref ta)])) rfl rfl (hb hby own_d5_17)
    refine Run.back (g' := (mkF m 20 #[.val (.ref o0)] [(.int w), (.ref o0), (.ref ta)])) st4 ?_
    refine Run.dupX1 (pc' := 21) X4 hx (hb hby own_d5_20) rfl rfl rfl ?_
    refine Run.iconst (pc' := 22) (v := (1 : Int32)) X4 hx (hb hby own_d5_21) rfl rfl ?_
    refine Run.iadd (pc' := 23) X4 hx (hb hby own_d5_22) rfl ?_
    obtain ⟨T5, h5, X5, e5, W5, st5⟩ := putF X4 hx hZ hown (host := "") (Or.inl (hw _ (List.mem_of_getElem? (i := 26) rfl))) Via.refl e4 F_at E_o (Or.inl (hw _ (List.mem_of_getElem? (i := 27) rfl))) (hw _ (List.mem_of_getElem? (i := 3) rfl)) (ty := .int) (by decide) rfl rfl (g := (mkF m 23 #[.val (.ref o0)] [(.int (w + (1 : Int32))), (.ref o0), (.int w), (.ref ta)])) rfl rfl (hb hby own_d5_23)
    have N5 := Fr.snoc X5 N0 g_o
    have fq6 := Exa.wr W5 E_o
    have fq7 := Fld.other W5 F_bytes (Or.inr (slot_ne (Or.inr (hw _ (List.mem_of_getElem? (i := 25) rfl))) (Or.inl (hw _ (List.mem_of_getElem? (i := 27) rfl))) (by decide) (t := (.array .byte)) (t' := .int) (by decide) (by decide)))
    have fq8 := Fld.same W5 F_at
    have fq9 := Fld.other W5 F_end (Or.inr (slot_ne (Or.inr (hw _ (List.mem_of_getElem? (i := 29) rfl))) (Or.inl (hw _ (List.mem_of_getElem? (i := 27) rfl))) (by decide) (t := .int) (t' := .int) (by decide) (by decide)))
    have fq10 := Ints.other W5 A_t ne_o
    have Z5 : n0 ≤ h5.size := Nat.le_trans Z0 (Keep.of_wr W5).1
    have K5 := (Keep.refl h0 [o0]).wr W5 (Or.inl (List.mem_of_getElem? (i := 0) rfl))
    refine Run.back (g' := (mkF m 26 #[.val (.ref o0)] [(.int w), (.ref ta)])) st5 ?_
    refine Run.baload (pc' := 27) X5 hx hZ e5 fq10 hb0 (hb1 hc8) (hb hby own_d5_26) rfl ?_
    refine Run.sipush (pc' := 30) (v := (255 : Int32)) X5 hx (hb hby own_d5_27) rfl rfl ?_
    refine Run.iand (pc' := 31) X5 hx (hb hby own_d5_30) rfl ?_
    refine Run.goto (pc' := 35) X5 hx (hb hby own_d5_31) (by decide) (by decide) ?_
    exact Run.retInt X5 hx Bd.notSynchronized Bd.returns (hb hby own_d5_35) ⟨by rw [own_R, if_pos hc8], N5, by rw [e5]; exact K5, by rw [e5]; exact fq6, by rw [e5]; exact fq7, by rw [e5]; exact (by rw [own_N, if_pos hc8]; exact fq8), by rw [e5]; exact fq9⟩ (by decide) (by decide)
  · skip
    refine Run.icmpYes (pc' := 34) X2 hx (hb hby own_d5_8) (flt hc8).2.1 (by decide) (by decide) ?_
    refine Run.iconst (pc' := 35) (v := (-1 : Int32)) X2 hx (hb hby own_d5_34) rfl rfl ?_
    exact Run.retInt X2 hx Bd.notSynchronized Bd.returns (hb hby own_d5_35) ⟨by rw [own_R, if_neg hc8], N0, by rw [e2]; exact (Keep.refl h0 [o0]), by rw [e2]; exact E_o, by rw [e2]; exact F_bytes, by rw [e2]; exact (by rw [own_N, if_neg hc8]; exact F_at), by rw [e2]; exact F_end⟩ (by decide) (by decide)
def own_F6 (o0 : Addr) (w : Int32) : Int32 := w
theorem own_d6_0 : decode prog_32_method_3_code 0 = .ok (.aload_n 0, 1) := by decide +kernel
theorem own_d6_1 : decode prog_32_method_3_code 1 = .ok (.getfield 22, 3) := by decide +kernel
theorem own_d6_4 : decode prog_32_method_3_code 4 = .ok (.ireturn, 1) := by decide +kernel
theorem own_ef6 (m : MethodId) (x0 : Addr) : entryFrame m #[(.ref x0)] 1 = mkF m 0 #[.val (.ref x0)] [] := by first | (simp [entryFrame, mkF, argsToLocals, Value.category]; done) | rfl
set_option maxRecDepth 65536 in
set_option maxHeartbeats 40000000 in
theorem rm6 (l : Launch) (Z : State) (a0 : Array Value) (hw : ∀ d ∈ tables_1, d.before a0 Z = true) (ws : List Jvm.Cond) (o0 : Addr) (w : Int32) (h0 : Heap) (n0 : Nat) (Z0 : n0 ≤ h0.size) (F_a : Fld Z h0 o0 "com/example/tallyhold/tallyhold/ledger/ArrayInput" "at" "I" (.int w)) :
    MetFree l (⟨"com/example/tallyhold/tallyhold/ledger/ArrayInput", "position", "()I"⟩ : MethodName) (head1 (Jvm.Cond.code (⟨"com/example/tallyhold/tallyhold/ledger/ArrayInput", "position", "()I"⟩ : MethodName) prog_32_method_3_code 1 (some .int) :: ws) ({ frames := 0, cells := 0, slots := 0, locals := 0 } : Room)) (fun a U => a = #[(.ref o0)] ∧ Z.Warmed39 U.vm ∧ U.heap = h0) (fun _ _ _ _ _ => True) (fun _ U o U' => ∃ v L, o = .returned v ∧ (QPure n0 h0 (.int (own_F6 o0 w))) v U'.heap L ∧ FrameEnd U o U' L ({ frames := 0, cells := 0, slots := 0, locals := 0 } : Room).cells ({ frames := 0, cells := 0, slots := 0, locals := 0 } : Room).slots) := by
  refine MetFree.of_bodySF (plainFor_of_name own_pn3) hisR ?_
  intro p e s m args below meth c s₁ Bd hml0 hP hK
  obtain ⟨rfl, hZ, hh⟩ := hP
  have hx := Bd.exec
  have hby := Bd.bytes
  have hml : c.maxLocals = 1 := hml0
  have hown : s.vm.findClass "com/example/tallyhold/tallyhold/ledger/ArrayInput" = some m.cls := findClass_of_methodNamed Bd.named
  have hnm := (name_of_methodNamed Bd.named Bd.method).1
  have X0 : Stand p l e ({ frames := 0, cells := 0, slots := 0, locals := 0 } : Room) s m #[(.ref o0)] below meth c s₁ [] 0 0 := Stand.of_body Bd
  have e0 : s₁.heap = h0 := by rw [← hh, Bd.state]; rfl
  have N0 := Fr.nil n0
  suffices H : Run p.tables e below (FinR s ({ frames := 0, cells := 0, slots := 0, locals := 0 } : Room).cells ({ frames := 0, cells := 0, slots := 0, locals := 0 } : Room).slots (QPure n0 h0 (.int (own_F6 o0 w)))) s₁ (mkF m 0 #[.val (.ref o0)] []) by
    obtain ⟨s₂, o, k1, k2, k3, k4⟩ := H
    exact ⟨s₂, o, castTop (own_ef6 m o0) k1, k2, k3, k4⟩
  obtain ⟨r, hr⟩ : ∃ r, r = own_F6 o0 w := ⟨_, rfl⟩
  rw [← hr]
  rw [own_F6] at hr
  refine Run.aloadN (pc' := 1) X0 hx (hb hby own_d6_0) rfl rfl ?_
  obtain ⟨T1, X1, e1, st1⟩ := getF X0 hx hZ hown (host := "") (Or.inl (hw _ (List.mem_of_getElem? (i := 26) rfl))) Via.refl e0 F_a (g := (mkF m 1 #[.val (.ref o0)] [(.ref o0)])) rfl rfl (hb hby own_d6_1)
  refine Run.back (g' := (mkF m 4 #[.val (.ref o0)] [(.int w)])) st1 ?_
  exact Run.retInt X1 hx Bd.notSynchronized Bd.returns (hb hby own_d6_4) ⟨by rw [hr], N0, e1⟩ (by decide) (by decide)
def own_F7 (o0 : Addr) (w : Int32) (z : Int32) : Int32 := (z - w)
theorem own_d7_0 : decode prog_32_method_7_code 0 = .ok (.aload_n 0, 1) := by decide +kernel
theorem own_d7_1 : decode prog_32_method_7_code 1 = .ok (.getfield 26, 3) := by decide +kernel
theorem own_d7_4 : decode prog_32_method_7_code 4 = .ok (.aload_n 0, 1) := by decide +kernel
theorem own_d7_5 : decode prog_32_method_7_code 5 = .ok (.getfield 22, 3) := by decide +kernel
theorem own_d7_8 : decode prog_32_method_7_code 8 = .ok (.isub, 1) := by decide +kernel
theorem own_d7_9 : decode prog_32_method_7_code 9 = .ok (.ireturn, 1) := by decide +kernel
theorem own_ef7 (m : MethodId) (x0 : Addr) : entryFrame m #[(.ref x0)] 1 = mkF m 0 #[.val (.ref x0)] [] := by first | (simp [entryFrame, mkF, argsToLocals, Value.category]; done) | rfl
set_option maxRecDepth 65536 in
set_option maxHeartbeats 40000000 in
theorem rm7 (l : Launch) (Z : State) (a0 : Array Value) (hw : ∀ d ∈ tables_1, d.before a0 Z = true) (ws : List Jvm.Cond) (o0 : Addr) (w : Int32) (z : Int32) (h0 : Heap) (n0 : Nat) (Z0 : n0 ≤ h0.size) (F_a : Fld Z h0 o0 "com/example/tallyhold/tallyhold/ledger/ArrayInput" "at" "I" (.int w)) (F_e : Fld Z h0 o0 "com/example/tallyhold/tallyhold/ledger/ArrayInput" "end" "I" (.int z)) :
    MetFree l (⟨"com/example/tallyhold/tallyhold/ledger/ArrayInput", "available", "()I"⟩ : MethodName) (head1 (Jvm.Cond.code (⟨"com/example/tallyhold/tallyhold/ledger/ArrayInput", "available", "()I"⟩ : MethodName) prog_32_method_7_code 1 (some .int) :: ws) ({ frames := 0, cells := 0, slots := 0, locals := 0 } : Room)) (fun a U => a = #[(.ref o0)] ∧ Z.Warmed39 U.vm ∧ U.heap = h0) (fun _ _ _ _ _ => True) (fun _ U o U' => ∃ v L, o = .returned v ∧ (QPure n0 h0 (.int (own_F7 o0 w z))) v U'.heap L ∧ FrameEnd U o U' L ({ frames := 0, cells := 0, slots := 0, locals := 0 } : Room).cells ({ frames := 0, cells := 0, slots := 0, locals := 0 } : Room).slots) := by
  refine MetFree.of_bodySF (plainFor_of_name own_pn3) hisR ?_
  intro p e s m args below meth c s₁ Bd hml0 hP hK
  obtain ⟨rfl, hZ, hh⟩ := hP
  have hx := Bd.exec
  have hby := Bd.bytes
  have hml : c.maxLocals = 1 := hml0
  have hown : s.vm.findClass "com/example/tallyhold/tallyhold/ledger/ArrayInput" = some m.cls := findClass_of_methodNamed Bd.named
  have hnm := (name_of_methodNamed Bd.named Bd.method).1
  have X0 : Stand p l e ({ frames := 0, cells := 0, slots := 0, locals := 0 } : Room) s m #[(.ref o0)] below meth c s₁ [] 0 0 := Stand.of_body Bd
  have e0 : s₁.heap = h0 := by rw [← hh, Bd.state]; rfl
  have N0 := Fr.nil n0
  suffices H : Run p.tables e below (FinR s ({ frames := 0, cells := 0, slots := 0, locals := 0 } : Room).cells ({ frames := 0, cells := 0, slots := 0, locals := 0 } : Room).slots (QPure n0 h0 (.int (own_F7 o0 w z)))) s₁ (mkF m 0 #[.val (.ref o0)] []) by
    obtain ⟨s₂, o, k1, k2, k3, k4⟩ := H
    exact ⟨s₂, o, castTop (own_ef7 m o0) k1, k2, k3, k4⟩
  obtain ⟨r, hr⟩ : ∃ r, r = own_F7 o0 w z := ⟨_, rfl⟩
  rw [← hr]
  rw [own_F7] at hr
  refine Run.aloadN (pc' := 1) X0 hx (hb hby own_d7_0) rfl rfl ?_
  obtain ⟨T1, X1, e1, st1⟩ := getF X0 hx hZ hown (host := "") (Or.inl (hw _ (List.mem_of_getElem? (i := 28) rfl))) Via.refl e0 F_e (g := (mkF m 1 #[.val (.ref o0)] [(.ref o0)])) rfl rfl (hb hby own_d7_1)
  refine Run.back (g' := (mkF m 4 #[.val (.ref o0)] [(.int z)])) st1 ?_
  refine Run.aloadN (pc' := 5) X1 hx (hb hby own_d7_4) rfl rfl ?_
  obtain ⟨T2, X2, e2, st2⟩ := getF X1 hx hZ hown (host := "") (Or.inl (hw _ (List.mem_of_getElem? (i := 26) rfl))) Via.refl e1 F_a (g := (mkF m 5 #[.val (.ref o0)] [(.ref o0), (.int z)])) rfl rfl (hb hby own_d7_5)
  refine Run.back (g' := (mkF m 8 #[.val (.ref o0)] [(.int w), (.int z)])) st2 ?_
  refine Run.isub (pc' := 9) X2 hx (hb hby own_d7_8) rfl ?_
  exact Run.retInt X2 hx Bd.notSynchronized Bd.returns (hb hby own_d7_9) ⟨by rw [hr], N0, e2⟩ (by decide) (by decide)
def own_F8 (p0 : Int32) (p1 : Int32) (p2 : Int32) (p3 : Int32) : Int32 := (if p3 < p2 then (((p0.toUInt32 >>> (((8 : Int32) * (p1 + p3)) &&& 31).toUInt32).toInt32) &&& (255 : Int32)) else (-1 : Int32))
theorem own_d8_0 : decode method_2_code 0 = .ok (.iload_n 3, 1) := by decide +kernel
theorem own_d8_1 : decode method_2_code 1 = .ok (.iload_n 2, 1) := by decide +kernel
theorem own_d8_2 : decode method_2_code 2 = .ok (.if_icmp .ge 16, 3) := by decide +kernel
theorem own_d8_5 : decode method_2_code 5 = .ok (.iload_n 0, 1) := by decide +kernel
theorem own_d8_6 : decode method_2_code 6 = .ok (.bipush 8, 2) := by decide +kernel
theorem own_d8_8 : decode method_2_code 8 = .ok (.iload_n 1, 1) := by decide +kernel
theorem own_d8_9 : decode method_2_code 9 = .ok (.iload_n 3, 1) := by decide +kernel
theorem own_d8_10 : decode method_2_code 10 = .ok (.iadd, 1) := by decide +kernel
theorem own_d8_11 : decode method_2_code 11 = .ok (.imul, 1) := by decide +kernel
theorem own_d8_12 : decode method_2_code 12 = .ok (.iushr, 1) := by decide +kernel
theorem own_d8_13 : decode method_2_code 13 = .ok (.sipush 255, 3) := by decide +kernel
theorem own_d8_16 : decode method_2_code 16 = .ok (.iand, 1) := by decide +kernel
theorem own_d8_17 : decode method_2_code 17 = .ok (.ireturn, 1) := by decide +kernel
theorem own_d8_18 : decode method_2_code 18 = .ok (.iconst (-1), 1) := by decide +kernel
theorem own_d8_19 : decode method_2_code 19 = .ok (.ireturn, 1) := by decide +kernel
theorem own_ef8 (m : MethodId) (x0 : Int32) (x1 : Int32) (x2 : Int32) (x3 : Int32) : entryFrame m #[(.int x0), (.int x1), (.int x2), (.int x3)] 4 = mkF m 0 #[.val (.int x0), .val (.int x1), .val (.int x2), .val (.int x3)] [] := by first | (simp [entryFrame, mkF, argsToLocals, Value.category]; done) | rfl
set_option maxRecDepth 65536 in
set_option maxHeartbeats 40000000 in
theorem rm8 (l : Launch) (Z : State) (a0 : Array Value) (hw : ∀ d ∈ tables_1, d.before a0 Z = true) (ws : List Jvm.Cond) (p0 : Int32) (p1 : Int32) (p2 : Int32) (p3 : Int32) (h0 : Heap) (n0 : Nat) (Z0 : n0 ≤ h0.size) :
    MetFree l (⟨"com/example/tallyhold/tallyhold/ledger/ArrayInputReadPinLaw", "expected", "(IIII)I"⟩ : MethodName) (head1 (Jvm.Cond.code (⟨"com/example/tallyhold/tallyhold/ledger/ArrayInputReadPinLaw", "expected", "(IIII)I"⟩ : MethodName) method_2_code 4 (some .int) :: ws) ({ frames := 0, cells := 0, slots := 0, locals := 0 } : Room)) (fun a U => a = #[(.int p0), (.int p1), (.int p2), (.int p3)] ∧ Z.Warmed39 U.vm ∧ U.heap = h0) (fun _ _ _ _ _ => True) (fun _ U o U' => ∃ v L, o = .returned v ∧ (QPure n0 h0 (.int (own_F8 p0 p1 p2 p3))) v U'.heap L ∧ FrameEnd U o U' L ({ frames := 0, cells := 0, slots := 0, locals := 0 } : Room).cells ({ frames := 0, cells := 0, slots := 0, locals := 0 } : Room).slots) := by
  refine MetFree.of_bodySF (plainFor_of_name own_pn4) hisR ?_
  intro p e s m args below meth c s₁ Bd hml0 hP hK
  obtain ⟨rfl, hZ, hh⟩ := hP
  have hx := Bd.exec
  have hby := Bd.bytes
  have hml : c.maxLocals = 4 := hml0
  have hown : s.vm.findClass "com/example/tallyhold/tallyhold/ledger/ArrayInputReadPinLaw" = some m.cls := findClass_of_methodNamed Bd.named
  have hnm := (name_of_methodNamed Bd.named Bd.method).1
  have X0 : Stand p l e ({ frames := 0, cells := 0, slots := 0, locals := 0 } : Room) s m #[(.int p0), (.int p1), (.int p2), (.int p3)] below meth c s₁ [] 0 0 := Stand.of_body Bd
  have e0 : s₁.heap = h0 := by rw [← hh, Bd.state]; rfl
  have N0 := Fr.nil n0
  suffices H : Run p.tables e below (FinR s ({ frames := 0, cells := 0, slots := 0, locals := 0 } : Room).cells ({ frames := 0, cells := 0, slots := 0, locals := 0 } : Room).slots (QPure n0 h0 (.int (own_F8 p0 p1 p2 p3)))) s₁ (mkF m 0 #[.val (.int p0), .val (.int p1), .val (.int p2), .val (.int p3)] []) by
    obtain ⟨s₂, o, k1, k2, k3, k4⟩ := H
    exact ⟨s₂, o, castTop (own_ef8 m p0 p1 p2 p3) k1, k2, k3, k4⟩
  obtain ⟨r, hr⟩ : ∃ r, r = own_F8 p0 p1 p2 p3 := ⟨_, rfl⟩
  rw [← hr]
  rw [own_F8] at hr
  refine Run.iloadN (pc' := 1) X0 hx (hb hby own_d8_0) rfl rfl ?_
  refine Run.iloadN (pc' := 2) X0 hx (hb hby own_d8_1) rfl rfl ?_
  by_cases hc2 : p3 < p2
  · rw [if_pos hc2] at hr
    refine Run.icmpNo (pc' := 5) X0 hx (hb hby own_d8_2) (tlt hc2).2.1 rfl ?_
    refine Run.iloadN (pc' := 6) X0 hx (hb hby own_d8_5) rfl rfl ?_
    refine Run.bipush (pc' := 8) (v := (8 : Int32)) X0 hx (hb hby own_d8_6) rfl rfl ?_
    refine Run.iloadN (pc' := 9) X0 hx (hb hby own_d8_8) rfl rfl ?_
    refine Run.iloadN (pc' := 10) X0 hx (hb hby own_d8_9) rfl rfl ?_
    refine Run.iadd (pc' := 11) X0 hx (hb hby own_d8_10) rfl ?_
    refine Run.imul (pc' := 12) X0 hx (hb hby own_d8_11) rfl ?_
    refine Run.iushr (pc' := 13) X0 hx (hb hby own_d8_12) rfl ?_
    refine Run.sipush (pc' := 16) (v := (255 : Int32)) X0 hx (hb hby own_d8_13) rfl rfl ?_
    refine Run.iand (pc' := 17) X0 hx (hb hby own_d8_16) rfl ?_
    exact Run.retInt X0 hx Bd.notSynchronized Bd.returns (hb hby own_d8_17) ⟨by rw [hr], N0, e0⟩ (by decide) (by decide)
  · rw [if_neg hc2] at hr
    refine Run.icmpYes (pc' := 18) X0 hx (hb hby own_d8_2) (flt hc2).2.1 (by decide) (by decide) ?_
    refine Run.iconst (pc' := 19) (v := (-1 : Int32)) X0 hx (hb hby own_d8_18) rfl rfl ?_
    exact Run.retInt X0 hx Bd.notSynchronized Bd.returns (hb hby own_d8_19) ⟨by rw [hr], N0, e0⟩ (by decide) (by decide)
def own_dummy : Nat := 0
theorem own_o (p1 : Int32) : ((p1 &&& (2147483647 : Int32)) % (5 : Int32)) = 0 ∨ ((p1 &&& (2147483647 : Int32)) % (5 : Int32)) = 1 ∨ ((p1 &&& (2147483647 : Int32)) % (5 : Int32)) = 2 ∨ ((p1 &&& (2147483647 : Int32)) % (5 : Int32)) = 3 ∨ ((p1 &&& (2147483647 : Int32)) % (5 : Int32)) = 4 := by
  have h1 := c_and p1 2147483647 (by decide)
  have h2 := (c_irem (p1 &&& 2147483647) 5 5 (by decide)).1 h1.1
  simp only [← Int32.toInt_inj]
  have e0 : (0 : Int32).toInt = 0 := rfl
  have e1 : (1 : Int32).toInt = 1 := rfl
  have e2 : (2 : Int32).toInt = 2 := rfl
  have e3 : (3 : Int32).toInt = 3 := rfl
  have e4 : (4 : Int32).toInt = 4 := rfl
  have e5 : (5 : Int32).toInt = 5 := rfl
  omega
theorem own_l0 (p2 : Int32) : ((p2 &&& (2147483647 : Int32)) % ((5 : Int32) - (0 : Int32))) = 0 ∨ ((p2 &&& (2147483647 : Int32)) % ((5 : Int32) - (0 : Int32))) = 1 ∨ ((p2 &&& (2147483647 : Int32)) % ((5 : Int32) - (0 : Int32))) = 2 ∨ ((p2 &&& (2147483647 : Int32)) % ((5 : Int32) - (0 : Int32))) = 3 ∨ ((p2 &&& (2147483647 : Int32)) % ((5 : Int32) - (0 : Int32))) = 4 := by
  have h1 := c_and p2 2147483647 (by decide)
  have h2 := (c_irem (p2 &&& 2147483647) ((5 : Int32) - (0 : Int32)) 5 (by decide)).1 h1.1
  simp only [← Int32.toInt_inj]
  have e0 : (0 : Int32).toInt = 0 := rfl
  have e1 : (1 : Int32).toInt = 1 := rfl
  have e2 : (2 : Int32).toInt = 2 := rfl
  have e3 : (3 : Int32).toInt = 3 := rfl
  have e4 : (4 : Int32).toInt = 4 := rfl
  have e5 : (5 : Int32).toInt = 5 := rfl
  omega
theorem own_l1 (p2 : Int32) : ((p2 &&& (2147483647 : Int32)) % ((5 : Int32) - (1 : Int32))) = 0 ∨ ((p2 &&& (2147483647 : Int32)) % ((5 : Int32) - (1 : Int32))) = 1 ∨ ((p2 &&& (2147483647 : Int32)) % ((5 : Int32) - (1 : Int32))) = 2 ∨ ((p2 &&& (2147483647 : Int32)) % ((5 : Int32) - (1 : Int32))) = 3 := by
  have h1 := c_and p2 2147483647 (by decide)
  have h2 := (c_irem (p2 &&& 2147483647) ((5 : Int32) - (1 : Int32)) 4 (by decide)).1 h1.1
  simp only [← Int32.toInt_inj]
  have e0 : (0 : Int32).toInt = 0 := rfl
  have e1 : (1 : Int32).toInt = 1 := rfl
  have e2 : (2 : Int32).toInt = 2 := rfl
  have e3 : (3 : Int32).toInt = 3 := rfl
  have e4 : (4 : Int32).toInt = 4 := rfl
  have e5 : (5 : Int32).toInt = 5 := rfl
  omega
theorem own_l2 (p2 : Int32) : ((p2 &&& (2147483647 : Int32)) % ((5 : Int32) - (2 : Int32))) = 0 ∨ ((p2 &&& (2147483647 : Int32)) % ((5 : Int32) - (2 : Int32))) = 1 ∨ ((p2 &&& (2147483647 : Int32)) % ((5 : Int32) - (2 : Int32))) = 2 := by
  have h1 := c_and p2 2147483647 (by decide)
  have h2 := (c_irem (p2 &&& 2147483647) ((5 : Int32) - (2 : Int32)) 3 (by decide)).1 h1.1
  simp only [← Int32.toInt_inj]
  have e0 : (0 : Int32).toInt = 0 := rfl
  have e1 : (1 : Int32).toInt = 1 := rfl
  have e2 : (2 : Int32).toInt = 2 := rfl
  have e3 : (3 : Int32).toInt = 3 := rfl
  have e4 : (4 : Int32).toInt = 4 := rfl
  have e5 : (5 : Int32).toInt = 5 := rfl
  omega
theorem own_l3 (p2 : Int32) : ((p2 &&& (2147483647 : Int32)) % ((5 : Int32) - (3 : Int32))) = 0 ∨ ((p2 &&& (2147483647 : Int32)) % ((5 : Int32) - (3 : Int32))) = 1 := by
  have h1 := c_and p2 2147483647 (by decide)
  have h2 := (c_irem (p2 &&& 2147483647) ((5 : Int32) - (3 : Int32)) 2 (by decide)).1 h1.1
  simp only [← Int32.toInt_inj]
  have e0 : (0 : Int32).toInt = 0 := rfl
  have e1 : (1 : Int32).toInt = 1 := rfl
  have e2 : (2 : Int32).toInt = 2 := rfl
  have e3 : (3 : Int32).toInt = 3 := rfl
  have e4 : (4 : Int32).toInt = 4 := rfl
  have e5 : (5 : Int32).toInt = 5 := rfl
  omega
theorem own_l4 (p2 : Int32) : ((p2 &&& (2147483647 : Int32)) % ((5 : Int32) - (4 : Int32))) = 0 := by
  have h1 := c_and p2 2147483647 (by decide)
  have h2 := (c_irem (p2 &&& 2147483647) ((5 : Int32) - (4 : Int32)) 1 (by decide)).1 h1.1
  simp only [← Int32.toInt_inj]
  have e0 : (0 : Int32).toInt = 0 := rfl
  have e1 : (1 : Int32).toInt = 1 := rfl
  have e2 : (2 : Int32).toInt = 2 := rfl
  have e3 : (3 : Int32).toInt = 3 := rfl
  have e4 : (4 : Int32).toInt = 4 := rfl
  have e5 : (5 : Int32).toInt = 5 := rfl
  omega
theorem own_by (x : Int32) : (x.toInt8.toInt32.toInt8.toInt32 &&& (255 : Int32)) = (x &&& (255 : Int32)) := by
  have h1 := c_i2b x
  have h2 := c_i2b x.toInt8.toInt32
  have m1 := c_mask x 255 8 (by decide) (by decide)
  have m2 := c_mask x.toInt8.toInt32.toInt8.toInt32 255 8 (by decide) (by decide)
  apply Int32.toInt_inj.mp
  rw [m1, m2]
  omega
theorem own_b0 {a v : Int32} (h : v = a.toInt8.toInt32.toInt8.toInt32) : (v &&& (255 : Int32)) = (((a.toUInt32 >>> ((0 : Int32) &&& 31).toUInt32).toInt32) &&& (255 : Int32)) := by
  have e : ((a.toUInt32 >>> ((0 : Int32) &&& 31).toUInt32).toInt32) = a := by
    have : ((0 : Int32) &&& 31).toUInt32 = 0 := by decide
    rw [this]; simp
  rw [e, h]; exact own_by a
theorem own_b1 {a v : Int32} (h : v = ((a.toUInt32 >>> ((8 : Int32) &&& 31).toUInt32).toInt32).toInt8.toInt32.toInt8.toInt32) : (v &&& (255 : Int32)) = (((a.toUInt32 >>> ((8 : Int32) &&& 31).toUInt32).toInt32) &&& (255 : Int32)) := by
  rw [h]; exact own_by _
theorem own_b2 {a v : Int32} (h : v = ((a.toUInt32 >>> ((16 : Int32) &&& 31).toUInt32).toInt32).toInt8.toInt32.toInt8.toInt32) : (v &&& (255 : Int32)) = (((a.toUInt32 >>> ((16 : Int32) &&& 31).toUInt32).toInt32) &&& (255 : Int32)) := by
  rw [h]; exact own_by _
theorem own_b3 {a v : Int32} (h : v = ((a.toUInt32 >>> ((24 : Int32) &&& 31).toUInt32).toInt32).toInt8.toInt32.toInt8.toInt32) : (v &&& (255 : Int32)) = (((a.toUInt32 >>> ((24 : Int32) &&& 31).toUInt32).toInt32) &&& (255 : Int32)) := by
  rw [h]; exact own_by _

theorem own_ef0 (m : MethodId) (x0 : Int32) (x1 : Int32) (x2 : Int32) : entryFrame m #[(.int x0), (.int x1), (.int x2)] maxLocals = mkF m 0 #[.val (.int x0), .val (.int x1), .val (.int x2), .unset, .unset, .unset, .unset, .unset, .unset, .unset, .unset, .unset, .unset, .unset] [] := by first | (simp [entryFrame, mkF, argsToLocals, Value.category, maxLocals]; done) | rfl
set_option maxRecDepth 65536 in
set_option maxHeartbeats 40000000 in
theorem rm0 (l : Launch) (Z : State) (a0 : Array Value) (hw : ∀ d ∈ tables_1, d.before a0 Z = true) (ws : List Jvm.Cond) (p0 : Int32) (p1 : Int32) (p2 : Int32) (h0 : Heap) (n0 : Nat) (Z0 : n0 ≤ h0.size) :
    MetFree l x (head1 (Jvm.Cond.code x code maxLocals ret :: ws) room_1) (fun a U => a = #[(.int p0), (.int p1), (.int p2)] ∧ Z.Warmed39 U.vm ∧ U.heap = h0) (fun _ _ _ _ _ => True) (fun _ U o U' => ∃ v L, o = .returned v ∧ (Say (fun v h L => v = some (.int 1) ∧ Fr n0 L)) v U'.heap L ∧ FrameEnd U o U' L room_1.cells room_1.slots) := by
  refine MetFree.of_bodySF (plainFor_of_name own_pn4) hisR ?_
  intro p e s m args below meth c s₁ Bd hml0 hP hK
  obtain ⟨rfl, hZ, hh⟩ := hP
  have hx := Bd.exec
  have hby := Bd.bytes
  have hml : c.maxLocals = 14 := hml0
  have hown : s.vm.findClass "com/example/tallyhold/tallyhold/ledger/ArrayInputReadPinLaw" = some m.cls := findClass_of_methodNamed Bd.named
  have hnm := (name_of_methodNamed Bd.named Bd.method).1
  have X0 : Stand p l e room_1 s m #[(.int p0), (.int p1), (.int p2)] below meth c s₁ [] 0 0 := Stand.of_body Bd
  have e0 : s₁.heap = h0 := by rw [← hh, Bd.state]; rfl
  have N0 := Fr.nil n0
  suffices H : Run p.tables e below (FinR s room_1.cells room_1.slots (Say (fun v h L => v = some (.int 1) ∧ Fr n0 L))) s₁ (mkF m 0 #[.val (.int p0), .val (.int p1), .val (.int p2), .unset, .unset, .unset, .unset, .unset, .unset, .unset, .unset, .unset, .unset, .unset] []) by
    obtain ⟨s₂, o, k1, k2, k3, k4⟩ := H
    exact ⟨s₂, o, castTop (own_ef0 m p0 p1 p2) k1, k2, k3, k4⟩
  refine Run.iconst (pc' := 1) (v := (4 : Int32)) X0 hx (hb hby at_0) rfl rfl ?_
  obtain ⟨T1, h1, b1, X1, e1, E1, g1, A1, st1⟩ := st_newarray X0 hx hZ (hw _ (List.mem_of_getElem? (i := 0) rfl)) e0 (hb hby at_1) (Ls := #[.val (.int p0), .val (.int p1), .val (.int p2), .unset, .unset, .unset, .unset, .unset, .unset, .unset, .unset, .unset, .unset, .unset]) (rest := []) (n := (4 : Int32)) (by decide) (cap := 4) (by decide) (by decide) (by decide) (by decide) rfl
  replace A1 : Ints Z h1 b1 .byte (4 : Int32) (fun _ => 0) := A1
  have G1 : n0 ≤ b1 := Nat.le_trans Z0 (Nat.le_of_eq g1.symm)
  have Z1 : n0 ≤ h1.size := Nat.le_trans Z0 E1.1
  refine Run.back (g' := (mkF m 3 #[.val (.int p0), .val (.int p1), .val (.int p2), .unset, .unset, .unset, .unset, .unset, .unset, .unset, .unset, .unset, .unset, .unset] [(.ref b1)])) st1 ?_
  refine Run.astoreN (pc' := 4) X1 hx (l' := #[.val (.int p0), .val (.int p1), .val (.int p2), .val (.ref b1), .unset, .unset, .unset, .unset, .unset, .unset, .unset, .unset, .unset, .unset]) (hb hby at_3) rfl rfl ?_
  refine Run.aloadN (pc' := 5) X1 hx (hb hby at_4) rfl rfl ?_
  refine Run.iconst (pc' := 6) (v := (0 : Int32)) X1 hx (hb hby at_5) rfl rfl ?_
  refine Run.iloadN (pc' := 7) X1 hx (hb hby at_6) rfl rfl ?_
  refine Run.i2b (pc' := 8) X1 hx (hb hby at_7) rfl ?_
  obtain ⟨T2, h2, sl2, u2, X2, e2, W2, A2, st2⟩ := st_bastore X1 hx hZ e1 A1 (Ls := #[.val (.int p0), .val (.int p1), .val (.int p2), .val (.ref b1), .unset, .unset, .unset, .unset, .unset, .unset, .unset, .unset, .unset, .unset]) (rest := []) (j := (0 : Int32)) (x := (p0.toInt8.toInt32)) (by decide) (by decide) (hb hby at_8)
  have N2 := Fr.snoc X2 N0 G1
  obtain ⟨f3, qf3⟩ : ∃ g : Int32 → Int32, g = fun i => if i = (0 : Int32) then (p0.toInt8.toInt32).toInt8.toInt32 else (fun _ => (0 : Int32)) i := ⟨_, rfl⟩
  replace A2 : Ints Z h2 b1 .byte (4 : Int32) f3 := by rw [qf3]; exact A2
  have Z2 : n0 ≤ h2.size := Nat.le_trans Z1 (Keep.of_wr W2).1
  refine Run.back (g' := (mkF m 9 #[.val (.int p0), .val (.int p1), .val (.int p2), .val (.ref b1), .unset, .unset, .unset, .unset, .unset, .unset, .unset, .unset, .unset, .unset] [])) st2 ?_
  refine Run.aloadN (pc' := 10) X2 hx (hb hby at_9) rfl rfl ?_
  refine Run.iconst (pc' := 11) (v := (1 : Int32)) X2 hx (hb hby at_10) rfl rfl ?_
  refine Run.iloadN (pc' := 12) X2 hx (hb hby at_11) rfl rfl ?_
  refine Run.bipush (pc' := 14) (v := (8 : Int32)) X2 hx (hb hby at_12) rfl rfl ?_
  refine Run.iushr (pc' := 15) X2 hx (hb hby at_14) rfl ?_
  refine Run.i2b (pc' := 16) X2 hx (hb hby at_15) rfl ?_
  obtain ⟨T4, h4, sl4, u4, X4, e4, W4, A4, st4⟩ := st_bastore X2 hx hZ e2 A2 (Ls := #[.val (.int p0), .val (.int p1), .val (.int p2), .val (.ref b1), .unset, .unset, .unset, .unset, .unset, .unset, .unset, .unset, .unset, .unset]) (rest := []) (j := (1 : Int32)) (x := (((p0.toUInt32 >>> ((8 : Int32) &&& 31).toUInt32).toInt32).toInt8.toInt32)) (by decide) (by decide) (hb hby at_16)
  have N4 := Fr.snoc X4 N2 G1
  obtain ⟨f5, qf5⟩ : ∃ g : Int32 → Int32, g = fun i => if i = (1 : Int32) then (((p0.toUInt32 >>> ((8 : Int32) &&& 31).toUInt32).toInt32).toInt8.toInt32).toInt8.toInt32 else f3 i := ⟨_, rfl⟩
  replace A4 : Ints Z h4 b1 .byte (4 : Int32) f5 := by rw [qf5]; exact A4
  have Z4 : n0 ≤ h4.size := Nat.le_trans Z2 (Keep.of_wr W4).1
  refine Run.back (g' := (mkF m 17 #[.val (.int p0), .val (.int p1), .val (.int p2), .val (.ref b1), .unset, .unset, .unset, .unset, .unset, .unset, .unset, .unset, .unset, .unset] [])) st4 ?_
  refine Run.aloadN (pc' := 18) X4 hx (hb hby at_17) rfl rfl ?_
  refine Run.iconst (pc' := 19) (v := (2 : Int32)) X4 hx (hb hby at_18) rfl rfl ?_
  refine Run.iloadN (pc' := 20) X4 hx (hb hby at_19) rfl rfl ?_
  refine Run.bipush (pc' := 22) (v := (16 : Int32)) X4 hx (hb hby at_20) rfl rfl ?_
  refine Run.iushr (pc' := 23) X4 hx (hb hby at_22) rfl ?_
  refine Run.i2b (pc' := 24) X4 hx (hb hby at_23) rfl ?_
  obtain ⟨T6, h6, sl6, u6, X6, e6, W6, A6, st6⟩ := st_bastore X4 hx hZ e4 A4 (Ls := #[.val (.int p0), .val (.int p1), .val (.int p2), .val (.ref b1), .unset, .unset, .unset, .unset, .unset, .unset, .unset, .unset, .unset, .unset]) (rest := []) (j := (2 : Int32)) (x := (((p0.toUInt32 >>> ((16 : Int32) &&& 31).toUInt32).toInt32).toInt8.toInt32)) (by decide) (by decide) (hb hby at_24)
  have N6 := Fr.snoc X6 N4 G1
  obtain ⟨f7, qf7⟩ : ∃ g : Int32 → Int32, g = fun i => if i = (2 : Int32) then (((p0.toUInt32 >>> ((16 : Int32) &&& 31).toUInt32).toInt32).toInt8.toInt32).toInt8.toInt32 else f5 i := ⟨_, rfl⟩
  replace A6 : Ints Z h6 b1 .byte (4 : Int32) f7 := by rw [qf7]; exact A6
  have Z6 : n0 ≤ h6.size := Nat.le_trans Z4 (Keep.of_wr W6).1
  refine Run.back (g' := (mkF m 25 #[.val (.int p0), .val (.int p1), .val (.int p2), .val (.ref b1), .unset, .unset, .unset, .unset, .unset, .unset, .unset, .unset, .unset, .unset] [])) st6 ?_
  refine Run.aloadN (pc' := 26) X6 hx (hb hby at_25) rfl rfl ?_
  refine Run.iconst (pc' := 27) (v := (3 : Int32)) X6 hx (hb hby at_26) rfl rfl ?_
  refine Run.iloadN (pc' := 28) X6 hx (hb hby at_27) rfl rfl ?_
  refine Run.bipush (pc' := 30) (v := (24 : Int32)) X6 hx (hb hby at_28) rfl rfl ?_
  refine Run.iushr (pc' := 31) X6 hx (hb hby at_30) rfl ?_
  refine Run.i2b (pc' := 32) X6 hx (hb hby at_31) rfl ?_
  obtain ⟨T8, h8, sl8, u8, X8, e8, W8, A8, st8⟩ := st_bastore X6 hx hZ e6 A6 (Ls := #[.val (.int p0), .val (.int p1), .val (.int p2), .val (.ref b1), .unset, .unset, .unset, .unset, .unset, .unset, .unset, .unset, .unset, .unset]) (rest := []) (j := (3 : Int32)) (x := (((p0.toUInt32 >>> ((24 : Int32) &&& 31).toUInt32).toInt32).toInt8.toInt32)) (by decide) (by decide) (hb hby at_32)
  have N8 := Fr.snoc X8 N6 G1
  obtain ⟨f9, qf9⟩ : ∃ g : Int32 → Int32, g = fun i => if i = (3 : Int32) then (((p0.toUInt32 >>> ((24 : Int32) &&& 31).toUInt32).toInt32).toInt8.toInt32).toInt8.toInt32 else f7 i := ⟨_, rfl⟩
  replace A8 : Ints Z h8 b1 .byte (4 : Int32) f9 := by rw [qf9]; exact A8
  have Z8 : n0 ≤ h8.size := Nat.le_trans Z6 (Keep.of_wr W8).1
  refine Run.back (g' := (mkF m 33 #[.val (.int p0), .val (.int p1), .val (.int p2), .val (.ref b1), .unset, .unset, .unset, .unset, .unset, .unset, .unset, .unset, .unset, .unset] [])) st8 ?_
  have g0 : f9 (0 : Int32) = p0.toInt8.toInt32.toInt8.toInt32 := by rw [qf9, qf7, qf5, qf3]; rfl
  have g1 : f9 (1 : Int32) = ((p0.toUInt32 >>> ((8 : Int32) &&& 31).toUInt32).toInt32).toInt8.toInt32.toInt8.toInt32 := by rw [qf9, qf7, qf5, qf3]; rfl
  have g2 : f9 (2 : Int32) = ((p0.toUInt32 >>> ((16 : Int32) &&& 31).toUInt32).toInt32).toInt8.toInt32.toInt8.toInt32 := by rw [qf9, qf7, qf5, qf3]; rfl
  have g3 : f9 (3 : Int32) = ((p0.toUInt32 >>> ((24 : Int32) &&& 31).toUInt32).toInt32).toInt8.toInt32.toInt8.toInt32 := by rw [qf9, qf7, qf5, qf3]; rfl
  refine Run.iloadN (pc' := 34) X8 hx (hb hby at_33) rfl rfl ?_
  refine Run.ldcInt (pc' := 36) (v := (2147483647 : Int32)) X8 hx hown (mvT hZ (hw _ (List.mem_of_getElem? (i := 1) rfl))) (hb hby at_34) rfl ?_
  refine Run.iand (pc' := 37) X8 hx (hb hby at_36) rfl ?_
  refine Run.iconst (pc' := 38) (v := (5 : Int32)) X8 hx (hb hby at_37) rfl rfl ?_
  refine Run.irem (pc' := 39) X8 hx (hb hby at_38) (by decide) rfl ?_
  refine Run.istore (pc' := 41) X8 hx (l' := #[.val (.int p0), .val (.int p1), .val (.int p2), .val (.ref b1), .val (.int ((p1 &&& (2147483647 : Int32)) % (5 : Int32))), .unset, .unset, .unset, .unset, .unset, .unset, .unset, .unset, .unset]) (hb hby at_39) rfl rfl ?_
  rcases own_o p1 with ho | ho | ho | ho | ho
  · rw [ho]
    refine Run.iloadN (pc' := 42) X8 hx (hb hby at_41) rfl rfl ?_
    refine Run.ldcInt (pc' := 44) (v := (2147483647 : Int32)) X8 hx hown (mvT hZ (hw _ (List.mem_of_getElem? (i := 1) rfl))) (hb hby at_42) rfl ?_
    refine Run.iand (pc' := 45) X8 hx (hb hby at_44) rfl ?_
    refine Run.iconst (pc' := 46) (v := (5 : Int32)) X8 hx (hb hby at_45) rfl rfl ?_
    refine Run.iload (pc' := 48) X8 hx (hb hby at_46) rfl rfl ?_
    refine Run.isub (pc' := 49) X8 hx (hb hby at_48) rfl ?_
    refine Run.irem (pc' := 50) X8 hx (hb hby at_49) (by decide) rfl ?_
    refine Run.istore (pc' := 52) X8 hx (l' := #[.val (.int p0), .val (.int p1), .val (.int p2), .val (.ref b1), .val (.int (0 : Int32)), .val (.int ((p2 &&& (2147483647 : Int32)) % ((5 : Int32) - (0 : Int32)))), .unset, .unset, .unset, .unset, .unset, .unset, .unset, .unset]) (hb hby at_50) rfl rfl ?_
    rcases own_l0 p2 with hl | hl | hl | hl | hl
    · rw [hl]
      obtain ⟨T10, h10, X10, e10, E10, A10, D10, -, st10⟩ := newO X8 hx hZ hown (hw _ (List.mem_of_getElem? (i := 2) rfl)) (hw _ (List.mem_of_getElem? (i := 3) rfl)) (hw _ (List.mem_of_getElem? (i := 4) rfl)) e8 (g := (mkF m 52 #[.val (.int p0), .val (.int p1), .val (.int p2), .val (.ref b1), .val (.int (0 : Int32)), .val (.int (0 : Int32)), .unset, .unset, .unset, .unset, .unset, .unset, .unset, .unset] [])) rfl (hb hby at_52) (by decide) (by decide)
      obtain ⟨b10, g10⟩ : ∃ z, z = h8.size := ⟨_, rfl⟩
      rw [← g10] at A10 D10 st10
      have ne_b1_b10 : b1 ≠ b10 := Nat.ne_of_lt (Nat.lt_of_lt_of_le (A8).lt (Nat.le_of_eq g10.symm))
      have G10 : n0 ≤ b10 := Nat.le_trans Z8 (Nat.le_of_eq g10.symm)
      have Z10 : n0 ≤ h10.size := Nat.le_trans Z8 E10.1
      have fq11 := Ints.ext E10 A8
      have F10_bytes : Fld Z h10 b10 "com/example/tallyhold/tallyhold/ledger/ArrayInput" "bytes" "[B" .null := D10 (Or.inr (hw _ (List.mem_of_getElem? (i := 25) rfl))) (ty := (.array .byte)) (by decide)
      have F10_at : Fld Z h10 b10 "com/example/tallyhold/tallyhold/ledger/ArrayInput" "at" "I" (.int (0 : Int32)) := D10 (Or.inl (hw _ (List.mem_of_getElem? (i := 27) rfl))) (ty := .int) (by decide)
      have F10_end : Fld Z h10 b10 "com/example/tallyhold/tallyhold/ledger/ArrayInput" "end" "I" (.int (0 : Int32)) := D10 (Or.inr (hw _ (List.mem_of_getElem? (i := 29) rfl))) (ty := .int) (by decide)
      refine Run.back (g' := (mkF m 55 #[.val (.int p0), .val (.int p1), .val (.int p2), .val (.ref b1), .val (.int (0 : Int32)), .val (.int (0 : Int32)), .unset, .unset, .unset, .unset, .unset, .unset, .unset, .unset] [(.ref b10)])) st10 ?_
      refine Run.dup (pc' := 56) X10 hx (hb hby at_55) rfl rfl ?_
      refine Run.aloadN (pc' := 57) X10 hx (hb hby at_56) rfl rfl ?_
      refine Run.iload (pc' := 59) X10 hx (hb hby at_57) rfl rfl ?_
      refine Run.iload (pc' := 61) X10 hx (hb hby at_59) rfl rfl ?_
      obtain ⟨T12, L12, v12, X12, Q12, st12⟩ := callSpecial X10 hx (y := (⟨"com/example/tallyhold/tallyhold/ledger/ArrayInput", "<init>", "([BII)V"⟩ : MethodName)) (a := b10) (Ls := #[.val (.int p0), .val (.int p1), .val (.int p2), .val (.ref b1), .val (.int (0 : Int32)), .val (.int (0 : Int32)), .unset, .unset, .unset, .unset, .unset, .unset, .unset, .unset]) (rest := [(.ref b10)]) (W := 1) (argsL := [(.ref b1), (.int (0 : Int32)), (.int (0 : Int32))]) rfl hZ hown (hw _ (List.mem_of_getElem? (i := 5) rfl)) (hw _ (List.mem_of_getElem? (i := 6) rfl)) (hw _ (List.mem_of_getElem? (i := 4) rfl)) (hw _ (List.mem_of_getElem? (i := 7) rfl)) (by decide) e10 (rm4 l Z a0 hw [] b10 b1 (0 : Int32) (0 : Int32) f9 h10 n0 Z10 A10 F10_bytes F10_at F10_end G10 fq11 ne_b1_b10 (by decide) (by decide)) (hb hby at_61) (lenOf own_pd3 rfl) (by decide) (by decide) (by rw [hml]; rfl) (Nat.le_of_eq rfl) (by decide) (by decide)
      obtain ⟨rfl, M12, K12, E12, F12_bytes, F12_at, F12_end⟩ := Q12
      rw [show ((0 : Int32) + (0 : Int32)) = (0 : Int32) from rfl] at F12_end
      have N12 := Fr.app N8 M12
      have fq13 := Ints.keep fq11 K12 (ninS ne_b1_b10 nin0)
      have fq14 := Exa.keep A10 K12
      have Z12 : n0 ≤ T12.heap.size := Nat.le_trans Z10 K12.1
      refine Run.back (g' := (mkF m 64 #[.val (.int p0), .val (.int p1), .val (.int p2), .val (.ref b1), .val (.int (0 : Int32)), .val (.int (0 : Int32)), .unset, .unset, .unset, .unset, .unset, .unset, .unset, .unset] [(.ref b10)])) st12 ?_
      refine Run.astore (pc' := 66) X12 hx (l' := #[.val (.int p0), .val (.int p1), .val (.int p2), .val (.ref b1), .val (.int (0 : Int32)), .val (.int (0 : Int32)), .val (.ref b10), .unset, .unset, .unset, .unset, .unset, .unset, .unset]) (hb hby at_64) rfl rfl ?_
      refine Run.aload (pc' := 68) X12 hx (hb hby at_66) rfl rfl ?_
      obtain ⟨T15, L15, v15, X15, Q15, st15⟩ := callVirtual X12 hx (y := (⟨"com/example/tallyhold/tallyhold/ledger/ArrayInput", "read", "()I"⟩ : MethodName)) (z := (⟨"com/example/tallyhold/tallyhold/ledger/ArrayInput", "read", "()I"⟩ : MethodName)) (C := "com/example/tallyhold/tallyhold/ledger/ArrayInput") (a := b10) (Ls := #[.val (.int p0), .val (.int p1), .val (.int p2), .val (.ref b1), .val (.int (0 : Int32)), .val (.int (0 : Int32)), .val (.ref b10), .unset, .unset, .unset, .unset, .unset, .unset, .unset]) (rest := []) (W := 0) (argsL := []) hZ hown (hw _ (List.mem_of_getElem? (i := 30) rfl)) (hw _ (List.mem_of_getElem? (i := 31) rfl)) (notFace_of_selects (args := #[]) (mvT hZ (hw _ (List.mem_of_getElem? (i := 33) rfl)))) (hw _ (List.mem_of_getElem? (i := 33) rfl)) (hw _ (List.mem_of_getElem? (i := 32) rfl)) (hw _ (List.mem_of_getElem? (i := 4) rfl)) (hw _ (List.mem_of_getElem? (i := 34) rfl)) (by decide) rfl E12 (rm5 l Z a0 hw [] b10 b1 (0 : Int32) (0 : Int32) f9 T12.heap n0 Z12 E12 F12_bytes F12_at F12_end G10 fq13 ne_b1_b10 (by decide) (by decide)) (hb hby at_68) (lenOf own_pd4 rfl) (by decide) (by decide) (by rw [hml]; rfl) (Nat.le_of_eq rfl) (by decide) (by decide)
      obtain ⟨hv15, M15, K15, E15, F15_bytes, F15_at, F15_end⟩ := Q15
      rw [show (own_R (0 : Int32) (0 : Int32) f9) = (-1 : Int32) from rfl] at hv15
      subst hv15
      rw [show (own_N (0 : Int32) (0 : Int32)) = (0 : Int32) from rfl] at F15_at
      have N15 := Fr.app N12 M15
      have fq16 := Ints.keep fq13 K15 (ninS ne_b1_b10 nin0)
      have fq17 := Exa.keep E12 K15
      have Z15 : n0 ≤ T15.heap.size := Nat.le_trans Z12 K15.1
      refine Run.back (g' := (mkF m 71 #[.val (.int p0), .val (.int p1), .val (.int p2), .val (.ref b1), .val (.int (0 : Int32)), .val (.int (0 : Int32)), .val (.ref b10), .unset, .unset, .unset, .unset, .unset, .unset, .unset] [(.int (-1 : Int32))])) st15 ?_
      refine Run.istore (pc' := 73) X15 hx (l' := #[.val (.int p0), .val (.int p1), .val (.int p2), .val (.ref b1), .val (.int (0 : Int32)), .val (.int (0 : Int32)), .val (.ref b10), .val (.int (-1 : Int32)), .unset, .unset, .unset, .unset, .unset, .unset]) (hb hby at_71) rfl rfl ?_
      refine Run.aload (pc' := 75) X15 hx (hb hby at_73) rfl rfl ?_
      obtain ⟨T18, L18, v18, X18, Q18, st18⟩ := callVirtual X15 hx (y := (⟨"com/example/tallyhold/tallyhold/ledger/ArrayInput", "read", "()I"⟩ : MethodName)) (z := (⟨"com/example/tallyhold/tallyhold/ledger/ArrayInput", "read", "()I"⟩ : MethodName)) (C := "com/example/tallyhold/tallyhold/ledger/ArrayInput") (a := b10) (Ls := #[.val (.int p0), .val (.int p1), .val (.int p2), .val (.ref b1), .val (.int (0 : Int32)), .val (.int (0 : Int32)), .val (.ref b10), .val (.int (-1 : Int32)), .unset, .unset, .unset, .unset, .unset, .unset]) (rest := []) (W := 0) (argsL := []) hZ hown (hw _ (List.mem_of_getElem? (i := 30) rfl)) (hw _ (List.mem_of_getElem? (i := 31) rfl)) (notFace_of_selects (args := #[]) (mvT hZ (hw _ (List.mem_of_getElem? (i := 33) rfl)))) (hw _ (List.mem_of_getElem? (i := 33) rfl)) (hw _ (List.mem_of_getElem? (i := 32) rfl)) (hw _ (List.mem_of_getElem? (i := 4) rfl)) (hw _ (List.mem_of_getElem? (i := 34) rfl)) (by decide) rfl E15 (rm5 l Z a0 hw [] b10 b1 (0 : Int32) (0 : Int32) f9 T15.heap n0 Z15 E15 F15_bytes F15_at F15_end G10 fq16 ne_b1_b10 (by decide) (by decide)) (hb hby at_75) (lenOf own_pd4 rfl) (by decide) (by decide) (by rw [hml]; rfl) (Nat.le_of_eq rfl) (by decide) (by decide)
      obtain ⟨hv18, M18, K18, E18, F18_bytes, F18_at, F18_end⟩ := Q18
      rw [show (own_R (0 : Int32) (0 : Int32) f9) = (-1 : Int32) from rfl] at hv18
      subst hv18
      rw [show (own_N (0 : Int32) (0 : Int32)) = (0 : Int32) from rfl] at F18_at
      have N18 := Fr.app N15 M18
      have fq19 := Ints.keep fq16 K18 (ninS ne_b1_b10 nin0)
      have fq20 := Exa.keep E15 K18
      have Z18 : n0 ≤ T18.heap.size := Nat.le_trans Z15 K18.1
      refine Run.back (g' := (mkF m 78 #[.val (.int p0), .val (.int p1), .val (.int p2), .val (.ref b1), .val (.int (0 : Int32)), .val (.int (0 : Int32)), .val (.ref b10), .val (.int (-1 : Int32)), .unset, .unset, .unset, .unset, .unset, .unset] [(.int (-1 : Int32))])) st18 ?_
      refine Run.istore (pc' := 80) X18 hx (l' := #[.val (.int p0), .val (.int p1), .val (.int p2), .val (.ref b1), .val (.int (0 : Int32)), .val (.int (0 : Int32)), .val (.ref b10), .val (.int (-1 : Int32)), .val (.int (-1 : Int32)), .unset, .unset, .unset, .unset, .unset]) (hb hby at_78) rfl rfl ?_
      refine Run.aload (pc' := 82) X18 hx (hb hby at_80) rfl rfl ?_
      obtain ⟨T21, L21, v21, X21, Q21, st21⟩ := callVirtual X18 hx (y := (⟨"com/example/tallyhold/tallyhold/ledger/ArrayInput", "read", "()I"⟩ : MethodName)) (z := (⟨"com/example/tallyhold/tallyhold/ledger/ArrayInput", "read", "()I"⟩ : MethodName)) (C := "com/example/tallyhold/tallyhold/ledger/ArrayInput") (a := b10) (Ls := #[.val (.int p0), .val (.int p1), .val (.int p2), .val (.ref b1), .val (.int (0 : Int32)), .val (.int (0 : Int32)), .val (.ref b10), .val (.int (-1 : Int32)), .val (.int (-1 : Int32)), .unset, .unset, .unset, .unset, .unset]) (rest := []) (W := 0) (argsL := []) hZ hown (hw _ (List.mem_of_getElem? (i := 30) rfl)) (hw _ (List.mem_of_getElem? (i := 31) rfl)) (notFace_of_selects (args := #[]) (mvT hZ (hw _ (List.mem_of_getElem? (i := 33) rfl)))) (hw _ (List.mem_of_getElem? (i := 33) rfl)) (hw _ (List.mem_of_getElem? (i := 32) rfl)) (hw _ (List.mem_of_getElem? (i := 4) rfl)) (hw _ (List.mem_of_getElem? (i := 34) rfl)) (by decide) rfl E18 (rm5 l Z a0 hw [] b10 b1 (0 : Int32) (0 : Int32) f9 T18.heap n0 Z18 E18 F18_bytes F18_at F18_end G10 fq19 ne_b1_b10 (by decide) (by decide)) (hb hby at_82) (lenOf own_pd4 rfl) (by decide) (by decide) (by rw [hml]; rfl) (Nat.le_of_eq rfl) (by decide) (by decide)
      obtain ⟨hv21, M21, K21, E21, F21_bytes, F21_at, F21_end⟩ := Q21
      rw [show (own_R (0 : Int32) (0 : Int32) f9) = (-1 : Int32) from rfl] at hv21
      subst hv21
      rw [show (own_N (0 : Int32) (0 : Int32)) = (0 : Int32) from rfl] at F21_at
      have N21 := Fr.app N18 M21
      have fq22 := Ints.keep fq19 K21 (ninS ne_b1_b10 nin0)
      have fq23 := Exa.keep E18 K21
      have Z21 : n0 ≤ T21.heap.size := Nat.le_trans Z18 K21.1
      refine Run.back (g' := (mkF m 85 #[.val (.int p0), .val (.int p1), .val (.int p2), .val (.ref b1), .val (.int (0 : Int32)), .val (.int (0 : Int32)), .val (.ref b10), .val (.int (-1 : Int32)), .val (.int (-1 : Int32)), .unset, .unset, .unset, .unset, .unset] [(.int (-1 : Int32))])) st21 ?_
      refine Run.istore (pc' := 87) X21 hx (l' := #[.val (.int p0), .val (.int p1), .val (.int p2), .val (.ref b1), .val (.int (0 : Int32)), .val (.int (0 : Int32)), .val (.ref b10), .val (.int (-1 : Int32)), .val (.int (-1 : Int32)), .val (.int (-1 : Int32)), .unset, .unset, .unset, .unset]) (hb hby at_85) rfl rfl ?_
      refine Run.aload (pc' := 89) X21 hx (hb hby at_87) rfl rfl ?_
      obtain ⟨T24, L24, v24, X24, Q24, st24⟩ := callVirtual X21 hx (y := (⟨"com/example/tallyhold/tallyhold/ledger/ArrayInput", "read", "()I"⟩ : MethodName)) (z := (⟨"com/example/tallyhold/tallyhold/ledger/ArrayInput", "read", "()I"⟩ : MethodName)) (C := "com/example/tallyhold/tallyhold/ledger/ArrayInput") (a := b10) (Ls := #[.val (.int p0), .val (.int p1), .val (.int p2), .val (.ref b1), .val (.int (0 : Int32)), .val (.int (0 : Int32)), .val (.ref b10), .val (.int (-1 : Int32)), .val (.int (-1 : Int32)), .val (.int (-1 : Int32)), .unset, .unset, .unset, .unset]) (rest := []) (W := 0) (argsL := []) hZ hown (hw _ (List.mem_of_getElem? (i := 30) rfl)) (hw _ (List.mem_of_getElem? (i := 31) rfl)) (notFace_of_selects (args := #[]) (mvT hZ (hw _ (List.mem_of_getElem? (i := 33) rfl)))) (hw _ (List.mem_of_getElem? (i := 33) rfl)) (hw _ (List.mem_of_getElem? (i := 32) rfl)) (hw _ (List.mem_of_getElem? (i := 4) rfl)) (hw _ (List.mem_of_getElem? (i := 34) rfl)) (by decide) rfl E21 (rm5 l Z a0 hw [] b10 b1 (0 : Int32) (0 : Int32) f9 T21.heap n0 Z21 E21 F21_bytes F21_at F21_end G10 fq22 ne_b1_b10 (by decide) (by decide)) (hb hby at_89) (lenOf own_pd4 rfl) (by decide) (by decide) (by rw [hml]; rfl) (Nat.le_of_eq rfl) (by decide) (by decide)
      obtain ⟨hv24, M24, K24, E24, F24_bytes, F24_at, F24_end⟩ := Q24
      rw [show (own_R (0 : Int32) (0 : Int32) f9) = (-1 : Int32) from rfl] at hv24
      subst hv24
      rw [show (own_N (0 : Int32) (0 : Int32)) = (0 : Int32) from rfl] at F24_at
      have N24 := Fr.app N21 M24
      have fq25 := Ints.keep fq22 K24 (ninS ne_b1_b10 nin0)
      have fq26 := Exa.keep E21 K24
      have Z24 : n0 ≤ T24.heap.size := Nat.le_trans Z21 K24.1
      refine Run.back (g' := (mkF m 92 #[.val (.int p0), .val (.int p1), .val (.int p2), .val (.ref b1), .val (.int (0 : Int32)), .val (.int (0 : Int32)), .val (.ref b10), .val (.int (-1 : Int32)), .val (.int (-1 : Int32)), .val (.int (-1 : Int32)), .unset, .unset, .unset, .unset] [(.int (-1 : Int32))])) st24 ?_
      refine Run.istore (pc' := 94) X24 hx (l' := #[.val (.int p0), .val (.int p1), .val (.int p2), .val (.ref b1), .val (.int (0 : Int32)), .val (.int (0 : Int32)), .val (.ref b10), .val (.int (-1 : Int32)), .val (.int (-1 : Int32)), .val (.int (-1 : Int32)), .val (.int (-1 : Int32)), .unset, .unset, .unset]) (hb hby at_92) rfl rfl ?_
      refine Run.aload (pc' := 96) X24 hx (hb hby at_94) rfl rfl ?_
      obtain ⟨T27, L27, v27, X27, Q27, st27⟩ := callVirtual X24 hx (y := (⟨"com/example/tallyhold/tallyhold/ledger/ArrayInput", "read", "()I"⟩ : MethodName)) (z := (⟨"com/example/tallyhold/tallyhold/ledger/ArrayInput", "read", "()I"⟩ : MethodName)) (C := "com/example/tallyhold/tallyhold/ledger/ArrayInput") (a := b10) (Ls := #[.val (.int p0), .val (.int p1), .val (.int p2), .val (.ref b1), .val (.int (0 : Int32)), .val (.int (0 : Int32)), .val (.ref b10), .val (.int (-1 : Int32)), .val (.int (-1 : Int32)), .val (.int (-1 : Int32)), .val (.int (-1 : Int32)), .unset, .unset, .unset]) (rest := []) (W := 0) (argsL := []) hZ hown (hw _ (List.mem_of_getElem? (i := 30) rfl)) (hw _ (List.mem_of_getElem? (i := 31) rfl)) (notFace_of_selects (args := #[]) (mvT hZ (hw _ (List.mem_of_getElem? (i := 33) rfl)))) (hw _ (List.mem_of_getElem? (i := 33) rfl)) (hw _ (List.mem_of_getElem? (i := 32) rfl)) (hw _ (List.mem_of_getElem? (i := 4) rfl)) (hw _ (List.mem_of_getElem? (i := 34) rfl)) (by decide) rfl E24 (rm5 l Z a0 hw [] b10 b1 (0 : Int32) (0 : Int32) f9 T24.heap n0 Z24 E24 F24_bytes F24_at F24_end G10 fq25 ne_b1_b10 (by decide) (by decide)) (hb hby at_96) (lenOf own_pd4 rfl) (by decide) (by decide) (by rw [hml]; rfl) (Nat.le_of_eq rfl) (by decide) (by decide)
      obtain ⟨hv27, M27, K27, E27, F27_bytes, F27_at, F27_end⟩ := Q27
      rw [show (own_R (0 : Int32) (0 : Int32) f9) = (-1 : Int32) from rfl] at hv27
      subst hv27
      rw [show (own_N (0 : Int32) (0 : Int32)) = (0 : Int32) from rfl] at F27_at
      have N27 := Fr.app N24 M27
      have fq28 := Ints.keep fq25 K27 (ninS ne_b1_b10 nin0)
      have fq29 := Exa.keep E24 K27
      have Z27 : n0 ≤ T27.heap.size := Nat.le_trans Z24 K27.1
      refine Run.back (g' := (mkF m 99 #[.val (.int p0), .val (.int p1), .val (.int p2), .val (.ref b1), .val (.int (0 : Int32)), .val (.int (0 : Int32)), .val (.ref b10), .val (.int (-1 : Int32)), .val (.int (-1 : Int32)), .val (.int (-1 : Int32)), .val (.int (-1 : Int32)), .unset, .unset, .unset] [(.int (-1 : Int32))])) st27 ?_
      refine Run.istore (pc' := 101) X27 hx (l' := #[.val (.int p0), .val (.int p1), .val (.int p2), .val (.ref b1), .val (.int (0 : Int32)), .val (.int (0 : Int32)), .val (.ref b10), .val (.int (-1 : Int32)), .val (.int (-1 : Int32)), .val (.int (-1 : Int32)), .val (.int (-1 : Int32)), .val (.int (-1 : Int32)), .unset, .unset]) (hb hby at_99) rfl rfl ?_
      refine Run.aload (pc' := 103) X27 hx (hb hby at_101) rfl rfl ?_
      obtain ⟨T30, L30, v30, X30, Q30, st30⟩ := callVirtual X27 hx (y := (⟨"com/example/tallyhold/tallyhold/ledger/ArrayInput", "position", "()I"⟩ : MethodName)) (z := (⟨"com/example/tallyhold/tallyhold/ledger/ArrayInput", "position", "()I"⟩ : MethodName)) (C := "com/example/tallyhold/tallyhold/ledger/ArrayInput") (a := b10) (Ls := #[.val (.int p0), .val (.int p1), .val (.int p2), .val (.ref b1), .val (.int (0 : Int32)), .val (.int (0 : Int32)), .val (.ref b10), .val (.int (-1 : Int32)), .val (.int (-1 : Int32)), .val (.int (-1 : Int32)), .val (.int (-1 : Int32)), .val (.int (-1 : Int32)), .unset, .unset]) (rest := []) (W := 0) (argsL := []) hZ hown (hw _ (List.mem_of_getElem? (i := 35) rfl)) (hw _ (List.mem_of_getElem? (i := 36) rfl)) (notFace_of_selects (args := #[]) (mvT hZ (hw _ (List.mem_of_getElem? (i := 38) rfl)))) (hw _ (List.mem_of_getElem? (i := 38) rfl)) (hw _ (List.mem_of_getElem? (i := 37) rfl)) (hw _ (List.mem_of_getElem? (i := 4) rfl)) (hw _ (List.mem_of_getElem? (i := 39) rfl)) (by decide) rfl E27 (rm6 l Z a0 hw [] b10 (0 : Int32) T27.heap n0 Z27 F27_at) (hb hby at_103) (lenOf own_pd4 rfl) (by decide) (by decide) (by rw [hml]; rfl) (Nat.le_of_eq rfl) (by decide) (by decide)
      obtain ⟨hv30, M30, e30⟩ := Q30
      rw [show (own_F6 b10 (0 : Int32)) = (0 : Int32) from rfl] at hv30
      subst hv30
      have N30 := Fr.app N27 M30
      refine Run.back (g' := (mkF m 106 #[.val (.int p0), .val (.int p1), .val (.int p2), .val (.ref b1), .val (.int (0 : Int32)), .val (.int (0 : Int32)), .val (.ref b10), .val (.int (-1 : Int32)), .val (.int (-1 : Int32)), .val (.int (-1 : Int32)), .val (.int (-1 : Int32)), .val (.int (-1 : Int32)), .unset, .unset] [(.int (0 : Int32))])) st30 ?_
      refine Run.istore (pc' := 108) X30 hx (l' := #[.val (.int p0), .val (.int p1), .val (.int p2), .val (.ref b1), .val (.int (0 : Int32)), .val (.int (0 : Int32)), .val (.ref b10), .val (.int (-1 : Int32)), .val (.int (-1 : Int32)), .val (.int (-1 : Int32)), .val (.int (-1 : Int32)), .val (.int (-1 : Int32)), .val (.int (0 : Int32)), .unset]) (hb hby at_106) rfl rfl ?_
      refine Run.aload (pc' := 110) X30 hx (hb hby at_108) rfl rfl ?_
      obtain ⟨T31, L31, v31, X31, Q31, st31⟩ := callVirtual X30 hx (y := (⟨"com/example/tallyhold/tallyhold/ledger/ArrayInput", "available", "()I"⟩ : MethodName)) (z := (⟨"com/example/tallyhold/tallyhold/ledger/ArrayInput", "available", "()I"⟩ : MethodName)) (C := "com/example/tallyhold/tallyhold/ledger/ArrayInput") (a := b10) (Ls := #[.val (.int p0), .val (.int p1), .val (.int p2), .val (.ref b1), .val (.int (0 : Int32)), .val (.int (0 : Int32)), .val (.ref b10), .val (.int (-1 : Int32)), .val (.int (-1 : Int32)), .val (.int (-1 : Int32)), .val (.int (-1 : Int32)), .val (.int (-1 : Int32)), .val (.int (0 : Int32)), .unset]) (rest := []) (W := 0) (argsL := []) hZ hown (hw _ (List.mem_of_getElem? (i := 40) rfl)) (hw _ (List.mem_of_getElem? (i := 41) rfl)) (notFace_of_selects (args := #[]) (mvT hZ (hw _ (List.mem_of_getElem? (i := 43) rfl)))) (hw _ (List.mem_of_getElem? (i := 43) rfl)) (hw _ (List.mem_of_getElem? (i := 42) rfl)) (hw _ (List.mem_of_getElem? (i := 4) rfl)) (hw _ (List.mem_of_getElem? (i := 44) rfl)) (by decide) e30 E27 (rm7 l Z a0 hw [] b10 (0 : Int32) (0 : Int32) T27.heap n0 Z27 F27_at F27_end) (hb hby at_110) (lenOf own_pd4 rfl) (by decide) (by decide) (by rw [hml]; rfl) (Nat.le_of_eq rfl) (by decide) (by decide)
      obtain ⟨hv31, M31, e31⟩ := Q31
      rw [show (own_F7 b10 (0 : Int32) (0 : Int32)) = (0 : Int32) from rfl] at hv31
      subst hv31
      have N31 := Fr.app N30 M31
      refine Run.back (g' := (mkF m 113 #[.val (.int p0), .val (.int p1), .val (.int p2), .val (.ref b1), .val (.int (0 : Int32)), .val (.int (0 : Int32)), .val (.ref b10), .val (.int (-1 : Int32)), .val (.int (-1 : Int32)), .val (.int (-1 : Int32)), .val (.int (-1 : Int32)), .val (.int (-1 : Int32)), .val (.int (0 : Int32)), .unset] [(.int (0 : Int32))])) st31 ?_
      refine Run.istore (pc' := 115) X31 hx (l' := #[.val (.int p0), .val (.int p1), .val (.int p2), .val (.ref b1), .val (.int (0 : Int32)), .val (.int (0 : Int32)), .val (.ref b10), .val (.int (-1 : Int32)), .val (.int (-1 : Int32)), .val (.int (-1 : Int32)), .val (.int (-1 : Int32)), .val (.int (-1 : Int32)), .val (.int (0 : Int32)), .val (.int (0 : Int32))]) (hb hby at_113) rfl rfl ?_
      refine Run.iload (pc' := 117) X31 hx (hb hby at_115) rfl rfl ?_
      refine Run.iloadN (pc' := 118) X31 hx (hb hby at_117) rfl rfl ?_
      refine Run.iload (pc' := 120) X31 hx (hb hby at_118) rfl rfl ?_
      refine Run.iload (pc' := 122) X31 hx (hb hby at_120) rfl rfl ?_
      refine Run.iconst (pc' := 123) (v := (0 : Int32)) X31 hx (hb hby at_122) rfl rfl ?_
      obtain ⟨T32, L32, v32, X32, Q32, st32⟩ := callStatic X31 hx (y := (⟨"com/example/tallyhold/tallyhold/ledger/ArrayInputReadPinLaw", "expected", "(IIII)I"⟩ : MethodName)) (Ls := #[.val (.int p0), .val (.int p1), .val (.int p2), .val (.ref b1), .val (.int (0 : Int32)), .val (.int (0 : Int32)), .val (.ref b10), .val (.int (-1 : Int32)), .val (.int (-1 : Int32)), .val (.int (-1 : Int32)), .val (.int (-1 : Int32)), .val (.int (-1 : Int32)), .val (.int (0 : Int32)), .val (.int (0 : Int32))]) (rest := [(.int (-1 : Int32))]) (W := 1) (argsL := [(.int p0), (.int (0 : Int32)), (.int (0 : Int32)), (.int (0 : Int32))]) hZ hown (hw _ (List.mem_of_getElem? (i := 45) rfl)) (hw _ (List.mem_of_getElem? (i := 46) rfl)) (hw _ (List.mem_of_getElem? (i := 47) rfl)) (hw _ (List.mem_of_getElem? (i := 48) rfl)) (by decide) e31 (rm8 l Z a0 hw [] p0 (0 : Int32) (0 : Int32) (0 : Int32)  T27.heap n0 Z27 ) (hb hby at_123) (lenOf own_pd5 rfl) (by decide) (by decide) (by rw [hml]; rfl) (Nat.le_of_eq rfl) (by decide) (by decide)
      obtain ⟨hv32, M32, e32⟩ := Q32
      rw [show (own_F8 p0 (0 : Int32) (0 : Int32) (0 : Int32)) = (-1 : Int32) from rfl] at hv32
      subst hv32
      have N32 := Fr.app N31 M32
      refine Run.back (g' := (mkF m 126 #[.val (.int p0), .val (.int p1), .val (.int p2), .val (.ref b1), .val (.int (0 : Int32)), .val (.int (0 : Int32)), .val (.ref b10), .val (.int (-1 : Int32)), .val (.int (-1 : Int32)), .val (.int (-1 : Int32)), .val (.int (-1 : Int32)), .val (.int (-1 : Int32)), .val (.int (0 : Int32)), .val (.int (0 : Int32))] [(.int (-1 : Int32)), (.int (-1 : Int32))])) st32 ?_
      refine Run.icmpNo (pc' := 129) X32 hx (hb hby at_126) (teq rfl).2 rfl ?_
      refine Run.iload (pc' := 131) X32 hx (hb hby at_129) rfl rfl ?_
      refine Run.iloadN (pc' := 132) X32 hx (hb hby at_131) rfl rfl ?_
      refine Run.iload (pc' := 134) X32 hx (hb hby at_132) rfl rfl ?_
      refine Run.iload (pc' := 136) X32 hx (hb hby at_134) rfl rfl ?_
      refine Run.iconst (pc' := 137) (v := (1 : Int32)) X32 hx (hb hby at_136) rfl rfl ?_
      obtain ⟨T33, L33, v33, X33, Q33, st33⟩ := callStatic X32 hx (y := (⟨"com/example/tallyhold/tallyhold/ledger/ArrayInputReadPinLaw", "expected", "(IIII)I"⟩ : MethodName)) (Ls := #[.val (.int p0), .val (.int p1), .val (.int p2), .val (.ref b1), .val (.int (0 : Int32)), .val (.int (0 : Int32)), .val (.ref b10), .val (.int (-1 : Int32)), .val (.int (-1 : Int32)), .val (.int (-1 : Int32)), .val (.int (-1 : Int32)), .val (.int (-1 : Int32)), .val (.int (0 : Int32)), .val (.int (0 : Int32))]) (rest := [(.int (-1 : Int32))]) (W := 1) (argsL := [(.int p0), (.int (0 : Int32)), (.int (0 : Int32)), (.int (1 : Int32))]) hZ hown (hw _ (List.mem_of_getElem? (i := 45) rfl)) (hw _ (List.mem_of_getElem? (i := 46) rfl)) (hw _ (List.mem_of_getElem? (i := 47) rfl)) (hw _ (List.mem_of_getElem? (i := 48) rfl)) (by decide) e32 (rm8 l Z a0 hw [] p0 (0 : Int32) (0 : Int32) (1 : Int32)  T27.heap n0 Z27 ) (hb hby at_137) (lenOf own_pd5 rfl) (by decide) (by decide) (by rw [hml]; rfl) (Nat.le_of_eq rfl) (by decide) (by decide)
      obtain ⟨hv33, M33, e33⟩ := Q33
      rw [show (own_F8 p0 (0 : Int32) (0 : Int32) (1 : Int32)) = (-1 : Int32) from rfl] at hv33
      subst hv33
      have N33 := Fr.app N32 M33
      refine Run.back (g' := (mkF m 140 #[.val (.int p0), .val (.int p1), .val (.int p2), .val (.ref b1), .val (.int (0 : Int32)), .val (.int (0 : Int32)), .val (.ref b10), .val (.int (-1 : Int32)), .val (.int (-1 : Int32)), .val (.int (-1 : Int32)), .val (.int (-1 : Int32)), .val (.int (-1 : Int32)), .val (.int (0 : Int32)), .val (.int (0 : Int32))] [(.int (-1 : Int32)), (.int (-1 : Int32))])) st33 ?_
      refine Run.icmpNo (pc' := 143) X33 hx (hb hby at_140) (teq rfl).2 rfl ?_
      refine Run.iload (pc' := 145) X33 hx (hb hby at_143) rfl rfl ?_
      refine Run.iloadN (pc' := 146) X33 hx (hb hby at_145) rfl rfl ?_
      refine Run.iload (pc' := 148) X33 hx (hb hby at_146) rfl rfl ?_
      refine Run.iload (pc' := 150) X33 hx (hb hby at_148) rfl rfl ?_
      refine Run.iconst (pc' := 151) (v := (2 : Int32)) X33 hx (hb hby at_150) rfl rfl ?_
      obtain ⟨T34, L34, v34, X34, Q34, st34⟩ := callStatic X33 hx (y := (⟨"com/example/tallyhold/tallyhold/ledger/ArrayInputReadPinLaw", "expected", "(IIII)I"⟩ : MethodName)) (Ls := #[.val (.int p0), .val (.int p1), .val (.int p2), .val (.ref b1), .val (.int (0 : Int32)), .val (.int (0 : Int32)), .val (.ref b10), .val (.int (-1 : Int32)), .val (.int (-1 : Int32)), .val (.int (-1 : Int32)), .val (.int (-1 : Int32)), .val (.int (-1 : Int32)), .val (.int (0 : Int32)), .val (.int (0 : Int32))]) (rest := [(.int (-1 : Int32))]) (W := 1) (argsL := [(.int p0), (.int (0 : Int32)), (.int (0 : Int32)), (.int (2 : Int32))]) hZ hown (hw _ (List.mem_of_getElem? (i := 45) rfl)) (hw _ (List.mem_of_getElem? (i := 46) rfl)) (hw _ (List.mem_of_getElem? (i := 47) rfl)) (hw _ (List.mem_of_getElem? (i := 48) rfl)) (by decide) e33 (rm8 l Z a0 hw [] p0 (0 : Int32) (0 : Int32) (2 : Int32)  T27.heap n0 Z27 ) (hb hby at_151) (lenOf own_pd5 rfl) (by decide) (by decide) (by rw [hml]; rfl) (Nat.le_of_eq rfl) (by decide) (by decide)
      obtain ⟨hv34, M34, e34⟩ := Q34
      rw [show (own_F8 p0 (0 : Int32) (0 : Int32) (2 : Int32)) = (-1 : Int32) from rfl] at hv34
      subst hv34
      have N34 := Fr.app N33 M34
      refine Run.back (g' := (mkF m 154 #[.val (.int p0), .val (.int p1), .val (.int p2), .val (.ref b1), .val (.int (0 : Int32)), .val (.int (0 : Int32)), .val (.ref b10), .val (.int (-1 : Int32)), .val (.int (-1 : Int32)), .val (.int (-1 : Int32)), .val (.int (-1 : Int32)), .val (.int (-1 : Int32)), .val (.int (0 : Int32)), .val (.int (0 : Int32))] [(.int (-1 : Int32)), (.int (-1 : Int32))])) st34 ?_
      refine Run.icmpNo (pc' := 157) X34 hx (hb hby at_154) (teq rfl).2 rfl ?_
      refine Run.iload (pc' := 159) X34 hx (hb hby at_157) rfl rfl ?_
      refine Run.iloadN (pc' := 160) X34 hx (hb hby at_159) rfl rfl ?_
      refine Run.iload (pc' := 162) X34 hx (hb hby at_160) rfl rfl ?_
      refine Run.iload (pc' := 164) X34 hx (hb hby at_162) rfl rfl ?_
      refine Run.iconst (pc' := 165) (v := (3 : Int32)) X34 hx (hb hby at_164) rfl rfl ?_
      obtain ⟨T35, L35, v35, X35, Q35, st35⟩ := callStatic X34 hx (y := (⟨"com/example/tallyhold/tallyhold/ledger/ArrayInputReadPinLaw", "expected", "(IIII)I"⟩ : MethodName)) (Ls := #[.val (.int p0), .val (.int p1), .val (.int p2), .val (.ref b1), .val (.int (0 : Int32)), .val (.int (0 : Int32)), .val (.ref b10), .val (.int (-1 : Int32)), .val (.int (-1 : Int32)), .val (.int (-1 : Int32)), .val (.int (-1 : Int32)), .val (.int (-1 : Int32)), .val (.int (0 : Int32)), .val (.int (0 : Int32))]) (rest := [(.int (-1 : Int32))]) (W := 1) (argsL := [(.int p0), (.int (0 : Int32)), (.int (0 : Int32)), (.int (3 : Int32))]) hZ hown (hw _ (List.mem_of_getElem? (i := 45) rfl)) (hw _ (List.mem_of_getElem? (i := 46) rfl)) (hw _ (List.mem_of_getElem? (i := 47) rfl)) (hw _ (List.mem_of_getElem? (i := 48) rfl)) (by decide) e34 (rm8 l Z a0 hw [] p0 (0 : Int32) (0 : Int32) (3 : Int32)  T27.heap n0 Z27 ) (hb hby at_165) (lenOf own_pd5 rfl) (by decide) (by decide) (by rw [hml]; rfl) (Nat.le_of_eq rfl) (by decide) (by decide)
      obtain ⟨hv35, M35, e35⟩ := Q35
      rw [show (own_F8 p0 (0 : Int32) (0 : Int32) (3 : Int32)) = (-1 : Int32) from rfl] at hv35
      subst hv35
      have N35 := Fr.app N34 M35
      refine Run.back (g' := (mkF m 168 #[.val (.int p0), .val (.int p1), .val (.int p2), .val (.ref b1), .val (.int (0 : Int32)), .val (.int (0 : Int32)), .val (.ref b10), .val (.int (-1 : Int32)), .val (.int (-1 : Int32)), .val (.int (-1 : Int32)), .val (.int (-1 : Int32)), .val (.int (-1 : Int32)), .val (.int (0 : Int32)), .val (.int (0 : Int32))] [(.int (-1 : Int32)), (.int (-1 : Int32))])) st35 ?_
      refine Run.icmpNo (pc' := 171) X35 hx (hb hby at_168) (teq rfl).2 rfl ?_
      refine Run.iload (pc' := 173) X35 hx (hb hby at_171) rfl rfl ?_
      refine Run.iloadN (pc' := 174) X35 hx (hb hby at_173) rfl rfl ?_
      refine Run.iload (pc' := 176) X35 hx (hb hby at_174) rfl rfl ?_
      refine Run.iload (pc' := 178) X35 hx (hb hby at_176) rfl rfl ?_
      refine Run.iconst (pc' := 179) (v := (4 : Int32)) X35 hx (hb hby at_178) rfl rfl ?_
      obtain ⟨T36, L36, v36, X36, Q36, st36⟩ := callStatic X35 hx (y := (⟨"com/example/tallyhold/tallyhold/ledger/ArrayInputReadPinLaw", "expected", "(IIII)I"⟩ : MethodName)) (Ls := #[.val (.int p0), .val (.int p1), .val (.int p2), .val (.ref b1), .val (.int (0 : Int32)), .val (.int (0 : Int32)), .val (.ref b10), .val (.int (-1 : Int32)), .val (.int (-1 : Int32)), .val (.int (-1 : Int32)), .val (.int (-1 : Int32)), .val (.int (-1 : Int32)), .val (.int (0 : Int32)), .val (.int (0 : Int32))]) (rest := [(.int (-1 : Int32))]) (W := 1) (argsL := [(.int p0), (.int (0 : Int32)), (.int (0 : Int32)), (.int (4 : Int32))]) hZ hown (hw _ (List.mem_of_getElem? (i := 45) rfl)) (hw _ (List.mem_of_getElem? (i := 46) rfl)) (hw _ (List.mem_of_getElem? (i := 47) rfl)) (hw _ (List.mem_of_getElem? (i := 48) rfl)) (by decide) e35 (rm8 l Z a0 hw [] p0 (0 : Int32) (0 : Int32) (4 : Int32)  T27.heap n0 Z27 ) (hb hby at_179) (lenOf own_pd5 rfl) (by decide) (by decide) (by rw [hml]; rfl) (Nat.le_of_eq rfl) (by decide) (by decide)
      obtain ⟨hv36, M36, e36⟩ := Q36
      rw [show (own_F8 p0 (0 : Int32) (0 : Int32) (4 : Int32)) = (-1 : Int32) from rfl] at hv36
      subst hv36
      have N36 := Fr.app N35 M36
      refine Run.back (g' := (mkF m 182 #[.val (.int p0), .val (.int p1), .val (.int p2), .val (.ref b1), .val (.int (0 : Int32)), .val (.int (0 : Int32)), .val (.ref b10), .val (.int (-1 : Int32)), .val (.int (-1 : Int32)), .val (.int (-1 : Int32)), .val (.int (-1 : Int32)), .val (.int (-1 : Int32)), .val (.int (0 : Int32)), .val (.int (0 : Int32))] [(.int (-1 : Int32)), (.int (-1 : Int32))])) st36 ?_
      refine Run.icmpNo (pc' := 185) X36 hx (hb hby at_182) (teq rfl).2 rfl ?_
      refine Run.iload (pc' := 187) X36 hx (hb hby at_185) rfl rfl ?_
      refine Run.iload (pc' := 189) X36 hx (hb hby at_187) rfl rfl ?_
      refine Run.iload (pc' := 191) X36 hx (hb hby at_189) rfl rfl ?_
      refine Run.iadd (pc' := 192) X36 hx (hb hby at_191) rfl ?_
      refine Run.icmpNo (pc' := 195) X36 hx (hb hby at_192) (teq (by decide : (0 : Int32) = ((0 : Int32) + (0 : Int32)))).2 rfl ?_
      refine Run.iload (pc' := 197) X36 hx (hb hby at_195) rfl rfl ?_
      refine Run.ifNo (pc' := 200) X36 hx (hb hby at_197) ((if0 _ _).trans (teq (by decide : (0 : Int32) = (0 : Int32))).2) rfl ?_
      refine Run.iconst (pc' := 201) (v := (1 : Int32)) X36 hx (hb hby at_200) rfl rfl ?_
      refine Run.goto (pc' := 205) X36 hx (hb hby at_201) (by decide) (by decide) ?_
      exact Run.retSmall X36 hx (t := .boolean) (z' := (1 : Int32)) Bd.notSynchronized Bd.returns (by simp) rfl (hb hby at_205) ⟨rfl, N36⟩ (by decide) (by decide)
    · rw [hl]
      obtain ⟨T37, h37, X37, e37, E37, A37, D37, -, st37⟩ := newO X8 hx hZ hown (hw _ (List.mem_of_getElem? (i := 2) rfl)) (hw _ (List.mem_of_getElem? (i := 3) rfl)) (hw _ (List.mem_of_getElem? (i := 4) rfl)) e8 (g := (mkF m 52 #[.val (.int p0), .val (.int p1), .val (.int p2), .val (.ref b1), .val (.int (0 : Int32)), .val (.int (1 : Int32)), .unset, .unset, .unset, .unset, .unset, .unset, .unset, .unset] [])) rfl (hb hby at_52) (by decide) (by decide)
      obtain ⟨b37, g37⟩ : ∃ z, z = h8.size := ⟨_, rfl⟩
      rw [← g37] at A37 D37 st37
      have ne_b1_b37 : b1 ≠ b37 := Nat.ne_of_lt (Nat.lt_of_lt_of_le (A8).lt (Nat.le_of_eq g37.symm))
      have G37 : n0 ≤ b37 := Nat.le_trans Z8 (Nat.le_of_eq g37.symm)
      have Z37 : n0 ≤ h37.size := Nat.le_trans Z8 E37.1
      have fq38 := Ints.ext E37 A8
      have F37_bytes : Fld Z h37 b37 "com/example/tallyhold/tallyhold/ledger/ArrayInput" "bytes" "[B" .null := D37 (Or.inr (hw _ (List.mem_of_getElem? (i := 25) rfl))) (ty := (.array .byte)) (by decide)
      have F37_at : Fld Z h37 b37 "com/example/tallyhold/tallyhold/ledger/ArrayInput" "at" "I" (.int (0 : Int32)) := D37 (Or.inl (hw _ (List.mem_of_getElem? (i := 27) rfl))) (ty := .int) (by decide)
      have F37_end : Fld Z h37 b37 "com/example/tallyhold/tallyhold/ledger/ArrayInput" "end" "I" (.int (0 : Int32)) := D37 (Or.inr (hw _ (List.mem_of_getElem? (i := 29) rfl))) (ty := .int) (by decide)
      refine Run.back (g' := (mkF m 55 #[.val (.int p0), .val (.int p1), .val (.int p2), .val (.ref b1), .val (.int (0 : Int32)), .val (.int (1 : Int32)), .unset, .unset, .unset, .unset, .unset, .unset, .unset, .unset] [(.ref b37)])) st37 ?_
      refine Run.dup (pc' := 56) X37 hx (hb hby at_55) rfl rfl ?_
      refine Run.aloadN (pc' := 57) X37 hx (hb hby at_56) rfl rfl ?_
      refine Run.iload (pc' := 59) X37 hx (hb hby at_57) rfl rfl ?_
      refine Run.iload (pc' := 61) X37 hx (hb hby at_59) rfl rfl ?_
      obtain ⟨T39, L39, v39, X39, Q39, st39⟩ := callSpecial X37 hx (y := (⟨"com/example/tallyhold/tallyhold/ledger/ArrayInput", "<init>", "([BII)V"⟩ : MethodName)) (a := b37) (Ls := #[.val (.int p0), .val (.int p1), .val (.int p2), .val (.ref b1), .val (.int (0 : Int32)), .val (.int (1 : Int32)), .unset, .unset, .unset, .unset, .unset, .unset, .unset, .unset]) (rest := [(.ref b37)]) (W := 1) (argsL := [(.ref b1), (.int (0 : Int32)), (.int (1 : Int32))]) rfl hZ hown (hw _ (List.mem_of_getElem? (i := 5) rfl)) (hw _ (List.mem_of_getElem? (i := 6) rfl)) (hw _ (List.mem_of_getElem? (i := 4) rfl)) (hw _ (List.mem_of_getElem? (i := 7) rfl)) (by decide) e37 (rm4 l Z a0 hw [] b37 b1 (0 : Int32) (1 : Int32) f9 h37 n0 Z37 A37 F37_bytes F37_at F37_end G37 fq38 ne_b1_b37 (by decide) (by decide)) (hb hby at_61) (lenOf own_pd3 rfl) (by decide) (by decide) (by rw [hml]; rfl) (Nat.le_of_eq rfl) (by decide) (by decide)
      obtain ⟨rfl, M39, K39, E39, F39_bytes, F39_at, F39_end⟩ := Q39
      rw [show ((0 : Int32) + (1 : Int32)) = (1 : Int32) from rfl] at F39_end
      have N39 := Fr.app N8 M39
      have fq40 := Ints.keep fq38 K39 (ninS ne_b1_b37 nin0)
      have fq41 := Exa.keep A37 K39
      have Z39 : n0 ≤ T39.heap.size := Nat.le_trans Z37 K39.1
      refine Run.back (g' := (mkF m 64 #[.val (.int p0), .val (.int p1), .val (.int p2), .val (.ref b1), .val (.int (0 : Int32)), .val (.int (1 : Int32)), .unset, .unset, .unset, .unset, .unset, .unset, .unset, .unset] [(.ref b37)])) st39 ?_
      refine Run.astore (pc' := 66) X39 hx (l' := #[.val (.int p0), .val (.int p1), .val (.int p2), .val (.ref b1), .val (.int (0 : Int32)), .val (.int (1 : Int32)), .val (.ref b37), .unset, .unset, .unset, .unset, .unset, .unset, .unset]) (hb hby at_64) rfl rfl ?_
      refine Run.aload (pc' := 68) X39 hx (hb hby at_66) rfl rfl ?_
      obtain ⟨T42, L42, v42, X42, Q42, st42⟩ := callVirtual X39 hx (y := (⟨"com/example/tallyhold/tallyhold/ledger/ArrayInput", "read", "()I"⟩ : MethodName)) (z := (⟨"com/example/tallyhold/tallyhold/ledger/ArrayInput", "read", "()I"⟩ : MethodName)) (C := "com/example/tallyhold/tallyhold/ledger/ArrayInput") (a := b37) (Ls := #[.val (.int p0), .val (.int p1), .val (.int p2), .val (.ref b1), .val (.int (0 : Int32)), .val (.int (1 : Int32)), .val (.ref b37), .unset, .unset, .unset, .unset, .unset, .unset, .unset]) (rest := []) (W := 0) (argsL := []) hZ hown (hw _ (List.mem_of_getElem? (i := 30) rfl)) (hw _ (List.mem_of_getElem? (i := 31) rfl)) (notFace_of_selects (args := #[]) (mvT hZ (hw _ (List.mem_of_getElem? (i := 33) rfl)))) (hw _ (List.mem_of_getElem? (i := 33) rfl)) (hw _ (List.mem_of_getElem? (i := 32) rfl)) (hw _ (List.mem_of_getElem? (i := 4) rfl)) (hw _ (List.mem_of_getElem? (i := 34) rfl)) (by decide) rfl E39 (rm5 l Z a0 hw [] b37 b1 (0 : Int32) (1 : Int32) f9 T39.heap n0 Z39 E39 F39_bytes F39_at F39_end G37 fq40 ne_b1_b37 (by decide) (by decide)) (hb hby at_68) (lenOf own_pd4 rfl) (by decide) (by decide) (by rw [hml]; rfl) (Nat.le_of_eq rfl) (by decide) (by decide)
      obtain ⟨hv42, M42, K42, E42, F42_bytes, F42_at, F42_end⟩ := Q42
      rw [show (own_R (0 : Int32) (1 : Int32) f9) = ((f9 (0 : Int32)) &&& (255 : Int32)) from rfl] at hv42
      subst hv42
      rw [show (own_N (0 : Int32) (1 : Int32)) = (1 : Int32) from rfl] at F42_at
      have N42 := Fr.app N39 M42
      have fq43 := Ints.keep fq40 K42 (ninS ne_b1_b37 nin0)
      have fq44 := Exa.keep E39 K42
      have Z42 : n0 ≤ T42.heap.size := Nat.le_trans Z39 K42.1
      refine Run.back (g' := (mkF m 71 #[.val (.int p0), .val (.int p1), .val (.int p2), .val (.ref b1), .val (.int (0 : Int32)), .val (.int (1 : Int32)), .val (.ref b37), .unset, .unset, .unset, .unset, .unset, .unset, .unset] [(.int ((f9 (0 : Int32)) &&& (255 : Int32)))])) st42 ?_
      refine Run.istore (pc' := 73) X42 hx (l' := #[.val (.int p0), .val (.int p1), .val (.int p2), .val (.ref b1), .val (.int (0 : Int32)), .val (.int (1 : Int32)), .val (.ref b37), .val (.int ((f9 (0 : Int32)) &&& (255 : Int32))), .unset, .unset, .unset, .unset, .unset, .unset]) (hb hby at_71) rfl rfl ?_
      refine Run.aload (pc' := 75) X42 hx (hb hby at_73) rfl rfl ?_
      obtain ⟨T45, L45, v45, X45, Q45, st45⟩ := callVirtual X42 hx (y := (⟨"com/example/tallyhold/tallyhold/ledger/ArrayInput", "read", "()I"⟩ : MethodName)) (z := (⟨"com/example/tallyhold/tallyhold/ledger/ArrayInput", "read", "()I"⟩ : MethodName)) (C := "com/example/tallyhold/tallyhold/ledger/ArrayInput") (a := b37) (Ls := #[.val (.int p0), .val (.int p1), .val (.int p2), .val (.ref b1), .val (.int (0 : Int32)), .val (.int (1 : Int32)), .val (.ref b37), .val (.int ((f9 (0 : Int32)) &&& (255 : Int32))), .unset, .unset, .unset, .unset, .unset, .unset]) (rest := []) (W := 0) (argsL := []) hZ hown (hw _ (List.mem_of_getElem? (i := 30) rfl)) (hw _ (List.mem_of_getElem? (i := 31) rfl)) (notFace_of_selects (args := #[]) (mvT hZ (hw _ (List.mem_of_getElem? (i := 33) rfl)))) (hw _ (List.mem_of_getElem? (i := 33) rfl)) (hw _ (List.mem_of_getElem? (i := 32) rfl)) (hw _ (List.mem_of_getElem? (i := 4) rfl)) (hw _ (List.mem_of_getElem? (i := 34) rfl)) (by decide) rfl E42 (rm5 l Z a0 hw [] b37 b1 (1 : Int32) (1 : Int32) f9 T42.heap n0 Z42 E42 F42_bytes F42_at F42_end G37 fq43 ne_b1_b37 (by decide) (by decide)) (hb hby at_75) (lenOf own_pd4 rfl) (by decide) (by decide) (by rw [hml]; rfl) (Nat.le_of_eq rfl) (by decide) (by decide)
      obtain ⟨hv45, M45, K45, E45, F45_bytes, F45_at, F45_end⟩ := Q45
      rw [show (own_R (1 : Int32) (1 : Int32) f9) = (-1 : Int32) from rfl] at hv45
      subst hv45
      rw [show (own_N (1 : Int32) (1 : Int32)) = (1 : Int32) from rfl] at F45_at
      have N45 := Fr.app N42 M45
      have fq46 := Ints.keep fq43 K45 (ninS ne_b1_b37 nin0)
      have fq47 := Exa.keep E42 K45
      have Z45 : n0 ≤ T45.heap.size := Nat.le_trans Z42 K45.1
      refine Run.back (g' := (mkF m 78 #[.val (.int p0), .val (.int p1), .val (.int p2), .val (.ref b1), .val (.int (0 : Int32)), .val (.int (1 : Int32)), .val (.ref b37), .val (.int ((f9 (0 : Int32)) &&& (255 : Int32))), .unset, .unset, .unset, .unset, .unset, .unset] [(.int (-1 : Int32))])) st45 ?_
      refine Run.istore (pc' := 80) X45 hx (l' := #[.val (.int p0), .val (.int p1), .val (.int p2), .val (.ref b1), .val (.int (0 : Int32)), .val (.int (1 : Int32)), .val (.ref b37), .val (.int ((f9 (0 : Int32)) &&& (255 : Int32))), .val (.int (-1 : Int32)), .unset, .unset, .unset, .unset, .unset]) (hb hby at_78) rfl rfl ?_
      refine Run.aload (pc' := 82) X45 hx (hb hby at_80) rfl rfl ?_
      obtain ⟨T48, L48, v48, X48, Q48, st48⟩ := callVirtual X45 hx (y := (⟨"com/example/tallyhold/tallyhold/ledger/ArrayInput", "read", "()I"⟩ : MethodName)) (z := (⟨"com/example/tallyhold/tallyhold/ledger/ArrayInput", "read", "()I"⟩ : MethodName)) (C := "com/example/tallyhold/tallyhold/ledger/ArrayInput") (a := b37) (Ls := #[.val (.int p0), .val (.int p1), .val (.int p2), .val (.ref b1), .val (.int (0 : Int32)), .val (.int (1 : Int32)), .val (.ref b37), .val (.int ((f9 (0 : Int32)) &&& (255 : Int32))), .val (.int (-1 : Int32)), .unset, .unset, .unset, .unset, .unset]) (rest := []) (W := 0) (argsL := []) hZ hown (hw _ (List.mem_of_getElem? (i := 30) rfl)) (hw _ (List.mem_of_getElem? (i := 31) rfl)) (notFace_of_selects (args := #[]) (mvT hZ (hw _ (List.mem_of_getElem? (i := 33) rfl)))) (hw _ (List.mem_of_getElem? (i := 33) rfl)) (hw _ (List.mem_of_getElem? (i := 32) rfl)) (hw _ (List.mem_of_getElem? (i := 4) rfl)) (hw _ (List.mem_of_getElem? (i := 34) rfl)) (by decide) rfl E45 (rm5 l Z a0 hw [] b37 b1 (1 : Int32) (1 : Int32) f9 T45.heap n0 Z45 E45 F45_bytes F45_at F45_end G37 fq46 ne_b1_b37 (by decide) (by decide)) (hb hby at_82) (lenOf own_pd4 rfl) (by decide) (by decide) (by rw [hml]; rfl) (Nat.le_of_eq rfl) (by decide) (by decide)
      obtain ⟨hv48, M48, K48, E48, F48_bytes, F48_at, F48_end⟩ := Q48
      rw [show (own_R (1 : Int32) (1 : Int32) f9) = (-1 : Int32) from rfl] at hv48
      subst hv48
      rw [show (own_N (1 : Int32) (1 : Int32)) = (1 : Int32) from rfl] at F48_at
      have N48 := Fr.app N45 M48
      have fq49 := Ints.keep fq46 K48 (ninS ne_b1_b37 nin0)
      have fq50 := Exa.keep E45 K48
      have Z48 : n0 ≤ T48.heap.size := Nat.le_trans Z45 K48.1
      refine Run.back (g' := (mkF m 85 #[.val (.int p0), .val (.int p1), .val (.int p2), .val (.ref b1), .val (.int (0 : Int32)), .val (.int (1 : Int32)), .val (.ref b37), .val (.int ((f9 (0 : Int32)) &&& (255 : Int32))), .val (.int (-1 : Int32)), .unset, .unset, .unset, .unset, .unset] [(.int (-1 : Int32))])) st48 ?_
      refine Run.istore (pc' := 87) X48 hx (l' := #[.val (.int p0), .val (.int p1), .val (.int p2), .val (.ref b1), .val (.int (0 : Int32)), .val (.int (1 : Int32)), .val (.ref b37), .val (.int ((f9 (0 : Int32)) &&& (255 : Int32))), .val (.int (-1 : Int32)), .val (.int (-1 : Int32)), .unset, .unset, .unset, .unset]) (hb hby at_85) rfl rfl ?_
      refine Run.aload (pc' := 89) X48 hx (hb hby at_87) rfl rfl ?_
      obtain ⟨T51, L51, v51, X51, Q51, st51⟩ := callVirtual X48 hx (y := (⟨"com/example/tallyhold/tallyhold/ledger/ArrayInput", "read", "()I"⟩ : MethodName)) (z := (⟨"com/example/tallyhold/tallyhold/ledger/ArrayInput", "read", "()I"⟩ : MethodName)) (C := "com/example/tallyhold/tallyhold/ledger/ArrayInput") (a := b37) (Ls := #[.val (.int p0), .val (.int p1), .val (.int p2), .val (.ref b1), .val (.int (0 : Int32)), .val (.int (1 : Int32)), .val (.ref b37), .val (.int ((f9 (0 : Int32)) &&& (255 : Int32))), .val (.int (-1 : Int32)), .val (.int (-1 : Int32)), .unset, .unset, .unset, .unset]) (rest := []) (W := 0) (argsL := []) hZ hown (hw _ (List.mem_of_getElem? (i := 30) rfl)) (hw _ (List.mem_of_getElem? (i := 31) rfl)) (notFace_of_selects (args := #[]) (mvT hZ (hw _ (List.mem_of_getElem? (i := 33) rfl)))) (hw _ (List.mem_of_getElem? (i := 33) rfl)) (hw _ (List.mem_of_getElem? (i := 32) rfl)) (hw _ (List.mem_of_getElem? (i := 4) rfl)) (hw _ (List.mem_of_getElem? (i := 34) rfl)) (by decide) rfl E48 (rm5 l Z a0 hw [] b37 b1 (1 : Int32) (1 : Int32) f9 T48.heap n0 Z48 E48 F48_bytes F48_at F48_end G37 fq49 ne_b1_b37 (by decide) (by decide)) (hb hby at_89) (lenOf own_pd4 rfl) (by decide) (by decide) (by rw [hml]; rfl) (Nat.le_of_eq rfl) (by decide) (by decide)
      obtain ⟨hv51, M51, K51, E51, F51_bytes, F51_at, F51_end⟩ := Q51
      rw [show (own_R (1 : Int32) (1 : Int32) f9) = (-1 : Int32) from rfl] at hv51
      subst hv51
      rw [show (own_N (1 : Int32) (1 : Int32)) = (1 : Int32) from rfl] at F51_at
      have N51 := Fr.app N48 M51
      have fq52 := Ints.keep fq49 K51 (ninS ne_b1_b37 nin0)
      have fq53 := Exa.keep E48 K51
      have Z51 : n0 ≤ T51.heap.size := Nat.le_trans Z48 K51.1
      refine Run.back (g' := (mkF m 92 #[.val (.int p0), .val (.int p1), .val (.int p2), .val (.ref b1), .val (.int (0 : Int32)), .val (.int (1 : Int32)), .val (.ref b37), .val (.int ((f9 (0 : Int32)) &&& (255 : Int32))), .val (.int (-1 : Int32)), .val (.int (-1 : Int32)), .unset, .unset, .unset, .unset] [(.int (-1 : Int32))])) st51 ?_
      refine Run.istore (pc' := 94) X51 hx (l' := #[.val (.int p0), .val (.int p1), .val (.int p2), .val (.ref b1), .val (.int (0 : Int32)), .val (.int (1 : Int32)), .val (.ref b37), .val (.int ((f9 (0 : Int32)) &&& (255 : Int32))), .val (.int (-1 : Int32)), .val (.int (-1 : Int32)), .val (.int (-1 : Int32)), .unset, .unset, .unset]) (hb hby at_92) rfl rfl ?_
      refine Run.aload (pc' := 96) X51 hx (hb hby at_94) rfl rfl ?_
      obtain ⟨T54, L54, v54, X54, Q54, st54⟩ := callVirtual X51 hx (y := (⟨"com/example/tallyhold/tallyhold/ledger/ArrayInput", "read", "()I"⟩ : MethodName)) (z := (⟨"com/example/tallyhold/tallyhold/ledger/ArrayInput", "read", "()I"⟩ : MethodName)) (C := "com/example/tallyhold/tallyhold/ledger/ArrayInput") (a := b37) (Ls := #[.val (.int p0), .val (.int p1), .val (.int p2), .val (.ref b1), .val (.int (0 : Int32)), .val (.int (1 : Int32)), .val (.ref b37), .val (.int ((f9 (0 : Int32)) &&& (255 : Int32))), .val (.int (-1 : Int32)), .val (.int (-1 : Int32)), .val (.int (-1 : Int32)), .unset, .unset, .unset]) (rest := []) (W := 0) (argsL := []) hZ hown (hw _ (List.mem_of_getElem? (i := 30) rfl)) (hw _ (List.mem_of_getElem? (i := 31) rfl)) (notFace_of_selects (args := #[]) (mvT hZ (hw _ (List.mem_of_getElem? (i := 33) rfl)))) (hw _ (List.mem_of_getElem? (i := 33) rfl)) (hw _ (List.mem_of_getElem? (i := 32) rfl)) (hw _ (List.mem_of_getElem? (i := 4) rfl)) (hw _ (List.mem_of_getElem? (i := 34) rfl)) (by decide) rfl E51 (rm5 l Z a0 hw [] b37 b1 (1 : Int32) (1 : Int32) f9 T51.heap n0 Z51 E51 F51_bytes F51_at F51_end G37 fq52 ne_b1_b37 (by decide) (by decide)) (hb hby at_96) (lenOf own_pd4 rfl) (by decide) (by decide) (by rw [hml]; rfl) (Nat.le_of_eq rfl) (by decide) (by decide)
      obtain ⟨hv54, M54, K54, E54, F54_bytes, F54_at, F54_end⟩ := Q54
      rw [show (own_R (1 : Int32) (1 : Int32) f9) = (-1 : Int32) from rfl] at hv54
      subst hv54
      rw [show (own_N (1 : Int32) (1 : Int32)) = (1 : Int32) from rfl] at F54_at
      have N54 := Fr.app N51 M54
      have fq55 := Ints.keep fq52 K54 (ninS ne_b1_b37 nin0)
      have fq56 := Exa.keep E51 K54
      have Z54 : n0 ≤ T54.heap.size := Nat.le_trans Z51 K54.1
      refine Run.back (g' := (mkF m 99 #[.val (.int p0), .val (.int p1), .val (.int p2), .val (.ref b1), .val (.int (0 : Int32)), .val (.int (1 : Int32)), .val (.ref b37), .val (.int ((f9 (0 : Int32)) &&& (255 : Int32))), .val (.int (-1 : Int32)), .val (.int (-1 : Int32)), .val (.int (-1 : Int32)), .unset, .unset, .unset] [(.int (-1 : Int32))])) st54 ?_
      refine Run.istore (pc' := 101) X54 hx (l' := #[.val (.int p0), .val (.int p1), .val (.int p2), .val (.ref b1), .val (.int (0 : Int32)), .val (.int (1 : Int32)), .val (.ref b37), .val (.int ((f9 (0 : Int32)) &&& (255 : Int32))), .val (.int (-1 : Int32)), .val (.int (-1 : Int32)), .val (.int (-1 : Int32)), .val (.int (-1 : Int32)), .unset, .unset]) (hb hby at_99) rfl rfl ?_
      refine Run.aload (pc' := 103) X54 hx (hb hby at_101) rfl rfl ?_
      obtain ⟨T57, L57, v57, X57, Q57, st57⟩ := callVirtual X54 hx (y := (⟨"com/example/tallyhold/tallyhold/ledger/ArrayInput", "position", "()I"⟩ : MethodName)) (z := (⟨"com/example/tallyhold/tallyhold/ledger/ArrayInput", "position", "()I"⟩ : MethodName)) (C := "com/example/tallyhold/tallyhold/ledger/ArrayInput") (a := b37) (Ls := #[.val (.int p0), .val (.int p1), .val (.int p2), .val (.ref b1), .val (.int (0 : Int32)), .val (.int (1 : Int32)), .val (.ref b37), .val (.int ((f9 (0 : Int32)) &&& (255 : Int32))), .val (.int (-1 : Int32)), .val (.int (-1 : Int32)), .val (.int (-1 : Int32)), .val (.int (-1 : Int32)), .unset, .unset]) (rest := []) (W := 0) (argsL := []) hZ hown (hw _ (List.mem_of_getElem? (i := 35) rfl)) (hw _ (List.mem_of_getElem? (i := 36) rfl)) (notFace_of_selects (args := #[]) (mvT hZ (hw _ (List.mem_of_getElem? (i := 38) rfl)))) (hw _ (List.mem_of_getElem? (i := 38) rfl)) (hw _ (List.mem_of_getElem? (i := 37) rfl)) (hw _ (List.mem_of_getElem? (i := 4) rfl)) (hw _ (List.mem_of_getElem? (i := 39) rfl)) (by decide) rfl E54 (rm6 l Z a0 hw [] b37 (1 : Int32) T54.heap n0 Z54 F54_at) (hb hby at_103) (lenOf own_pd4 rfl) (by decide) (by decide) (by rw [hml]; rfl) (Nat.le_of_eq rfl) (by decide) (by decide)
      obtain ⟨hv57, M57, e57⟩ := Q57
      rw [show (own_F6 b37 (1 : Int32)) = (1 : Int32) from rfl] at hv57
      subst hv57
      have N57 := Fr.app N54 M57
      refine Run.back (g' := (mkF m 106 #[.val (.int p0), .val (.int p1), .val (.int p2), .val (.ref b1), .val (.int (0 : Int32)), .val (.int (1 : Int32)), .val (.ref b37), .val (.int ((f9 (0 : Int32)) &&& (255 : Int32))), .val (.int (-1 : Int32)), .val (.int (-1 : Int32)), .val (.int (-1 : Int32)), .val (.int (-1 : Int32)), .unset, .unset] [(.int (1 : Int32))])) st57 ?_
      refine Run.istore (pc' := 108) X57 hx (l' := #[.val (.int p0), .val (.int p1), .val (.int p2), .val (.ref b1), .val (.int (0 : Int32)), .val (.int (1 : Int32)), .val (.ref b37), .val (.int ((f9 (0 : Int32)) &&& (255 : Int32))), .val (.int (-1 : Int32)), .val (.int (-1 : Int32)), .val (.int (-1 : Int32)), .val (.int (-1 : Int32)), .val (.int (1 : Int32)), .unset]) (hb hby at_106) rfl rfl ?_
      refine Run.aload (pc' := 110) X57 hx (hb hby at_108) rfl rfl ?_
      obtain ⟨T58, L58, v58, X58, Q58, st58⟩ := callVirtual X57 hx (y := (⟨"com/example/tallyhold/tallyhold/ledger/ArrayInput", "available", "()I"⟩ : MethodName)) (z := (⟨"com/example/tallyhold/tallyhold/ledger/ArrayInput", "available", "()I"⟩ : MethodName)) (C := "com/example/tallyhold/tallyhold/ledger/ArrayInput") (a := b37) (Ls := #[.val (.int p0), .val (.int p1), .val (.int p2), .val (.ref b1), .val (.int (0 : Int32)), .val (.int (1 : Int32)), .val (.ref b37), .val (.int ((f9 (0 : Int32)) &&& (255 : Int32))), .val (.int (-1 : Int32)), .val (.int (-1 : Int32)), .val (.int (-1 : Int32)), .val (.int (-1 : Int32)), .val (.int (1 : Int32)), .unset]) (rest := []) (W := 0) (argsL := []) hZ hown (hw _ (List.mem_of_getElem? (i := 40) rfl)) (hw _ (List.mem_of_getElem? (i := 41) rfl)) (notFace_of_selects (args := #[]) (mvT hZ (hw _ (List.mem_of_getElem? (i := 43) rfl)))) (hw _ (List.mem_of_getElem? (i := 43) rfl)) (hw _ (List.mem_of_getElem? (i := 42) rfl)) (hw _ (List.mem_of_getElem? (i := 4) rfl)) (hw _ (List.mem_of_getElem? (i := 44) rfl)) (by decide) e57 E54 (rm7 l Z a0 hw [] b37 (1 : Int32) (1 : Int32) T54.heap n0 Z54 F54_at F54_end) (hb hby at_110) (lenOf own_pd4 rfl) (by decide) (by decide) (by rw [hml]; rfl) (Nat.le_of_eq rfl) (by decide) (by decide)
      obtain ⟨hv58, M58, e58⟩ := Q58
      rw [show (own_F7 b37 (1 : Int32) (1 : Int32)) = (0 : Int32) from rfl] at hv58
      subst hv58
      have N58 := Fr.app N57 M58
      refine Run.back (g' := (mkF m 113 #[.val (.int p0), .val (.int p1), .val (.int p2), .val (.ref b1), .val (.int (0 : Int32)), .val (.int (1 : Int32)), .val (.ref b37), .val (.int ((f9 (0 : Int32)) &&& (255 : Int32))), .val (.int (-1 : Int32)), .val (.int (-1 : Int32)), .val (.int (-1 : Int32)), .val (.int (-1 : Int32)), .val (.int (1 : Int32)), .unset] [(.int (0 : Int32))])) st58 ?_
      refine Run.istore (pc' := 115) X58 hx (l' := #[.val (.int p0), .val (.int p1), .val (.int p2), .val (.ref b1), .val (.int (0 : Int32)), .val (.int (1 : Int32)), .val (.ref b37), .val (.int ((f9 (0 : Int32)) &&& (255 : Int32))), .val (.int (-1 : Int32)), .val (.int (-1 : Int32)), .val (.int (-1 : Int32)), .val (.int (-1 : Int32)), .val (.int (1 : Int32)), .val (.int (0 : Int32))]) (hb hby at_113) rfl rfl ?_
      refine Run.iload (pc' := 117) X58 hx (hb hby at_115) rfl rfl ?_
      refine Run.iloadN (pc' := 118) X58 hx (hb hby at_117) rfl rfl ?_
      refine Run.iload (pc' := 120) X58 hx (hb hby at_118) rfl rfl ?_
      refine Run.iload (pc' := 122) X58 hx (hb hby at_120) rfl rfl ?_
      refine Run.iconst (pc' := 123) (v := (0 : Int32)) X58 hx (hb hby at_122) rfl rfl ?_
      obtain ⟨T59, L59, v59, X59, Q59, st59⟩ := callStatic X58 hx (y := (⟨"com/example/tallyhold/tallyhold/ledger/ArrayInputReadPinLaw", "expected", "(IIII)I"⟩ : MethodName)) (Ls := #[.val (.int p0), .val (.int p1), .val (.int p2), .val (.ref b1), .val (.int (0 : Int32)), .val (.int (1 : Int32)), .val (.ref b37), .val (.int ((f9 (0 : Int32)) &&& (255 : Int32))), .val (.int (-1 : Int32)), .val (.int (-1 : Int32)), .val (.int (-1 : Int32)), .val (.int (-1 : Int32)), .val (.int (1 : Int32)), .val (.int (0 : Int32))]) (rest := [(.int ((f9 (0 : Int32)) &&& (255 : Int32)))]) (W := 1) (argsL := [(.int p0), (.int (0 : Int32)), (.int (1 : Int32)), (.int (0 : Int32))]) hZ hown (hw _ (List.mem_of_getElem? (i := 45) rfl)) (hw _ (List.mem_of_getElem? (i := 46) rfl)) (hw _ (List.mem_of_getElem? (i := 47) rfl)) (hw _ (List.mem_of_getElem? (i := 48) rfl)) (by decide) e58 (rm8 l Z a0 hw [] p0 (0 : Int32) (1 : Int32) (0 : Int32)  T54.heap n0 Z54 ) (hb hby at_123) (lenOf own_pd5 rfl) (by decide) (by decide) (by rw [hml]; rfl) (Nat.le_of_eq rfl) (by decide) (by decide)
      obtain ⟨hv59, M59, e59⟩ := Q59
      rw [show (own_F8 p0 (0 : Int32) (1 : Int32) (0 : Int32)) = (((p0.toUInt32 >>> ((0 : Int32) &&& 31).toUInt32).toInt32) &&& (255 : Int32)) from rfl] at hv59
      subst hv59
      have N59 := Fr.app N58 M59
      refine Run.back (g' := (mkF m 126 #[.val (.int p0), .val (.int p1), .val (.int p2), .val (.ref b1), .val (.int (0 : Int32)), .val (.int (1 : Int32)), .val (.ref b37), .val (.int ((f9 (0 : Int32)) &&& (255 : Int32))), .val (.int (-1 : Int32)), .val (.int (-1 : Int32)), .val (.int (-1 : Int32)), .val (.int (-1 : Int32)), .val (.int (1 : Int32)), .val (.int (0 : Int32))] [(.int (((p0.toUInt32 >>> ((0 : Int32) &&& 31).toUInt32).toInt32) &&& (255 : Int32))), (.int ((f9 (0 : Int32)) &&& (255 : Int32)))])) st59 ?_
      refine Run.icmpNo (pc' := 129) X59 hx (hb hby at_126) (teq (own_b0 g0)).2 rfl ?_
      refine Run.iload (pc' := 131) X59 hx (hb hby at_129) rfl rfl ?_
      refine Run.iloadN (pc' := 132) X59 hx (hb hby at_131) rfl rfl ?_
      refine Run.iload (pc' := 134) X59 hx (hb hby at_132) rfl rfl ?_
      refine Run.iload (pc' := 136) X59 hx (hb hby at_134) rfl rfl ?_
      refine Run.iconst (pc' := 137) (v := (1 : Int32)) X59 hx (hb hby at_136) rfl rfl ?_
      obtain ⟨T60, L60, v60, X60, Q60, st60⟩ := callStatic X59 hx (y := (⟨"com/example/tallyhold/tallyhold/ledger/ArrayInputReadPinLaw", "expected", "(IIII)I"⟩ : MethodName)) (Ls := #[.val (.int p0), .val (.int p1), .val (.int p2), .val (.ref b1), .val (.int (0 : Int32)), .val (.int (1 : Int32)), .val (.ref b37), .val (.int ((f9 (0 : Int32)) &&& (255 : Int32))), .val (.int (-1 : Int32)), .val (.int (-1 : Int32)), .val (.int (-1 : Int32)), .val (.int (-1 : Int32)), .val (.int (1 : Int32)), .val (.int (0 : Int32))]) (rest := [(.int (-1 : Int32))]) (W := 1) (argsL := [(.int p0), (.int (0 : Int32)), (.int (1 : Int32)), (.int (1 : Int32))]) hZ hown (hw _ (List.mem_of_getElem? (i := 45) rfl)) (hw _ (List.mem_of_getElem? (i := 46) rfl)) (hw _ (List.mem_of_getElem? (i := 47) rfl)) (hw _ (List.mem_of_getElem? (i := 48) rfl)) (by decide) e59 (rm8 l Z a0 hw [] p0 (0 : Int32) (1 : Int32) (1 : Int32)  T54.heap n0 Z54 ) (hb hby at_137) (lenOf own_pd5 rfl) (by decide) (by decide) (by rw [hml]; rfl) (Nat.le_of_eq rfl) (by decide) (by decide)
      obtain ⟨hv60, M60, e60⟩ := Q60
      rw [show (own_F8 p0 (0 : Int32) (1 : Int32) (1 : Int32)) = (-1 : Int32) from rfl] at hv60
      subst hv60
      have N60 := Fr.app N59 M60
      refine Run.back (g' := (mkF m 140 #[.val (.int p0), .val (.int p1), .val (.int p2), .val (.ref b1), .val (.int (0 : Int32)), .val (.int (1 : Int32)), .val (.ref b37), .val (.int ((f9 (0 : Int32)) &&& (255 : Int32))), .val (.int (-1 : Int32)), .val (.int (-1 : Int32)), .val (.int (-1 : Int32)), .val (.int (-1 : Int32)), .val (.int (1 : Int32)), .val (.int (0 : Int32))] [(.int (-1 : Int32)), (.int (-1 : Int32))])) st60 ?_
      refine Run.icmpNo (pc' := 143) X60 hx (hb hby at_140) (teq rfl).2 rfl ?_
      refine Run.iload (pc' := 145) X60 hx (hb hby at_143) rfl rfl ?_
      refine Run.iloadN (pc' := 146) X60 hx (hb hby at_145) rfl rfl ?_
      refine Run.iload (pc' := 148) X60 hx (hb hby at_146) rfl rfl ?_
      refine Run.iload (pc' := 150) X60 hx (hb hby at_148) rfl rfl ?_
      refine Run.iconst (pc' := 151) (v := (2 : Int32)) X60 hx (hb hby at_150) rfl rfl ?_
      obtain ⟨T61, L61, v61, X61, Q61, st61⟩ := callStatic X60 hx (y := (⟨"com/example/tallyhold/tallyhold/ledger/ArrayInputReadPinLaw", "expected", "(IIII)I"⟩ : MethodName)) (Ls := #[.val (.int p0), .val (.int p1), .val (.int p2), .val (.ref b1), .val (.int (0 : Int32)), .val (.int (1 : Int32)), .val (.ref b37), .val (.int ((f9 (0 : Int32)) &&& (255 : Int32))), .val (.int (-1 : Int32)), .val (.int (-1 : Int32)), .val (.int (-1 : Int32)), .val (.int (-1 : Int32)), .val (.int (1 : Int32)), .val (.int (0 : Int32))]) (rest := [(.int (-1 : Int32))]) (W := 1) (argsL := [(.int p0), (.int (0 : Int32)), (.int (1 : Int32)), (.int (2 : Int32))]) hZ hown (hw _ (List.mem_of_getElem? (i := 45) rfl)) (hw _ (List.mem_of_getElem? (i := 46) rfl)) (hw _ (List.mem_of_getElem? (i := 47) rfl)) (hw _ (List.mem_of_getElem? (i := 48) rfl)) (by decide) e60 (rm8 l Z a0 hw [] p0 (0 : Int32) (1 : Int32) (2 : Int32)  T54.heap n0 Z54 ) (hb hby at_151) (lenOf own_pd5 rfl) (by decide) (by decide) (by rw [hml]; rfl) (Nat.le_of_eq rfl) (by decide) (by decide)
      obtain ⟨hv61, M61, e61⟩ := Q61
      rw [show (own_F8 p0 (0 : Int32) (1 : Int32) (2 : Int32)) = (-1 : Int32) from rfl] at hv61
      subst hv61
      have N61 := Fr.app N60 M61
      refine Run.back (g' := (mkF m 154 #[.val (.int p0), .val (.int p1), .val (.int p2), .val (.ref b1), .val (.int (0 : Int32)), .val (.int (1 : Int32)), .val (.ref b37), .val (.int ((f9 (0 : Int32)) &&& (255 : Int32))), .val (.int (-1 : Int32)), .val (.int (-1 : Int32)), .val (.int (-1 : Int32)), .val (.int (-1 : Int32)), .val (.int (1 : Int32)), .val (.int (0 : Int32))] [(.int (-1 : Int32)), (.int (-1 : Int32))])) st61 ?_
      refine Run.icmpNo (pc' := 157) X61 hx (hb hby at_154) (teq rfl).2 rfl ?_
      refine Run.iload (pc' := 159) X61 hx (hb hby at_157) rfl rfl ?_
      refine Run.iloadN (pc' := 160) X61 hx (hb hby at_159) rfl rfl ?_
      refine Run.iload (pc' := 162) X61 hx (hb hby at_160) rfl rfl ?_
      refine Run.iload (pc' := 164) X61 hx (hb hby at_162) rfl rfl ?_
      refine Run.iconst (pc' := 165) (v := (3 : Int32)) X61 hx (hb hby at_164) rfl rfl ?_
      obtain ⟨T62, L62, v62, X62, Q62, st62⟩ := callStatic X61 hx (y := (⟨"com/example/tallyhold/tallyhold/ledger/ArrayInputReadPinLaw", "expected", "(IIII)I"⟩ : MethodName)) (Ls := #[.val (.int p0), .val (.int p1), .val (.int p2), .val (.ref b1), .val (.int (0 : Int32)), .val (.int (1 : Int32)), .val (.ref b37), .val (.int ((f9 (0 : Int32)) &&& (255 : Int32))), .val (.int (-1 : Int32)), .val (.int (-1 : Int32)), .val (.int (-1 : Int32)), .val (.int (-1 : Int32)), .val (.int (1 : Int32)), .val (.int (0 : Int32))]) (rest := [(.int (-1 : Int32))]) (W := 1) (argsL := [(.int p0), (.int (0 : Int32)), (.int (1 : Int32)), (.int (3 : Int32))]) hZ hown (hw _ (List.mem_of_getElem? (i := 45) rfl)) (hw _ (List.mem_of_getElem? (i := 46) rfl)) (hw _ (List.mem_of_getElem? (i := 47) rfl)) (hw _ (List.mem_of_getElem? (i := 48) rfl)) (by decide) e61 (rm8 l Z a0 hw [] p0 (0 : Int32) (1 : Int32) (3 : Int32)  T54.heap n0 Z54 ) (hb hby at_165) (lenOf own_pd5 rfl) (by decide) (by decide) (by rw [hml]; rfl) (Nat.le_of_eq rfl) (by decide) (by decide)
      obtain ⟨hv62, M62, e62⟩ := Q62
      rw [show (own_F8 p0 (0 : Int32) (1 : Int32) (3 : Int32)) = (-1 : Int32) from rfl] at hv62
      subst hv62
      have N62 := Fr.app N61 M62
      refine Run.back (g' := (mkF m 168 #[.val (.int p0), .val (.int p1), .val (.int p2), .val (.ref b1), .val (.int (0 : Int32)), .val (.int (1 : Int32)), .val (.ref b37), .val (.int ((f9 (0 : Int32)) &&& (255 : Int32))), .val (.int (-1 : Int32)), .val (.int (-1 : Int32)), .val (.int (-1 : Int32)), .val (.int (-1 : Int32)), .val (.int (1 : Int32)), .val (.int (0 : Int32))] [(.int (-1 : Int32)), (.int (-1 : Int32))])) st62 ?_
      refine Run.icmpNo (pc' := 171) X62 hx (hb hby at_168) (teq rfl).2 rfl ?_
      refine Run.iload (pc' := 173) X62 hx (hb hby at_171) rfl rfl ?_
      refine Run.iloadN (pc' := 174) X62 hx (hb hby at_173) rfl rfl ?_
      refine Run.iload (pc' := 176) X62 hx (hb hby at_174) rfl rfl ?_
      refine Run.iload (pc' := 178) X62 hx (hb hby at_176) rfl rfl ?_
      refine Run.iconst (pc' := 179) (v := (4 : Int32)) X62 hx (hb hby at_178) rfl rfl ?_
      obtain ⟨T63, L63, v63, X63, Q63, st63⟩ := callStatic X62 hx (y := (⟨"com/example/tallyhold/tallyhold/ledger/ArrayInputReadPinLaw", "expected", "(IIII)I"⟩ : MethodName)) (Ls := #[.val (.int p0), .val (.int p1), .val (.int p2), .val (.ref b1), .val (.int (0 : Int32)), .val (.int (1 : Int32)), .val (.ref b37), .val (.int ((f9 (0 : Int32)) &&& (255 : Int32))), .val (.int (-1 : Int32)), .val (.int (-1 : Int32)), .val (.int (-1 : Int32)), .val (.int (-1 : Int32)), .val (.int (1 : Int32)), .val (.int (0 : Int32))]) (rest := [(.int (-1 : Int32))]) (W := 1) (argsL := [(.int p0), (.int (0 : Int32)), (.int (1 : Int32)), (.int (4 : Int32))]) hZ hown (hw _ (List.mem_of_getElem? (i := 45) rfl)) (hw _ (List.mem_of_getElem? (i := 46) rfl)) (hw _ (List.mem_of_getElem? (i := 47) rfl)) (hw _ (List.mem_of_getElem? (i := 48) rfl)) (by decide) e62 (rm8 l Z a0 hw [] p0 (0 : Int32) (1 : Int32) (4 : Int32)  T54.heap n0 Z54 ) (hb hby at_179) (lenOf own_pd5 rfl) (by decide) (by decide) (by rw [hml]; rfl) (Nat.le_of_eq rfl) (by decide) (by decide)
      obtain ⟨hv63, M63, e63⟩ := Q63
      rw [show (own_F8 p0 (0 : Int32) (1 : Int32) (4 : Int32)) = (-1 : Int32) from rfl] at hv63
      subst hv63
      have N63 := Fr.app N62 M63
      refine Run.back (g' := (mkF m 182 #[.val (.int p0), .val (.int p1), .val (.int p2), .val (.ref b1), .val (.int (0 : Int32)), .val (.int (1 : Int32)), .val (.ref b37), .val (.int ((f9 (0 : Int32)) &&& (255 : Int32))), .val (.int (-1 : Int32)), .val (.int (-1 : Int32)), .val (.int (-1 : Int32)), .val (.int (-1 : Int32)), .val (.int (1 : Int32)), .val (.int (0 : Int32))] [(.int (-1 : Int32)), (.int (-1 : Int32))])) st63 ?_
      refine Run.icmpNo (pc' := 185) X63 hx (hb hby at_182) (teq rfl).2 rfl ?_
      refine Run.iload (pc' := 187) X63 hx (hb hby at_185) rfl rfl ?_
      refine Run.iload (pc' := 189) X63 hx (hb hby at_187) rfl rfl ?_
      refine Run.iload (pc' := 191) X63 hx (hb hby at_189) rfl rfl ?_
      refine Run.iadd (pc' := 192) X63 hx (hb hby at_191) rfl ?_
      refine Run.icmpNo (pc' := 195) X63 hx (hb hby at_192) (teq (by decide : (1 : Int32) = ((0 : Int32) + (1 : Int32)))).2 rfl ?_
      refine Run.iload (pc' := 197) X63 hx (hb hby at_195) rfl rfl ?_
      refine Run.ifNo (pc' := 200) X63 hx (hb hby at_197) ((if0 _ _).trans (teq (by decide : (0 : Int32) = (0 : Int32))).2) rfl ?_
      refine Run.iconst (pc' := 201) (v := (1 : Int32)) X63 hx (hb hby at_200) rfl rfl ?_
      refine Run.goto (pc' := 205) X63 hx (hb hby at_201) (by decide) (by decide) ?_
      exact Run.retSmall X63 hx (t := .boolean) (z' := (1 : Int32)) Bd.notSynchronized Bd.returns (by simp) rfl (hb hby at_205) ⟨rfl, N63⟩ (by decide) (by decide)
    · rw [hl]
      obtain ⟨T64, h64, X64, e64, E64, A64, D64, -, st64⟩ := newO X8 hx hZ hown (hw _ (List.mem_of_getElem? (i := 2) rfl)) (hw _ (List.mem_of_getElem? (i := 3) rfl)) (hw _ (List.mem_of_getElem? (i := 4) rfl)) e8 (g := (mkF m 52 #[.val (.int p0), .val (.int p1), .val (.int p2), .val (.ref b1), .val (.int (0 : Int32)), .val (.int (2 : Int32)), .unset, .unset, .unset, .unset, .unset, .unset, .unset, .unset] [])) rfl (hb hby at_52) (by decide) (by decide)
      obtain ⟨b64, g64⟩ : ∃ z, z = h8.size := ⟨_, rfl⟩
      rw [← g64] at A64 D64 st64
      have ne_b1_b64 : b1 ≠ b64 := Nat.ne_of_lt (Nat.lt_of_lt_of_le (A8).lt (Nat.le_of_eq g64.symm))
      have G64 : n0 ≤ b64 := Nat.le_trans Z8 (Nat.le_of_eq g64.symm)
      have Z64 : n0 ≤ h64.size := Nat.le_trans Z8 E64.1
      have fq65 := Ints.ext E64 A8
      have F64_bytes : Fld Z h64 b64 "com/example/tallyhold/tallyhold/ledger/ArrayInput" "bytes" "[B" .null := D64 (Or.inr (hw _ (List.mem_of_getElem? (i := 25) rfl))) (ty := (.array .byte)) (by decide)
      have F64_at : Fld Z h64 b64 "com/example/tallyhold/tallyhold/ledger/ArrayInput" "at" "I" (.int (0 : Int32)) := D64 (Or.inl (hw _ (List.mem_of_getElem? (i := 27) rfl))) (ty := .int) (by decide)
      have F64_end : Fld Z h64 b64 "com/example/tallyhold/tallyhold/ledger/ArrayInput" "end" "I" (.int (0 : Int32)) := D64 (Or.inr (hw _ (List.mem_of_getElem? (i := 29) rfl))) (ty := .int) (by decide)
      refine Run.back (g' := (mkF m 55 #[.val (.int p0), .val (.int p1), .val (.int p2), .val (.ref b1), .val (.int (0 : Int32)), .val (.int (2 : Int32)), .unset, .unset, .unset, .unset, .unset, .unset, .unset, .unset] [(.ref b64)])) st64 ?_
      refine Run.dup (pc' := 56) X64 hx (hb hby at_55) rfl rfl ?_
      refine Run.aloadN (pc' := 57) X64 hx (hb hby at_56) rfl rfl ?_
      refine Run.iload (pc' := 59) X64 hx (hb hby at_57) rfl rfl ?_
      refine Run.iload (pc' := 61) X64 hx (hb hby at_59) rfl rfl ?_
      obtain ⟨T66, L66, v66, X66, Q66, st66⟩ := callSpecial X64 hx (y := (⟨"com/example/tallyhold/tallyhold/ledger/ArrayInput", "<init>", "([BII)V"⟩ : MethodName)) (a := b64) (Ls := #[.val (.int p0), .val (.int p1), .val (.int p2), .val (.ref b1), .val (.int (0 : Int32)), .val (.int (2 : Int32)), .unset, .unset, .unset, .unset, .unset, .unset, .unset, .unset]) (rest := [(.ref b64)]) (W := 1) (argsL := [(.ref b1), (.int (0 : Int32)), (.int (2 : Int32))]) rfl hZ hown (hw _ (List.mem_of_getElem? (i := 5) rfl)) (hw _ (List.mem_of_getElem? (i := 6) rfl)) (hw _ (List.mem_of_getElem? (i := 4) rfl)) (hw _ (List.mem_of_getElem? (i := 7) rfl)) (by decide) e64 (rm4 l Z a0 hw [] b64 b1 (0 : Int32) (2 : Int32) f9 h64 n0 Z64 A64 F64_bytes F64_at F64_end G64 fq65 ne_b1_b64 (by decide) (by decide)) (hb hby at_61) (lenOf own_pd3 rfl) (by decide) (by decide) (by rw [hml]; rfl) (Nat.le_of_eq rfl) (by decide) (by decide)
      obtain ⟨rfl, M66, K66, E66, F66_bytes, F66_at, F66_end⟩ := Q66
      rw [show ((0 : Int32) + (2 : Int32)) = (2 : Int32) from rfl] at F66_end
      have N66 := Fr.app N8 M66
      have fq67 := Ints.keep fq65 K66 (ninS ne_b1_b64 nin0)
      have fq68 := Exa.keep A64 K66
      have Z66 : n0 ≤ T66.heap.size := Nat.le_trans Z64 K66.1
      refine Run.back (g' := (mkF m 64 #[.val (.int p0), .val (.int p1), .val (.int p2), .val (.ref b1), .val (.int (0 : Int32)), .val (.int (2 : Int32)), .unset, .unset, .unset, .unset, .unset, .unset, .unset, .unset] [(.ref b64)])) st66 ?_
      refine Run.astore (pc' := 66) X66 hx (l' := #[.val (.int p0), .val (.int p1), .val (.int p2), .val (.ref b1), .val (.int (0 : Int32)), .val (.int (2 : Int32)), .val (.ref b64), .unset, .unset, .unset, .unset, .unset, .unset, .unset]) (hb hby at_64) rfl rfl ?_
      refine Run.aload (pc' := 68) X66 hx (hb hby at_66) rfl rfl ?_
      obtain ⟨T69, L69, v69, X69, Q69, st69⟩ := callVirtual X66 hx (y := (⟨"com/example/tallyhold/tallyhold/ledger/ArrayInput", "read", "()I"⟩ : MethodName)) (z := (⟨"com/example/tallyhold/tallyhold/ledger/ArrayInput", "read", "()I"⟩ : MethodName)) (C := "com/example/tallyhold/tallyhold/ledger/ArrayInput") (a := b64) (Ls := #[.val (.int p0), .val (.int p1), .val (.int p2), .val (.ref b1), .val (.int (0 : Int32)), .val (.int (2 : Int32)), .val (.ref b64), .unset, .unset, .unset, .unset, .unset, .unset, .unset]) (rest := []) (W := 0) (argsL := []) hZ hown (hw _ (List.mem_of_getElem? (i := 30) rfl)) (hw _ (List.mem_of_getElem? (i := 31) rfl)) (notFace_of_selects (args := #[]) (mvT hZ (hw _ (List.mem_of_getElem? (i := 33) rfl)))) (hw _ (List.mem_of_getElem? (i := 33) rfl)) (hw _ (List.mem_of_getElem? (i := 32) rfl)) (hw _ (List.mem_of_getElem? (i := 4) rfl)) (hw _ (List.mem_of_getElem? (i := 34) rfl)) (by decide) rfl E66 (rm5 l Z a0 hw [] b64 b1 (0 : Int32) (2 : Int32) f9 T66.heap n0 Z66 E66 F66_bytes F66_at F66_end G64 fq67 ne_b1_b64 (by decide) (by decide)) (hb hby at_68) (lenOf own_pd4 rfl) (by decide) (by decide) (by rw [hml]; rfl) (Nat.le_of_eq rfl) (by decide) (by decide)
      obtain ⟨hv69, M69, K69, E69, F69_bytes, F69_at, F69_end⟩ := Q69
      rw [show (own_R (0 : Int32) (2 : Int32) f9) = ((f9 (0 : Int32)) &&& (255 : Int32)) from rfl] at hv69
      subst hv69
      rw [show (own_N (0 : Int32) (2 : Int32)) = (1 : Int32) from rfl] at F69_at
      have N69 := Fr.app N66 M69
      have fq70 := Ints.keep fq67 K69 (ninS ne_b1_b64 nin0)
      have fq71 := Exa.keep E66 K69
      have Z69 : n0 ≤ T69.heap.size := Nat.le_trans Z66 K69.1
      refine Run.back (g' := (mkF m 71 #[.val (.int p0), .val (.int p1), .val (.int p2), .val (.ref b1), .val (.int (0 : Int32)), .val (.int (2 : Int32)), .val (.ref b64), .unset, .unset, .unset, .unset, .unset, .unset, .unset] [(.int ((f9 (0 : Int32)) &&& (255 : Int32)))])) st69 ?_
      refine Run.istore (pc' := 73) X69 hx (l' := #[.val (.int p0), .val (.int p1), .val (.int p2), .val (.ref b1), .val (.int (0 : Int32)), .val (.int (2 : Int32)), .val (.ref b64), .val (.int ((f9 (0 : Int32)) &&& (255 : Int32))), .unset, .unset, .unset, .unset, .unset, .unset]) (hb hby at_71) rfl rfl ?_
      refine Run.aload (pc' := 75) X69 hx (hb hby at_73) rfl rfl ?_
      obtain ⟨T72, L72, v72, X72, Q72, st72⟩ := callVirtual X69 hx (y := (⟨"com/example/tallyhold/tallyhold/ledger/ArrayInput", "read", "()I"⟩ : MethodName)) (z := (⟨"com/example/tallyhold/tallyhold/ledger/ArrayInput", "read", "()I"⟩ : MethodName)) (C := "com/example/tallyhold/tallyhold/ledger/ArrayInput") (a := b64) (Ls := #[.val (.int p0), .val (.int p1), .val (.int p2), .val (.ref b1), .val (.int (0 : Int32)), .val (.int (2 : Int32)), .val (.ref b64), .val (.int ((f9 (0 : Int32)) &&& (255 : Int32))), .unset, .unset, .unset, .unset, .unset, .unset]) (rest := []) (W := 0) (argsL := []) hZ hown (hw _ (List.mem_of_getElem? (i := 30) rfl)) (hw _ (List.mem_of_getElem? (i := 31) rfl)) (notFace_of_selects (args := #[]) (mvT hZ (hw _ (List.mem_of_getElem? (i := 33) rfl)))) (hw _ (List.mem_of_getElem? (i := 33) rfl)) (hw _ (List.mem_of_getElem? (i := 32) rfl)) (hw _ (List.mem_of_getElem? (i := 4) rfl)) (hw _ (List.mem_of_getElem? (i := 34) rfl)) (by decide) rfl E69 (rm5 l Z a0 hw [] b64 b1 (1 : Int32) (2 : Int32) f9 T69.heap n0 Z69 E69 F69_bytes F69_at F69_end G64 fq70 ne_b1_b64 (by decide) (by decide)) (hb hby at_75) (lenOf own_pd4 rfl) (by decide) (by decide) (by rw [hml]; rfl) (Nat.le_of_eq rfl) (by decide) (by decide)
      obtain ⟨hv72, M72, K72, E72, F72_bytes, F72_at, F72_end⟩ := Q72
      rw [show (own_R (1 : Int32) (2 : Int32) f9) = ((f9 (1 : Int32)) &&& (255 : Int32)) from rfl] at hv72
      subst hv72
      rw [show (own_N (1 : Int32) (2 : Int32)) = (2 : Int32) from rfl] at F72_at
      have N72 := Fr.app N69 M72
      have fq73 := Ints.keep fq70 K72 (ninS ne_b1_b64 nin0)
      have fq74 := Exa.keep E69 K72
      have Z72 : n0 ≤ T72.heap.size := Nat.le_trans Z69 K72.1
      refine Run.back (g' := (mkF m 78 #[.val (.int p0), .val (.int p1), .val (.int p2), .val (.ref b1), .val (.int (0 : Int32)), .val (.int (2 : Int32)), .val (.ref b64), .val (.int ((f9 (0 : Int32)) &&& (255 : Int32))), .unset, .unset, .unset, .unset, .unset, .unset] [(.int ((f9 (1 : Int32)) &&& (255 : Int32)))])) st72 ?_
      refine Run.istore (pc' := 80) X72 hx (l' := #[.val (.int p0), .val (.int p1), .val (.int p2), .val (.ref b1), .val (.int (0 : Int32)), .val (.int (2 : Int32)), .val (.ref b64), .val (.int ((f9 (0 : Int32)) &&& (255 : Int32))), .val (.int ((f9 (1 : Int32)) &&& (255 : Int32))), .unset, .unset, .unset, .unset, .unset]) (hb hby at_78) rfl rfl ?_
      refine Run.aload (pc' := 82) X72 hx (hb hby at_80) rfl rfl ?_
      obtain ⟨T75, L75, v75, X75, Q75, st75⟩ := callVirtual X72 hx (y := (⟨"com/example/tallyhold/tallyhold/ledger/ArrayInput", "read", "()I"⟩ : MethodName)) (z := (⟨"com/example/tallyhold/tallyhold/ledger/ArrayInput", "read", "()I"⟩ : MethodName)) (C := "com/example/tallyhold/tallyhold/ledger/ArrayInput") (a := b64) (Ls := #[.val (.int p0), .val (.int p1), .val (.int p2), .val (.ref b1), .val (.int (0 : Int32)), .val (.int (2 : Int32)), .val (.ref b64), .val (.int ((f9 (0 : Int32)) &&& (255 : Int32))), .val (.int ((f9 (1 : Int32)) &&& (255 : Int32))), .unset, .unset, .unset, .unset, .unset]) (rest := []) (W := 0) (argsL := []) hZ hown (hw _ (List.mem_of_getElem? (i := 30) rfl)) (hw _ (List.mem_of_getElem? (i := 31) rfl)) (notFace_of_selects (args := #[]) (mvT hZ (hw _ (List.mem_of_getElem? (i := 33) rfl)))) (hw _ (List.mem_of_getElem? (i := 33) rfl)) (hw _ (List.mem_of_getElem? (i := 32) rfl)) (hw _ (List.mem_of_getElem? (i := 4) rfl)) (hw _ (List.mem_of_getElem? (i := 34) rfl)) (by decide) rfl E72 (rm5 l Z a0 hw [] b64 b1 (2 : Int32) (2 : Int32) f9 T72.heap n0 Z72 E72 F72_bytes F72_at F72_end G64 fq73 ne_b1_b64 (by decide) (by decide)) (hb hby at_82) (lenOf own_pd4 rfl) (by decide) (by decide) (by rw [hml]; rfl) (Nat.le_of_eq rfl) (by decide) (by decide)
      obtain ⟨hv75, M75, K75, E75, F75_bytes, F75_at, F75_end⟩ := Q75
      rw [show (own_R (2 : Int32) (2 : Int32) f9) = (-1 : Int32) from rfl] at hv75
      subst hv75
      rw [show (own_N (2 : Int32) (2 : Int32)) = (2 : Int32) from rfl] at F75_at
      have N75 := Fr.app N72 M75
      have fq76 := Ints.keep fq73 K75 (ninS ne_b1_b64 nin0)
      have fq77 := Exa.keep E72 K75
      have Z75 : n0 ≤ T75.heap.size := Nat.le_trans Z72 K75.1
      refine Run.back (g' := (mkF m 85 #[.val (.int p0), .val (.int p1), .val (.int p2), .val (.ref b1), .val (.int (0 : Int32)), .val (.int (2 : Int32)), .val (.ref b64), .val (.int ((f9 (0 : Int32)) &&& (255 : Int32))), .val (.int ((f9 (1 : Int32)) &&& (255 : Int32))), .unset, .unset, .unset, .unset, .unset] [(.int (-1 : Int32))])) st75 ?_
      refine Run.istore (pc' := 87) X75 hx (l' := #[.val (.int p0), .val (.int p1), .val (.int p2), .val (.ref b1), .val (.int (0 : Int32)), .val (.int (2 : Int32)), .val (.ref b64), .val (.int ((f9 (0 : Int32)) &&& (255 : Int32))), .val (.int ((f9 (1 : Int32)) &&& (255 : Int32))), .val (.int (-1 : Int32)), .unset, .unset, .unset, .unset]) (hb hby at_85) rfl rfl ?_
      refine Run.aload (pc' := 89) X75 hx (hb hby at_87) rfl rfl ?_
      obtain ⟨T78, L78, v78, X78, Q78, st78⟩ := callVirtual X75 hx (y := (⟨"com/example/tallyhold/tallyhold/ledger/ArrayInput", "read", "()I"⟩ : MethodName)) (z := (⟨"com/example/tallyhold/tallyhold/ledger/ArrayInput", "read", "()I"⟩ : MethodName)) (C := "com/example/tallyhold/tallyhold/ledger/ArrayInput") (a := b64) (Ls := #[.val (.int p0), .val (.int p1), .val (.int p2), .val (.ref b1), .val (.int (0 : Int32)), .val (.int (2 : Int32)), .val (.ref b64), .val (.int ((f9 (0 : Int32)) &&& (255 : Int32))), .val (.int ((f9 (1 : Int32)) &&& (255 : Int32))), .val (.int (-1 : Int32)), .unset, .unset, .unset, .unset]) (rest := []) (W := 0) (argsL := []) hZ hown (hw _ (List.mem_of_getElem? (i := 30) rfl)) (hw _ (List.mem_of_getElem? (i := 31) rfl)) (notFace_of_selects (args := #[]) (mvT hZ (hw _ (List.mem_of_getElem? (i := 33) rfl)))) (hw _ (List.mem_of_getElem? (i := 33) rfl)) (hw _ (List.mem_of_getElem? (i := 32) rfl)) (hw _ (List.mem_of_getElem? (i := 4) rfl)) (hw _ (List.mem_of_getElem? (i := 34) rfl)) (by decide) rfl E75 (rm5 l Z a0 hw [] b64 b1 (2 : Int32) (2 : Int32) f9 T75.heap n0 Z75 E75 F75_bytes F75_at F75_end G64 fq76 ne_b1_b64 (by decide) (by decide)) (hb hby at_89) (lenOf own_pd4 rfl) (by decide) (by decide) (by rw [hml]; rfl) (Nat.le_of_eq rfl) (by decide) (by decide)
      obtain ⟨hv78, M78, K78, E78, F78_bytes, F78_at, F78_end⟩ := Q78
      rw [show (own_R (2 : Int32) (2 : Int32) f9) = (-1 : Int32) from rfl] at hv78
      subst hv78
      rw [show (own_N (2 : Int32) (2 : Int32)) = (2 : Int32) from rfl] at F78_at
      have N78 := Fr.app N75 M78
      have fq79 := Ints.keep fq76 K78 (ninS ne_b1_b64 nin0)
      have fq80 := Exa.keep E75 K78
      have Z78 : n0 ≤ T78.heap.size := Nat.le_trans Z75 K78.1
      refine Run.back (g' := (mkF m 92 #[.val (.int p0), .val (.int p1), .val (.int p2), .val (.ref b1), .val (.int (0 : Int32)), .val (.int (2 : Int32)), .val (.ref b64), .val (.int ((f9 (0 : Int32)) &&& (255 : Int32))), .val (.int ((f9 (1 : Int32)) &&& (255 : Int32))), .val (.int (-1 : Int32)), .unset, .unset, .unset, .unset] [(.int (-1 : Int32))])) st78 ?_
      refine Run.istore (pc' := 94) X78 hx (l' := #[.val (.int p0), .val (.int p1), .val (.int p2), .val (.ref b1), .val (.int (0 : Int32)), .val (.int (2 : Int32)), .val (.ref b64), .val (.int ((f9 (0 : Int32)) &&& (255 : Int32))), .val (.int ((f9 (1 : Int32)) &&& (255 : Int32))), .val (.int (-1 : Int32)), .val (.int (-1 : Int32)), .unset, .unset, .unset]) (hb hby at_92) rfl rfl ?_
      refine Run.aload (pc' := 96) X78 hx (hb hby at_94) rfl rfl ?_
      obtain ⟨T81, L81, v81, X81, Q81, st81⟩ := callVirtual X78 hx (y := (⟨"com/example/tallyhold/tallyhold/ledger/ArrayInput", "read", "()I"⟩ : MethodName)) (z := (⟨"com/example/tallyhold/tallyhold/ledger/ArrayInput", "read", "()I"⟩ : MethodName)) (C := "com/example/tallyhold/tallyhold/ledger/ArrayInput") (a := b64) (Ls := #[.val (.int p0), .val (.int p1), .val (.int p2), .val (.ref b1), .val (.int (0 : Int32)), .val (.int (2 : Int32)), .val (.ref b64), .val (.int ((f9 (0 : Int32)) &&& (255 : Int32))), .val (.int ((f9 (1 : Int32)) &&& (255 : Int32))), .val (.int (-1 : Int32)), .val (.int (-1 : Int32)), .unset, .unset, .unset]) (rest := []) (W := 0) (argsL := []) hZ hown (hw _ (List.mem_of_getElem? (i := 30) rfl)) (hw _ (List.mem_of_getElem? (i := 31) rfl)) (notFace_of_selects (args := #[]) (mvT hZ (hw _ (List.mem_of_getElem? (i := 33) rfl)))) (hw _ (List.mem_of_getElem? (i := 33) rfl)) (hw _ (List.mem_of_getElem? (i := 32) rfl)) (hw _ (List.mem_of_getElem? (i := 4) rfl)) (hw _ (List.mem_of_getElem? (i := 34) rfl)) (by decide) rfl E78 (rm5 l Z a0 hw [] b64 b1 (2 : Int32) (2 : Int32) f9 T78.heap n0 Z78 E78 F78_bytes F78_at F78_end G64 fq79 ne_b1_b64 (by decide) (by decide)) (hb hby at_96) (lenOf own_pd4 rfl) (by decide) (by decide) (by rw [hml]; rfl) (Nat.le_of_eq rfl) (by decide) (by decide)
      obtain ⟨hv81, M81, K81, E81, F81_bytes, F81_at, F81_end⟩ := Q81
      rw [show (own_R (2 : Int32) (2 : Int32) f9) = (-1 : Int32) from rfl] at hv81
      subst hv81
      rw [show (own_N (2 : Int32) (2 : Int32)) = (2 : Int32) from rfl] at F81_at
      have N81 := Fr.app N78 M81
      have fq82 := Ints.keep fq79 K81 (ninS ne_b1_b64 nin0)
      have fq83 := Exa.keep E78 K81
      have Z81 : n0 ≤ T81.heap.size := Nat.le_trans Z78 K81.1
      refine Run.back (g' := (mkF m 99 #[.val (.int p0), .val (.int p1), .val (.int p2), .val (.ref b1), .val (.int (0 : Int32)), .val (.int (2 : Int32)), .val (.ref b64), .val (.int ((f9 (0 : Int32)) &&& (255 : Int32))), .val (.int ((f9 (1 : Int32)) &&& (255 : Int32))), .val (.int (-1 : Int32)), .val (.int (-1 : Int32)), .unset, .unset, .unset] [(.int (-1 : Int32))])) st81 ?_
      refine Run.istore (pc' := 101) X81 hx (l' := #[.val (.int p0), .val (.int p1), .val (.int p2), .val (.ref b1), .val (.int (0 : Int32)), .val (.int (2 : Int32)), .val (.ref b64), .val (.int ((f9 (0 : Int32)) &&& (255 : Int32))), .val (.int ((f9 (1 : Int32)) &&& (255 : Int32))), .val (.int (-1 : Int32)), .val (.int (-1 : Int32)), .val (.int (-1 : Int32)), .unset, .unset]) (hb hby at_99) rfl rfl ?_
      refine Run.aload (pc' := 103) X81 hx (hb hby at_101) rfl rfl ?_
      obtain ⟨T84, L84, v84, X84, Q84, st84⟩ := callVirtual X81 hx (y := (⟨"com/example/tallyhold/tallyhold/ledger/ArrayInput", "position", "()I"⟩ : MethodName)) (z := (⟨"com/example/tallyhold/tallyhold/ledger/ArrayInput", "position", "()I"⟩ : MethodName)) (C := "com/example/tallyhold/tallyhold/ledger/ArrayInput") (a := b64) (Ls := #[.val (.int p0), .val (.int p1), .val (.int p2), .val (.ref b1), .val (.int (0 : Int32)), .val (.int (2 : Int32)), .val (.ref b64), .val (.int ((f9 (0 : Int32)) &&& (255 : Int32))), .val (.int ((f9 (1 : Int32)) &&& (255 : Int32))), .val (.int (-1 : Int32)), .val (.int (-1 : Int32)), .val (.int (-1 : Int32)), .unset, .unset]) (rest := []) (W := 0) (argsL := []) hZ hown (hw _ (List.mem_of_getElem? (i := 35) rfl)) (hw _ (List.mem_of_getElem? (i := 36) rfl)) (notFace_of_selects (args := #[]) (mvT hZ (hw _ (List.mem_of_getElem? (i := 38) rfl)))) (hw _ (List.mem_of_getElem? (i := 38) rfl)) (hw _ (List.mem_of_getElem? (i := 37) rfl)) (hw _ (List.mem_of_getElem? (i := 4) rfl)) (hw _ (List.mem_of_getElem? (i := 39) rfl)) (by decide) rfl E81 (rm6 l Z a0 hw [] b64 (2 : Int32) T81.heap n0 Z81 F81_at) (hb hby at_103) (lenOf own_pd4 rfl) (by decide) (by decide) (by rw [hml]; rfl) (Nat.le_of_eq rfl) (by decide) (by decide)
      obtain ⟨hv84, M84, e84⟩ := Q84
      rw [show (own_F6 b64 (2 : Int32)) = (2 : Int32) from rfl] at hv84
      subst hv84
      have N84 := Fr.app N81 M84
      refine Run.back (g' := (mkF m 106 #[.val (.int p0), .val (.int p1), .val (.int p2), .val (.ref b1), .val (.int (0 : Int32)), .val (.int (2 : Int32)), .val (.ref b64), .val (.int ((f9 (0 : Int32)) &&& (255 : Int32))), .val (.int ((f9 (1 : Int32)) &&& (255 : Int32))), .val (.int (-1 : Int32)), .val (.int (-1 : Int32)), .val (.int (-1 : Int32)), .unset, .unset] [(.int (2 : Int32))])) st84 ?_
      refine Run.istore (pc' := 108) X84 hx (l' := #[.val (.int p0), .val (.int p1), .val (.int p2), .val (.ref b1), .val (.int (0 : Int32)), .val (.int (2 : Int32)), .val (.ref b64), .val (.int ((f9 (0 : Int32)) &&& (255 : Int32))), .val (.int ((f9 (1 : Int32)) &&& (255 : Int32))), .val (.int (-1 : Int32)), .val (.int (-1 : Int32)), .val (.int (-1 : Int32)), .val (.int (2 : Int32)), .unset]) (hb hby at_106) rfl rfl ?_
      refine Run.aload (pc' := 110) X84 hx (hb hby at_108) rfl rfl ?_
      obtain ⟨T85, L85, v85, X85, Q85, st85⟩ := callVirtual X84 hx (y := (⟨"com/example/tallyhold/tallyhold/ledger/ArrayInput", "available", "()I"⟩ : MethodName)) (z := (⟨"com/example/tallyhold/tallyhold/ledger/ArrayInput", "available", "()I"⟩ : MethodName)) (C := "com/example/tallyhold/tallyhold/ledger/ArrayInput") (a := b64) (Ls := #[.val (.int p0), .val (.int p1), .val (.int p2), .val (.ref b1), .val (.int (0 : Int32)), .val (.int (2 : Int32)), .val (.ref b64), .val (.int ((f9 (0 : Int32)) &&& (255 : Int32))), .val (.int ((f9 (1 : Int32)) &&& (255 : Int32))), .val (.int (-1 : Int32)), .val (.int (-1 : Int32)), .val (.int (-1 : Int32)), .val (.int (2 : Int32)), .unset]) (rest := []) (W := 0) (argsL := []) hZ hown (hw _ (List.mem_of_getElem? (i := 40) rfl)) (hw _ (List.mem_of_getElem? (i := 41) rfl)) (notFace_of_selects (args := #[]) (mvT hZ (hw _ (List.mem_of_getElem? (i := 43) rfl)))) (hw _ (List.mem_of_getElem? (i := 43) rfl)) (hw _ (List.mem_of_getElem? (i := 42) rfl)) (hw _ (List.mem_of_getElem? (i := 4) rfl)) (hw _ (List.mem_of_getElem? (i := 44) rfl)) (by decide) e84 E81 (rm7 l Z a0 hw [] b64 (2 : Int32) (2 : Int32) T81.heap n0 Z81 F81_at F81_end) (hb hby at_110) (lenOf own_pd4 rfl) (by decide) (by decide) (by rw [hml]; rfl) (Nat.le_of_eq rfl) (by decide) (by decide)
      obtain ⟨hv85, M85, e85⟩ := Q85
      rw [show (own_F7 b64 (2 : Int32) (2 : Int32)) = (0 : Int32) from rfl] at hv85
      subst hv85
      have N85 := Fr.app N84 M85
      refine Run.back (g' := (mkF m 113 #[.val (.int p0), .val (.int p1), .val (.int p2), .val (.ref b1), .val (.int (0 : Int32)), .val (.int (2 : Int32)), .val (.ref b64), .val (.int ((f9 (0 : Int32)) &&& (255 : Int32))), .val (.int ((f9 (1 : Int32)) &&& (255 : Int32))), .val (.int (-1 : Int32)), .val (.int (-1 : Int32)), .val (.int (-1 : Int32)), .val (.int (2 : Int32)), .unset] [(.int (0 : Int32))])) st85 ?_
      refine Run.istore (pc' := 115) X85 hx (l' := #[.val (.int p0), .val (.int p1), .val (.int p2), .val (.ref b1), .val (.int (0 : Int32)), .val (.int (2 : Int32)), .val (.ref b64), .val (.int ((f9 (0 : Int32)) &&& (255 : Int32))), .val (.int ((f9 (1 : Int32)) &&& (255 : Int32))), .val (.int (-1 : Int32)), .val (.int (-1 : Int32)), .val (.int (-1 : Int32)), .val (.int (2 : Int32)), .val (.int (0 : Int32))]) (hb hby at_113) rfl rfl ?_
      refine Run.iload (pc' := 117) X85 hx (hb hby at_115) rfl rfl ?_
      refine Run.iloadN (pc' := 118) X85 hx (hb hby at_117) rfl rfl ?_
      refine Run.iload (pc' := 120) X85 hx (hb hby at_118) rfl rfl ?_
      refine Run.iload (pc' := 122) X85 hx (hb hby at_120) rfl rfl ?_
      refine Run.iconst (pc' := 123) (v := (0 : Int32)) X85 hx (hb hby at_122) rfl rfl ?_
      obtain ⟨T86, L86, v86, X86, Q86, st86⟩ := callStatic X85 hx (y := (⟨"com/example/tallyhold/tallyhold/ledger/ArrayInputReadPinLaw", "expected", "(IIII)I"⟩ : MethodName)) (Ls := #[.val (.int p0), .val (.int p1), .val (.int p2), .val (.ref b1), .val (.int (0 : Int32)), .val (.int (2 : Int32)), .val (.ref b64), .val (.int ((f9 (0 : Int32)) &&& (255 : Int32))), .val (.int ((f9 (1 : Int32)) &&& (255 : Int32))), .val (.int (-1 : Int32)), .val (.int (-1 : Int32)), .val (.int (-1 : Int32)), .val (.int (2 : Int32)), .val (.int (0 : Int32))]) (rest := [(.int ((f9 (0 : Int32)) &&& (255 : Int32)))]) (W := 1) (argsL := [(.int p0), (.int (0 : Int32)), (.int (2 : Int32)), (.int (0 : Int32))]) hZ hown (hw _ (List.mem_of_getElem? (i := 45) rfl)) (hw _ (List.mem_of_getElem? (i := 46) rfl)) (hw _ (List.mem_of_getElem? (i := 47) rfl)) (hw _ (List.mem_of_getElem? (i := 48) rfl)) (by decide) e85 (rm8 l Z a0 hw [] p0 (0 : Int32) (2 : Int32) (0 : Int32)  T81.heap n0 Z81 ) (hb hby at_123) (lenOf own_pd5 rfl) (by decide) (by decide) (by rw [hml]; rfl) (Nat.le_of_eq rfl) (by decide) (by decide)
      obtain ⟨hv86, M86, e86⟩ := Q86
      rw [show (own_F8 p0 (0 : Int32) (2 : Int32) (0 : Int32)) = (((p0.toUInt32 >>> ((0 : Int32) &&& 31).toUInt32).toInt32) &&& (255 : Int32)) from rfl] at hv86
      subst hv86
      have N86 := Fr.app N85 M86
      refine Run.back (g' := (mkF m 126 #[.val (.int p0), .val (.int p1), .val (.int p2), .val (.ref b1), .val (.int (0 : Int32)), .val (.int (2 : Int32)), .val (.ref b64), .val (.int ((f9 (0 : Int32)) &&& (255 : Int32))), .val (.int ((f9 (1 : Int32)) &&& (255 : Int32))), .val (.int (-1 : Int32)), .val (.int (-1 : Int32)), .val (.int (-1 : Int32)), .val (.int (2 : Int32)), .val (.int (0 : Int32))] [(.int (((p0.toUInt32 >>> ((0 : Int32) &&& 31).toUInt32).toInt32) &&& (255 : Int32))), (.int ((f9 (0 : Int32)) &&& (255 : Int32)))])) st86 ?_
      refine Run.icmpNo (pc' := 129) X86 hx (hb hby at_126) (teq (own_b0 g0)).2 rfl ?_
      refine Run.iload (pc' := 131) X86 hx (hb hby at_129) rfl rfl ?_
      refine Run.iloadN (pc' := 132) X86 hx (hb hby at_131) rfl rfl ?_
      refine Run.iload (pc' := 134) X86 hx (hb hby at_132) rfl rfl ?_
      refine Run.iload (pc' := 136) X86 hx (hb hby at_134) rfl rfl ?_
      refine Run.iconst (pc' := 137) (v := (1 : Int32)) X86 hx (hb hby at_136) rfl rfl ?_
      obtain ⟨T87, L87, v87, X87, Q87, st87⟩ := callStatic X86 hx (y := (⟨"com/example/tallyhold/tallyhold/ledger/ArrayInputReadPinLaw", "expected", "(IIII)I"⟩ : MethodName)) (Ls := #[.val (.int p0), .val (.int p1), .val (.int p2), .val (.ref b1), .val (.int (0 : Int32)), .val (.int (2 : Int32)), .val (.ref b64), .val (.int ((f9 (0 : Int32)) &&& (255 : Int32))), .val (.int ((f9 (1 : Int32)) &&& (255 : Int32))), .val (.int (-1 : Int32)), .val (.int (-1 : Int32)), .val (.int (-1 : Int32)), .val (.int (2 : Int32)), .val (.int (0 : Int32))]) (rest := [(.int ((f9 (1 : Int32)) &&& (255 : Int32)))]) (W := 1) (argsL := [(.int p0), (.int (0 : Int32)), (.int (2 : Int32)), (.int (1 : Int32))]) hZ hown (hw _ (List.mem_of_getElem? (i := 45) rfl)) (hw _ (List.mem_of_getElem? (i := 46) rfl)) (hw _ (List.mem_of_getElem? (i := 47) rfl)) (hw _ (List.mem_of_getElem? (i := 48) rfl)) (by decide) e86 (rm8 l Z a0 hw [] p0 (0 : Int32) (2 : Int32) (1 : Int32)  T81.heap n0 Z81 ) (hb hby at_137) (lenOf own_pd5 rfl) (by decide) (by decide) (by rw [hml]; rfl) (Nat.le_of_eq rfl) (by decide) (by decide)
      obtain ⟨hv87, M87, e87⟩ := Q87
      rw [show (own_F8 p0 (0 : Int32) (2 : Int32) (1 : Int32)) = (((p0.toUInt32 >>> ((8 : Int32) &&& 31).toUInt32).toInt32) &&& (255 : Int32)) from rfl] at hv87
      subst hv87
      have N87 := Fr.app N86 M87
      refine Run.back (g' := (mkF m 140 #[.val (.int p0), .val (.int p1), .val (.int p2), .val (.ref b1), .val (.int (0 : Int32)), .val (.int (2 : Int32)), .val (.ref b64), .val (.int ((f9 (0 : Int32)) &&& (255 : Int32))), .val (.int ((f9 (1 : Int32)) &&& (255 : Int32))), .val (.int (-1 : Int32)), .val (.int (-1 : Int32)), .val (.int (-1 : Int32)), .val (.int (2 : Int32)), .val (.int (0 : Int32))] [(.int (((p0.toUInt32 >>> ((8 : Int32) &&& 31).toUInt32).toInt32) &&& (255 : Int32))), (.int ((f9 (1 : Int32)) &&& (255 : Int32)))])) st87 ?_
      refine Run.icmpNo (pc' := 143) X87 hx (hb hby at_140) (teq (own_b1 g1)).2 rfl ?_
      refine Run.iload (pc' := 145) X87 hx (hb hby at_143) rfl rfl ?_
      refine Run.iloadN (pc' := 146) X87 hx (hb hby at_145) rfl rfl ?_
      refine Run.iload (pc' := 148) X87 hx (hb hby at_146) rfl rfl ?_
      refine Run.iload (pc' := 150) X87 hx (hb hby at_148) rfl rfl ?_
      refine Run.iconst (pc' := 151) (v := (2 : Int32)) X87 hx (hb hby at_150) rfl rfl ?_
      obtain ⟨T88, L88, v88, X88, Q88, st88⟩ := callStatic X87 hx (y := (⟨"com/example/tallyhold/tallyhold/ledger/ArrayInputReadPinLaw", "expected", "(IIII)I"⟩ : MethodName)) (Ls := #[.val (.int p0), .val (.int p1), .val (.int p2), .val (.ref b1), .val (.int (0 : Int32)), .val (.int (2 : Int32)), .val (.ref b64), .val (.int ((f9 (0 : Int32)) &&& (255 : Int32))), .val (.int ((f9 (1 : Int32)) &&& (255 : Int32))), .val (.int (-1 : Int32)), .val (.int (-1 : Int32)), .val (.int (-1 : Int32)), .val (.int (2 : Int32)), .val (.int (0 : Int32))]) (rest := [(.int (-1 : Int32))]) (W := 1) (argsL := [(.int p0), (.int (0 : Int32)), (.int (2 : Int32)), (.int (2 : Int32))]) hZ hown (hw _ (List.mem_of_getElem? (i := 45) rfl)) (hw _ (List.mem_of_getElem? (i := 46) rfl)) (hw _ (List.mem_of_getElem? (i := 47) rfl)) (hw _ (List.mem_of_getElem? (i := 48) rfl)) (by decide) e87 (rm8 l Z a0 hw [] p0 (0 : Int32) (2 : Int32) (2 : Int32)  T81.heap n0 Z81 ) (hb hby at_151) (lenOf own_pd5 rfl) (by decide) (by decide) (by rw [hml]; rfl) (Nat.le_of_eq rfl) (by decide) (by decide)
      obtain ⟨hv88, M88, e88⟩ := Q88
      rw [show (own_F8 p0 (0 : Int32) (2 : Int32) (2 : Int32)) = (-1 : Int32) from rfl] at hv88
      subst hv88
      have N88 := Fr.app N87 M88
      refine Run.back (g' := (mkF m 154 #[.val (.int p0), .val (.int p1), .val (.int p2), .val (.ref b1), .val (.int (0 : Int32)), .val (.int (2 : Int32)), .val (.ref b64), .val (.int ((f9 (0 : Int32)) &&& (255 : Int32))), .val (.int ((f9 (1 : Int32)) &&& (255 : Int32))), .val (.int (-1 : Int32)), .val (.int (-1 : Int32)), .val (.int (-1 : Int32)), .val (.int (2 : Int32)), .val (.int (0 : Int32))] [(.int (-1 : Int32)), (.int (-1 : Int32))])) st88 ?_
      refine Run.icmpNo (pc' := 157) X88 hx (hb hby at_154) (teq rfl).2 rfl ?_
      refine Run.iload (pc' := 159) X88 hx (hb hby at_157) rfl rfl ?_
      refine Run.iloadN (pc' := 160) X88 hx (hb hby at_159) rfl rfl ?_
      refine Run.iload (pc' := 162) X88 hx (hb hby at_160) rfl rfl ?_
      refine Run.iload (pc' := 164) X88 hx (hb hby at_162) rfl rfl ?_
      refine Run.iconst (pc' := 165) (v := (3 : Int32)) X88 hx (hb hby at_164) rfl rfl ?_
      obtain ⟨T89, L89, v89, X89, Q89, st89⟩ := callStatic X88 hx (y := (⟨"com/example/tallyhold/tallyhold/ledger/ArrayInputReadPinLaw", "expected", "(IIII)I"⟩ : MethodName)) (Ls := #[.val (.int p0), .val (.int p1), .val (.int p2), .val (.ref b1), .val (.int (0 : Int32)), .val (.int (2 : Int32)), .val (.ref b64), .val (.int ((f9 (0 : Int32)) &&& (255 : Int32))), .val (.int ((f9 (1 : Int32)) &&& (255 : Int32))), .val (.int (-1 : Int32)), .val (.int (-1 : Int32)), .val (.int (-1 : Int32)), .val (.int (2 : Int32)), .val (.int (0 : Int32))]) (rest := [(.int (-1 : Int32))]) (W := 1) (argsL := [(.int p0), (.int (0 : Int32)), (.int (2 : Int32)), (.int (3 : Int32))]) hZ hown (hw _ (List.mem_of_getElem? (i := 45) rfl)) (hw _ (List.mem_of_getElem? (i := 46) rfl)) (hw _ (List.mem_of_getElem? (i := 47) rfl)) (hw _ (List.mem_of_getElem? (i := 48) rfl)) (by decide) e88 (rm8 l Z a0 hw [] p0 (0 : Int32) (2 : Int32) (3 : Int32)  T81.heap n0 Z81 ) (hb hby at_165) (lenOf own_pd5 rfl) (by decide) (by decide) (by rw [hml]; rfl) (Nat.le_of_eq rfl) (by decide) (by decide)
      obtain ⟨hv89, M89, e89⟩ := Q89
      rw [show (own_F8 p0 (0 : Int32) (2 : Int32) (3 : Int32)) = (-1 : Int32) from rfl] at hv89
      subst hv89
      have N89 := Fr.app N88 M89
      refine Run.back (g' := (mkF m 168 #[.val (.int p0), .val (.int p1), .val (.int p2), .val (.ref b1), .val (.int (0 : Int32)), .val (.int (2 : Int32)), .val (.ref b64), .val (.int ((f9 (0 : Int32)) &&& (255 : Int32))), .val (.int ((f9 (1 : Int32)) &&& (255 : Int32))), .val (.int (-1 : Int32)), .val (.int (-1 : Int32)), .val (.int (-1 : Int32)), .val (.int (2 : Int32)), .val (.int (0 : Int32))] [(.int (-1 : Int32)), (.int (-1 : Int32))])) st89 ?_
      refine Run.icmpNo (pc' := 171) X89 hx (hb hby at_168) (teq rfl).2 rfl ?_
      refine Run.iload (pc' := 173) X89 hx (hb hby at_171) rfl rfl ?_
      refine Run.iloadN (pc' := 174) X89 hx (hb hby at_173) rfl rfl ?_
      refine Run.iload (pc' := 176) X89 hx (hb hby at_174) rfl rfl ?_
      refine Run.iload (pc' := 178) X89 hx (hb hby at_176) rfl rfl ?_
      refine Run.iconst (pc' := 179) (v := (4 : Int32)) X89 hx (hb hby at_178) rfl rfl ?_
      obtain ⟨T90, L90, v90, X90, Q90, st90⟩ := callStatic X89 hx (y := (⟨"com/example/tallyhold/tallyhold/ledger/ArrayInputReadPinLaw", "expected", "(IIII)I"⟩ : MethodName)) (Ls := #[.val (.int p0), .val (.int p1), .val (.int p2), .val (.ref b1), .val (.int (0 : Int32)), .val (.int (2 : Int32)), .val (.ref b64), .val (.int ((f9 (0 : Int32)) &&& (255 : Int32))), .val (.int ((f9 (1 : Int32)) &&& (255 : Int32))), .val (.int (-1 : Int32)), .val (.int (-1 : Int32)), .val (.int (-1 : Int32)), .val (.int (2 : Int32)), .val (.int (0 : Int32))]) (rest := [(.int (-1 : Int32))]) (W := 1) (argsL := [(.int p0), (.int (0 : Int32)), (.int (2 : Int32)), (.int (4 : Int32))]) hZ hown (hw _ (List.mem_of_getElem? (i := 45) rfl)) (hw _ (List.mem_of_getElem? (i := 46) rfl)) (hw _ (List.mem_of_getElem? (i := 47) rfl)) (hw _ (List.mem_of_getElem? (i := 48) rfl)) (by decide) e89 (rm8 l Z a0 hw [] p0 (0 : Int32) (2 : Int32) (4 : Int32)  T81.heap n0 Z81 ) (hb hby at_179) (lenOf own_pd5 rfl) (by decide) (by decide) (by rw [hml]; rfl) (Nat.le_of_eq rfl) (by decide) (by decide)
      obtain ⟨hv90, M90, e90⟩ := Q90
      rw [show (own_F8 p0 (0 : Int32) (2 : Int32) (4 : Int32)) = (-1 : Int32) from rfl] at hv90
      subst hv90
      have N90 := Fr.app N89 M90
      refine Run.back (g' := (mkF m 182 #[.val (.int p0), .val (.int p1), .val (.int p2), .val (.ref b1), .val (.int (0 : Int32)), .val (.int (2 : Int32)), .val (.ref b64), .val (.int ((f9 (0 : Int32)) &&& (255 : Int32))), .val (.int ((f9 (1 : Int32)) &&& (255 : Int32))), .val (.int (-1 : Int32)), .val (.int (-1 : Int32)), .val (.int (-1 : Int32)), .val (.int (2 : Int32)), .val (.int (0 : Int32))] [(.int (-1 : Int32)), (.int (-1 : Int32))])) st90 ?_
      refine Run.icmpNo (pc' := 185) X90 hx (hb hby at_182) (teq rfl).2 rfl ?_
      refine Run.iload (pc' := 187) X90 hx (hb hby at_185) rfl rfl ?_
      refine Run.iload (pc' := 189) X90 hx (hb hby at_187) rfl rfl ?_
      refine Run.iload (pc' := 191) X90 hx (hb hby at_189) rfl rfl ?_
      refine Run.iadd (pc' := 192) X90 hx (hb hby at_191) rfl ?_
      refine Run.icmpNo (pc' := 195) X90 hx (hb hby at_192) (teq (by decide : (2 : Int32) = ((0 : Int32) + (2 : Int32)))).2 rfl ?_
      refine Run.iload (pc' := 197) X90 hx (hb hby at_195) rfl rfl ?_
      refine Run.ifNo (pc' := 200) X90 hx (hb hby at_197) ((if0 _ _).trans (teq (by decide : (0 : Int32) = (0 : Int32))).2) rfl ?_
      refine Run.iconst (pc' := 201) (v := (1 : Int32)) X90 hx (hb hby at_200) rfl rfl ?_
      refine Run.goto (pc' := 205) X90 hx (hb hby at_201) (by decide) (by decide) ?_
      exact Run.retSmall X90 hx (t := .boolean) (z' := (1 : Int32)) Bd.notSynchronized Bd.returns (by simp) rfl (hb hby at_205) ⟨rfl, N90⟩ (by decide) (by decide)
    · rw [hl]
      obtain ⟨T91, h91, X91, e91, E91, A91, D91, -, st91⟩ := newO X8 hx hZ hown (hw _ (List.mem_of_getElem? (i := 2) rfl)) (hw _ (List.mem_of_getElem? (i := 3) rfl)) (hw _ (List.mem_of_getElem? (i := 4) rfl)) e8 (g := (mkF m 52 #[.val (.int p0), .val (.int p1), .val (.int p2), .val (.ref b1), .val (.int (0 : Int32)), .val (.int (3 : Int32)), .unset, .unset, .unset, .unset, .unset, .unset, .unset, .unset] [])) rfl (hb hby at_52) (by decide) (by decide)
      obtain ⟨b91, g91⟩ : ∃ z, z = h8.size := ⟨_, rfl⟩
      rw [← g91] at A91 D91 st91
      have ne_b1_b91 : b1 ≠ b91 := Nat.ne_of_lt (Nat.lt_of_lt_of_le (A8).lt (Nat.le_of_eq g91.symm))
      have G91 : n0 ≤ b91 := Nat.le_trans Z8 (Nat.le_of_eq g91.symm)
      have Z91 : n0 ≤ h91.size := Nat.le_trans Z8 E91.1
      have fq92 := Ints.ext E91 A8
      have F91_bytes : Fld Z h91 b91 "com/example/tallyhold/tallyhold/ledger/ArrayInput" "bytes" "[B" .null := D91 (Or.inr (hw _ (List.mem_of_getElem? (i := 25) rfl))) (ty := (.array .byte)) (by decide)
      have F91_at : Fld Z h91 b91 "com/example/tallyhold/tallyhold/ledger/ArrayInput" "at" "I" (.int (0 : Int32)) := D91 (Or.inl (hw _ (List.mem_of_getElem? (i := 27) rfl))) (ty := .int) (by decide)
      have F91_end : Fld Z h91 b91 "com/example/tallyhold/tallyhold/ledger/ArrayInput" "end" "I" (.int (0 : Int32)) := D91 (Or.inr (hw _ (List.mem_of_getElem? (i := 29) rfl))) (ty := .int) (by decide)
      refine Run.back (g' := (mkF m 55 #[.val (.int p0), .val (.int p1), .val (.int p2), .val (.ref b1), .val (.int (0 : Int32)), .val (.int (3 : Int32)), .unset, .unset, .unset, .unset, .unset, .unset, .unset, .unset] [(.ref b91)])) st91 ?_
      refine Run.dup (pc' := 56) X91 hx (hb hby at_55) rfl rfl ?_
      refine Run.aloadN (pc' := 57) X91 hx (hb hby at_56) rfl rfl ?_
      refine Run.iload (pc' := 59) X91 hx (hb hby at_57) rfl rfl ?_
      refine Run.iload (pc' := 61) X91 hx (hb hby at_59) rfl rfl ?_
      obtain ⟨T93, L93, v93, X93, Q93, st93⟩ := callSpecial X91 hx (y := (⟨"com/example/tallyhold/tallyhold/ledger/ArrayInput", "<init>", "([BII)V"⟩ : MethodName)) (a := b91) (Ls := #[.val (.int p0), .val (.int p1), .val (.int p2), .val (.ref b1), .val (.int (0 : Int32)), .val (.int (3 : Int32)), .unset, .unset, .unset, .unset, .unset, .unset, .unset, .unset]) (rest := [(.ref b91)]) (W := 1) (argsL := [(.ref b1), (.int (0 : Int32)), (.int (3 : Int32))]) rfl hZ hown (hw _ (List.mem_of_getElem? (i := 5) rfl)) (hw _ (List.mem_of_getElem? (i := 6) rfl)) (hw _ (List.mem_of_getElem? (i := 4) rfl)) (hw _ (List.mem_of_getElem? (i := 7) rfl)) (by decide) e91 (rm4 l Z a0 hw [] b91 b1 (0 : Int32) (3 : Int32) f9 h91 n0 Z91 A91 F91_bytes F91_at F91_end G91 fq92 ne_b1_b91 (by decide) (by decide)) (hb hby at_61) (lenOf own_pd3 rfl) (by decide) (by decide) (by rw [hml]; rfl) (Nat.le_of_eq rfl) (by decide) (by decide)
      obtain ⟨rfl, M93, K93, E93, F93_bytes, F93_at, F93_end⟩ := Q93
      rw [show ((0 : Int32) + (3 : Int32)) = (3 : Int32) from rfl] at F93_end
      have N93 := Fr.app N8 M93
      have fq94 := Ints.keep fq92 K93 (ninS ne_b1_b91 nin0)
      have fq95 := Exa.keep A91 K93
      have Z93 : n0 ≤ T93.heap.size := Nat.le_trans Z91 K93.1
      refine Run.back (g' := (mkF m 64 #[.val (.int p0), .val (.int p1), .val (.int p2), .val (.ref b1), .val (.int (0 : Int32)), .val (.int (3 : Int32)), .unset, .unset, .unset, .unset, .unset, .unset, .unset, .unset] [(.ref b91)])) st93 ?_
      refine Run.astore (pc' := 66) X93 hx (l' := #[.val (.int p0), .val (.int p1), .val (.int p2), .val (.ref b1), .val (.int (0 : Int32)), .val (.int (3 : Int32)), .val (.ref b91), .unset, .unset, .unset, .unset, .unset, .unset, .unset]) (hb hby at_64) rfl rfl ?_
      refine Run.aload (pc' := 68) X93 hx (hb hby at_66) rfl rfl ?_
      obtain ⟨T96, L96, v96, X96, Q96, st96⟩ := callVirtual X93 hx (y := (⟨"com/example/tallyhold/tallyhold/ledger/ArrayInput", "read", "()I"⟩ : MethodName)) (z := (⟨"com/example/tallyhold/tallyhold/ledger/ArrayInput", "read", "()I"⟩ : MethodName)) (C := "com/example/tallyhold/tallyhold/ledger/ArrayInput") (a := b91) (Ls := #[.val (.int p0), .val (.int p1), .val (.int p2), .val (.ref b1), .val (.int (0 : Int32)), .val (.int (3 : Int32)), .val (.ref b91), .unset, .unset, .unset, .unset, .unset, .unset, .unset]) (rest := []) (W := 0) (argsL := []) hZ hown (hw _ (List.mem_of_getElem? (i := 30) rfl)) (hw _ (List.mem_of_getElem? (i := 31) rfl)) (notFace_of_selects (args := #[]) (mvT hZ (hw _ (List.mem_of_getElem? (i := 33) rfl)))) (hw _ (List.mem_of_getElem? (i := 33) rfl)) (hw _ (List.mem_of_getElem? (i := 32) rfl)) (hw _ (List.mem_of_getElem? (i := 4) rfl)) (hw _ (List.mem_of_getElem? (i := 34) rfl)) (by decide) rfl E93 (rm5 l Z a0 hw [] b91 b1 (0 : Int32) (3 : Int32) f9 T93.heap n0 Z93 E93 F93_bytes F93_at F93_end G91 fq94 ne_b1_b91 (by decide) (by decide)) (hb hby at_68) (lenOf own_pd4 rfl) (by decide) (by decide) (by rw [hml]; rfl) (Nat.le_of_eq rfl) (by decide) (by decide)
      obtain ⟨hv96, M96, K96, E96, F96_bytes, F96_at, F96_end⟩ := Q96
      rw [show (own_R (0 : Int32) (3 : Int32) f9) = ((f9 (0 : Int32)) &&& (255 : Int32)) from rfl] at hv96
      subst hv96
      rw [show (own_N (0 : Int32) (3 : Int32)) = (1 : Int32) from rfl] at F96_at
      have N96 := Fr.app N93 M96
      have fq97 := Ints.keep fq94 K96 (ninS ne_b1_b91 nin0)
      have fq98 := Exa.keep E93 K96
      have Z96 : n0 ≤ T96.heap.size := Nat.le_trans Z93 K96.1
      refine Run.back (g' := (mkF m 71 #[.val (.int p0), .val (.int p1), .val (.int p2), .val (.ref b1), .val (.int (0 : Int32)), .val (.int (3 : Int32)), .val (.ref b91), .unset, .unset, .unset, .unset, .unset, .unset, .unset] [(.int ((f9 (0 : Int32)) &&& (255 : Int32)))])) st96 ?_
      refine Run.istore (pc' := 73) X96 hx (l' := #[.val (.int p0), .val (.int p1), .val (.int p2), .val (.ref b1), .val (.int (0 : Int32)), .val (.int (3 : Int32)), .val (.ref b91), .val (.int ((f9 (0 : Int32)) &&& (255 : Int32))), .unset, .unset, .unset, .unset, .unset, .unset]) (hb hby at_71) rfl rfl ?_
      refine Run.aload (pc' := 75) X96 hx (hb hby at_73) rfl rfl ?_
      obtain ⟨T99, L99, v99, X99, Q99, st99⟩ := callVirtual X96 hx (y := (⟨"com/example/tallyhold/tallyhold/ledger/ArrayInput", "read", "()I"⟩ : MethodName)) (z := (⟨"com/example/tallyhold/tallyhold/ledger/ArrayInput", "read", "()I"⟩ : MethodName)) (C := "com/example/tallyhold/tallyhold/ledger/ArrayInput") (a := b91) (Ls := #[.val (.int p0), .val (.int p1), .val (.int p2), .val (.ref b1), .val (.int (0 : Int32)), .val (.int (3 : Int32)), .val (.ref b91), .val (.int ((f9 (0 : Int32)) &&& (255 : Int32))), .unset, .unset, .unset, .unset, .unset, .unset]) (rest := []) (W := 0) (argsL := []) hZ hown (hw _ (List.mem_of_getElem? (i := 30) rfl)) (hw _ (List.mem_of_getElem? (i := 31) rfl)) (notFace_of_selects (args := #[]) (mvT hZ (hw _ (List.mem_of_getElem? (i := 33) rfl)))) (hw _ (List.mem_of_getElem? (i := 33) rfl)) (hw _ (List.mem_of_getElem? (i := 32) rfl)) (hw _ (List.mem_of_getElem? (i := 4) rfl)) (hw _ (List.mem_of_getElem? (i := 34) rfl)) (by decide) rfl E96 (rm5 l Z a0 hw [] b91 b1 (1 : Int32) (3 : Int32) f9 T96.heap n0 Z96 E96 F96_bytes F96_at F96_end G91 fq97 ne_b1_b91 (by decide) (by decide)) (hb hby at_75) (lenOf own_pd4 rfl) (by decide) (by decide) (by rw [hml]; rfl) (Nat.le_of_eq rfl) (by decide) (by decide)
      obtain ⟨hv99, M99, K99, E99, F99_bytes, F99_at, F99_end⟩ := Q99
      rw [show (own_R (1 : Int32) (3 : Int32) f9) = ((f9 (1 : Int32)) &&& (255 : Int32)) from rfl] at hv99
      subst hv99
      rw [show (own_N (1 : Int32) (3 : Int32)) = (2 : Int32) from rfl] at F99_at
      have N99 := Fr.app N96 M99
      have fq100 := Ints.keep fq97 K99 (ninS ne_b1_b91 nin0)
      have fq101 := Exa.keep E96 K99
      have Z99 : n0 ≤ T99.heap.size := Nat.le_trans Z96 K99.1
      refine Run.back (g' := (mkF m 78 #[.val (.int p0), .val (.int p1), .val (.int p2), .val (.ref b1), .val (.int (0 : Int32)), .val (.int (3 : Int32)), .val (.ref b91), .val (.int ((f9 (0 : Int32)) &&& (255 : Int32))), .unset, .unset, .unset, .unset, .unset, .unset] [(.int ((f9 (1 : Int32)) &&& (255 : Int32)))])) st99 ?_
      refine Run.istore (pc' := 80) X99 hx (l' := #[.val (.int p0), .val (.int p1), .val (.int p2), .val (.ref b1), .val (.int (0 : Int32)), .val (.int (3 : Int32)), .val (.ref b91), .val (.int ((f9 (0 : Int32)) &&& (255 : Int32))), .val (.int ((f9 (1 : Int32)) &&& (255 : Int32))), .unset, .unset, .unset, .unset, .unset]) (hb hby at_78) rfl rfl ?_
      refine Run.aload (pc' := 82) X99 hx (hb hby at_80) rfl rfl ?_
      obtain ⟨T102, L102, v102, X102, Q102, st102⟩ := callVirtual X99 hx (y := (⟨"com/example/tallyhold/tallyhold/ledger/ArrayInput", "read", "()I"⟩ : MethodName)) (z := (⟨"com/example/tallyhold/tallyhold/ledger/ArrayInput", "read", "()I"⟩ : MethodName)) (C := "com/example/tallyhold/tallyhold/ledger/ArrayInput") (a := b91) (Ls := #[.val (.int p0), .val (.int p1), .val (.int p2), .val (.ref b1), .val (.int (0 : Int32)), .val (.int (3 : Int32)), .val (.ref b91), .val (.int ((f9 (0 : Int32)) &&& (255 : Int32))), .val (.int ((f9 (1 : Int32)) &&& (255 : Int32))), .unset, .unset, .unset, .unset, .unset]) (rest := []) (W := 0) (argsL := []) hZ hown (hw _ (List.mem_of_getElem? (i := 30) rfl)) (hw _ (List.mem_of_getElem? (i := 31) rfl)) (notFace_of_selects (args := #[]) (mvT hZ (hw _ (List.mem_of_getElem? (i := 33) rfl)))) (hw _ (List.mem_of_getElem? (i := 33) rfl)) (hw _ (List.mem_of_getElem? (i := 32) rfl)) (hw _ (List.mem_of_getElem? (i := 4) rfl)) (hw _ (List.mem_of_getElem? (i := 34) rfl)) (by decide) rfl E99 (rm5 l Z a0 hw [] b91 b1 (2 : Int32) (3 : Int32) f9 T99.heap n0 Z99 E99 F99_bytes F99_at F99_end G91 fq100 ne_b1_b91 (by decide) (by decide)) (hb hby at_82) (lenOf own_pd4 rfl) (by decide) (by decide) (by rw [hml]; rfl) (Nat.le_of_eq rfl) (by decide) (by decide)
      obtain ⟨hv102, M102, K102, E102, F102_bytes, F102_at, F102_end⟩ := Q102
      rw [show (own_R (2 : Int32) (3 : Int32) f9) = ((f9 (2 : Int32)) &&& (255 : Int32)) from rfl] at hv102
      subst hv102
      rw [show (own_N (2 : Int32) (3 : Int32)) = (3 : Int32) from rfl] at F102_at
      have N102 := Fr.app N99 M102
      have fq103 := Ints.keep fq100 K102 (ninS ne_b1_b91 nin0)
      have fq104 := Exa.keep E99 K102
      have Z102 : n0 ≤ T102.heap.size := Nat.le_trans Z99 K102.1
      refine Run.back (g' := (mkF m 85 #[.val (.int p0), .val (.int p1), .val (.int p2), .val (.ref b1), .val (.int (0 : Int32)), .val (.int (3 : Int32)), .val (.ref b91), .val (.int ((f9 (0 : Int32)) &&& (255 : Int32))), .val (.int ((f9 (1 : Int32)) &&& (255 : Int32))), .unset, .unset, .unset, .unset, .unset] [(.int ((f9 (2 : Int32)) &&& (255 : Int32)))])) st102 ?_
      refine Run.istore (pc' := 87) X102 hx (l' := #[.val (.int p0), .val (.int p1), .val (.int p2), .val (.ref b1), .val (.int (0 : Int32)), .val (.int (3 : Int32)), .val (.ref b91), .val (.int ((f9 (0 : Int32)) &&& (255 : Int32))), .val (.int ((f9 (1 : Int32)) &&& (255 : Int32))), .val (.int ((f9 (2 : Int32)) &&& (255 : Int32))), .unset, .unset, .unset, .unset]) (hb hby at_85) rfl rfl ?_
      refine Run.aload (pc' := 89) X102 hx (hb hby at_87) rfl rfl ?_
      obtain ⟨T105, L105, v105, X105, Q105, st105⟩ := callVirtual X102 hx (y := (⟨"com/example/tallyhold/tallyhold/ledger/ArrayInput", "read", "()I"⟩ : MethodName)) (z := (⟨"com/example/tallyhold/tallyhold/ledger/ArrayInput", "read", "()I"⟩ : MethodName)) (C := "com/example/tallyhold/tallyhold/ledger/ArrayInput") (a := b91) (Ls := #[.val (.int p0), .val (.int p1), .val (.int p2), .val (.ref b1), .val (.int (0 : Int32)), .val (.int (3 : Int32)), .val (.ref b91), .val (.int ((f9 (0 : Int32)) &&& (255 : Int32))), .val (.int ((f9 (1 : Int32)) &&& (255 : Int32))), .val (.int ((f9 (2 : Int32)) &&& (255 : Int32))), .unset, .unset, .unset, .unset]) (rest := []) (W := 0) (argsL := []) hZ hown (hw _ (List.mem_of_getElem? (i := 30) rfl)) (hw _ (List.mem_of_getElem? (i := 31) rfl)) (notFace_of_selects (args := #[]) (mvT hZ (hw _ (List.mem_of_getElem? (i := 33) rfl)))) (hw _ (List.mem_of_getElem? (i := 33) rfl)) (hw _ (List.mem_of_getElem? (i := 32) rfl)) (hw _ (List.mem_of_getElem? (i := 4) rfl)) (hw _ (List.mem_of_getElem? (i := 34) rfl)) (by decide) rfl E102 (rm5 l Z a0 hw [] b91 b1 (3 : Int32) (3 : Int32) f9 T102.heap n0 Z102 E102 F102_bytes F102_at F102_end G91 fq103 ne_b1_b91 (by decide) (by decide)) (hb hby at_89) (lenOf own_pd4 rfl) (by decide) (by decide) (by rw [hml]; rfl) (Nat.le_of_eq rfl) (by decide) (by decide)
      obtain ⟨hv105, M105, K105, E105, F105_bytes, F105_at, F105_end⟩ := Q105
      rw [show (own_R (3 : Int32) (3 : Int32) f9) = (-1 : Int32) from rfl] at hv105
      subst hv105
      rw [show (own_N (3 : Int32) (3 : Int32)) = (3 : Int32) from rfl] at F105_at
      have N105 := Fr.app N102 M105
      have fq106 := Ints.keep fq103 K105 (ninS ne_b1_b91 nin0)
      have fq107 := Exa.keep E102 K105
      have Z105 : n0 ≤ T105.heap.size := Nat.le_trans Z102 K105.1
      refine Run.back (g' := (mkF m 92 #[.val (.int p0), .val (.int p1), .val (.int p2), .val (.ref b1), .val (.int (0 : Int32)), .val (.int (3 : Int32)), .val (.ref b91), .val (.int ((f9 (0 : Int32)) &&& (255 : Int32))), .val (.int ((f9 (1 : Int32)) &&& (255 : Int32))), .val (.int ((f9 (2 : Int32)) &&& (255 : Int32))), .unset, .unset, .unset, .unset] [(.int (-1 : Int32))])) st105 ?_
      refine Run.istore (pc' := 94) X105 hx (l' := #[.val (.int p0), .val (.int p1), .val (.int p2), .val (.ref b1), .val (.int (0 : Int32)), .val (.int (3 : Int32)), .val (.ref b91), .val (.int ((f9 (0 : Int32)) &&& (255 : Int32))), .val (.int ((f9 (1 : Int32)) &&& (255 : Int32))), .val (.int ((f9 (2 : Int32)) &&& (255 : Int32))), .val (.int (-1 : Int32)), .unset, .unset, .unset]) (hb hby at_92) rfl rfl ?_
      refine Run.aload (pc' := 96) X105 hx (hb hby at_94) rfl rfl ?_
      obtain ⟨T108, L108, v108, X108, Q108, st108⟩ := callVirtual X105 hx (y := (⟨"com/example/tallyhold/tallyhold/ledger/ArrayInput", "read", "()I"⟩ : MethodName)) (z := (⟨"com/example/tallyhold/tallyhold/ledger/ArrayInput", "read", "()I"⟩ : MethodName)) (C := "com/example/tallyhold/tallyhold/ledger/ArrayInput") (a := b91) (Ls := #[.val (.int p0), .val (.int p1), .val (.int p2), .val (.ref b1), .val (.int (0 : Int32)), .val (.int (3 : Int32)), .val (.ref b91), .val (.int ((f9 (0 : Int32)) &&& (255 : Int32))), .val (.int ((f9 (1 : Int32)) &&& (255 : Int32))), .val (.int ((f9 (2 : Int32)) &&& (255 : Int32))), .val (.int (-1 : Int32)), .unset, .unset, .unset]) (rest := []) (W := 0) (argsL := []) hZ hown (hw _ (List.mem_of_getElem? (i := 30) rfl)) (hw _ (List.mem_of_getElem? (i := 31) rfl)) (notFace_of_selects (args := #[]) (mvT hZ (hw _ (List.mem_of_getElem? (i := 33) rfl)))) (hw _ (List.mem_of_getElem? (i := 33) rfl)) (hw _ (List.mem_of_getElem? (i := 32) rfl)) (hw _ (List.mem_of_getElem? (i := 4) rfl)) (hw _ (List.mem_of_getElem? (i := 34) rfl)) (by decide) rfl E105 (rm5 l Z a0 hw [] b91 b1 (3 : Int32) (3 : Int32) f9 T105.heap n0 Z105 E105 F105_bytes F105_at F105_end G91 fq106 ne_b1_b91 (by decide) (by decide)) (hb hby at_96) (lenOf own_pd4 rfl) (by decide) (by decide) (by rw [hml]; rfl) (Nat.le_of_eq rfl) (by decide) (by decide)
      obtain ⟨hv108, M108, K108, E108, F108_bytes, F108_at, F108_end⟩ := Q108
      rw [show (own_R (3 : Int32) (3 : Int32) f9) = (-1 : Int32) from rfl] at hv108
      subst hv108
      rw [show (own_N (3 : Int32) (3 : Int32)) = (3 : Int32) from rfl] at F108_at
      have N108 := Fr.app N105 M108
      have fq109 := Ints.keep fq106 K108 (ninS ne_b1_b91 nin0)
      have fq110 := Exa.keep E105 K108
      have Z108 : n0 ≤ T108.heap.size := Nat.le_trans Z105 K108.1
      refine Run.back (g' := (mkF m 99 #[.val (.int p0), .val (.int p1), .val (.int p2), .val (.ref b1), .val (.int (0 : Int32)), .val (.int (3 : Int32)), .val (.ref b91), .val (.int ((f9 (0 : Int32)) &&& (255 : Int32))), .val (.int ((f9 (1 : Int32)) &&& (255 : Int32))), .val (.int ((f9 (2 : Int32)) &&& (255 : Int32))), .val (.int (-1 : Int32)), .unset, .unset, .unset] [(.int (-1 : Int32))])) st108 ?_
      refine Run.istore (pc' := 101) X108 hx (l' := #[.val (.int p0), .val (.int p1), .val (.int p2), .val (.ref b1), .val (.int (0 : Int32)), .val (.int (3 : Int32)), .val (.ref b91), .val (.int ((f9 (0 : Int32)) &&& (255 : Int32))), .val (.int ((f9 (1 : Int32)) &&& (255 : Int32))), .val (.int ((f9 (2 : Int32)) &&& (255 : Int32))), .val (.int (-1 : Int32)), .val (.int (-1 : Int32)), .unset, .unset]) (hb hby at_99) rfl rfl ?_
      refine Run.aload (pc' := 103) X108 hx (hb hby at_101) rfl rfl ?_
      obtain ⟨T111, L111, v111, X111, Q111, st111⟩ := callVirtual X108 hx (y := (⟨"com/example/tallyhold/tallyhold/ledger/ArrayInput", "position", "()I"⟩ : MethodName)) (z := (⟨"com/example/tallyhold/tallyhold/ledger/ArrayInput", "position", "()I"⟩ : MethodName)) (C := "com/example/tallyhold/tallyhold/ledger/ArrayInput") (a := b91) (Ls := #[.val (.int p0), .val (.int p1), .val (.int p2), .val (.ref b1), .val (.int (0 : Int32)), .val (.int (3 : Int32)), .val (.ref b91), .val (.int ((f9 (0 : Int32)) &&& (255 : Int32))), .val (.int ((f9 (1 : Int32)) &&& (255 : Int32))), .val (.int ((f9 (2 : Int32)) &&& (255 : Int32))), .val (.int (-1 : Int32)), .val (.int (-1 : Int32)), .unset, .unset]) (rest := []) (W := 0) (argsL := []) hZ hown (hw _ (List.mem_of_getElem? (i := 35) rfl)) (hw _ (List.mem_of_getElem? (i := 36) rfl)) (notFace_of_selects (args := #[]) (mvT hZ (hw _ (List.mem_of_getElem? (i := 38) rfl)))) (hw _ (List.mem_of_getElem? (i := 38) rfl)) (hw _ (List.mem_of_getElem? (i := 37) rfl)) (hw _ (List.mem_of_getElem? (i := 4) rfl)) (hw _ (List.mem_of_getElem? (i := 39) rfl)) (by decide) rfl E108 (rm6 l Z a0 hw [] b91 (3 : Int32) T108.heap n0 Z108 F108_at) (hb hby at_103) (lenOf own_pd4 rfl) (by decide) (by decide) (by rw [hml]; rfl) (Nat.le_of_eq rfl) (by decide) (by decide)
      obtain ⟨hv111, M111, e111⟩ := Q111
      rw [show (own_F6 b91 (3 : Int32)) = (3 : Int32) from rfl] at hv111
      subst hv111
      have N111 := Fr.app N108 M111
      refine Run.back (g' := (mkF m 106 #[.val (.int p0), .val (.int p1), .val (.int p2), .val (.ref b1), .val (.int (0 : Int32)), .val (.int (3 : Int32)), .val (.ref b91), .val (.int ((f9 (0 : Int32)) &&& (255 : Int32))), .val (.int ((f9 (1 : Int32)) &&& (255 : Int32))), .val (.int ((f9 (2 : Int32)) &&& (255 : Int32))), .val (.int (-1 : Int32)), .val (.int (-1 : Int32)), .unset, .unset] [(.int (3 : Int32))])) st111 ?_
      refine Run.istore (pc' := 108) X111 hx (l' := #[.val (.int p0), .val (.int p1), .val (.int p2), .val (.ref b1), .val (.int (0 : Int32)), .val (.int (3 : Int32)), .val (.ref b91), .val (.int ((f9 (0 : Int32)) &&& (255 : Int32))), .val (.int ((f9 (1 : Int32)) &&& (255 : Int32))), .val (.int ((f9 (2 : Int32)) &&& (255 : Int32))), .val (.int (-1 : Int32)), .val (.int (-1 : Int32)), .val (.int (3 : Int32)), .unset]) (hb hby at_106) rfl rfl ?_
      refine Run.aload (pc' := 110) X111 hx (hb hby at_108) rfl rfl ?_
      obtain ⟨T112, L112, v112, X112, Q112, st112⟩ := callVirtual X111 hx (y := (⟨"com/example/tallyhold/tallyhold/ledger/ArrayInput", "available", "()I"⟩ : MethodName)) (z := (⟨"com/example/tallyhold/tallyhold/ledger/ArrayInput", "available", "()I"⟩ : MethodName)) (C := "com/example/tallyhold/tallyhold/ledger/ArrayInput") (a := b91) (Ls := #[.val (.int p0), .val (.int p1), .val (.int p2), .val (.ref b1), .val (.int (0 : Int32)), .val (.int (3 : Int32)), .val (.ref b91), .val (.int ((f9 (0 : Int32)) &&& (255 : Int32))), .val (.int ((f9 (1 : Int32)) &&& (255 : Int32))), .val (.int ((f9 (2 : Int32)) &&& (255 : Int32))), .val (.int (-1 : Int32)), .val (.int (-1 : Int32)), .val (.int (3 : Int32)), .unset]) (rest := []) (W := 0) (argsL := []) hZ hown (hw _ (List.mem_of_getElem? (i := 40) rfl)) (hw _ (List.mem_of_getElem? (i := 41) rfl)) (notFace_of_selects (args := #[]) (mvT hZ (hw _ (List.mem_of_getElem? (i := 43) rfl)))) (hw _ (List.mem_of_getElem? (i := 43) rfl)) (hw _ (List.mem_of_getElem? (i := 42) rfl)) (hw _ (List.mem_of_getElem? (i := 4) rfl)) (hw _ (List.mem_of_getElem? (i := 44) rfl)) (by decide) e111 E108 (rm7 l Z a0 hw [] b91 (3 : Int32) (3 : Int32) T108.heap n0 Z108 F108_at F108_end) (hb hby at_110) (lenOf own_pd4 rfl) (by decide) (by decide) (by rw [hml]; rfl) (Nat.le_of_eq rfl) (by decide) (by decide)
      obtain ⟨hv112, M112, e112⟩ := Q112
      rw [show (own_F7 b91 (3 : Int32) (3 : Int32)) = (0 : Int32) from rfl] at hv112
      subst hv112
      have N112 := Fr.app N111 M112
      refine Run.back (g' := (mkF m 113 #[.val (.int p0), .val (.int p1), .val (.int p2), .val (.ref b1), .val (.int (0 : Int32)), .val (.int (3 : Int32)), .val (.ref b91), .val (.int ((f9 (0 : Int32)) &&& (255 : Int32))), .val (.int ((f9 (1 : Int32)) &&& (255 : Int32))), .val (.int ((f9 (2 : Int32)) &&& (255 : Int32))), .val (.int (-1 : Int32)), .val (.int (-1 : Int32)), .val (.int (3 : Int32)), .unset] [(.int (0 : Int32))])) st112 ?_
      refine Run.istore (pc' := 115) X112 hx (l' := #[.val (.int p0), .val (.int p1), .val (.int p2), .val (.ref b1), .val (.int (0 : Int32)), .val (.int (3 : Int32)), .val (.ref b91), .val (.int ((f9 (0 : Int32)) &&& (255 : Int32))), .val (.int ((f9 (1 : Int32)) &&& (255 : Int32))), .val (.int ((f9 (2 : Int32)) &&& (255 : Int32))), .val (.int (-1 : Int32)), .val (.int (-1 : Int32)), .val (.int (3 : Int32)), .val (.int (0 : Int32))]) (hb hby at_113) rfl rfl ?_
      refine Run.iload (pc' := 117) X112 hx (hb hby at_115) rfl rfl ?_
      refine Run.iloadN (pc' := 118) X112 hx (hb hby at_117) rfl rfl ?_
      refine Run.iload (pc' := 120) X112 hx (hb hby at_118) rfl rfl ?_
      refine Run.iload (pc' := 122) X112 hx (hb hby at_120) rfl rfl ?_
      refine Run.iconst (pc' := 123) (v := (0 : Int32)) X112 hx (hb hby at_122) rfl rfl ?_
      obtain ⟨T113, L113, v113, X113, Q113, st113⟩ := callStatic X112 hx (y := (⟨"com/example/tallyhold/tallyhold/ledger/ArrayInputReadPinLaw", "expected", "(IIII)I"⟩ : MethodName)) (Ls := #[.val (.int p0), .val (.int p1), .val (.int p2), .val (.ref b1), .val (.int (0 : Int32)), .val (.int (3 : Int32)), .val (.ref b91), .val (.int ((f9 (0 : Int32)) &&& (255 : Int32))), .val (.int ((f9 (1 : Int32)) &&& (255 : Int32))), .val (.int ((f9 (2 : Int32)) &&& (255 : Int32))), .val (.int (-1 : Int32)), .val (.int (-1 : Int32)), .val (.int (3 : Int32)), .val (.int (0 : Int32))]) (rest := [(.int ((f9 (0 : Int32)) &&& (255 : Int32)))]) (W := 1) (argsL := [(.int p0), (.int (0 : Int32)), (.int (3 : Int32)), (.int (0 : Int32))]) hZ hown (hw _ (List.mem_of_getElem? (i := 45) rfl)) (hw _ (List.mem_of_getElem? (i := 46) rfl)) (hw _ (List.mem_of_getElem? (i := 47) rfl)) (hw _ (List.mem_of_getElem? (i := 48) rfl)) (by decide) e112 (rm8 l Z a0 hw [] p0 (0 : Int32) (3 : Int32) (0 : Int32)  T108.heap n0 Z108 ) (hb hby at_123) (lenOf own_pd5 rfl) (by decide) (by decide) (by rw [hml]; rfl) (Nat.le_of_eq rfl) (by decide) (by decide)
      obtain ⟨hv113, M113, e113⟩ := Q113
      rw [show (own_F8 p0 (0 : Int32) (3 : Int32) (0 : Int32)) = (((p0.toUInt32 >>> ((0 : Int32) &&& 31).toUInt32).toInt32) &&& (255 : Int32)) from rfl] at hv113
      subst hv113
      have N113 := Fr.app N112 M113
      refine Run.back (g' := (mkF m 126 #[.val (.int p0), .val (.int p1), .val (.int p2), .val (.ref b1), .val (.int (0 : Int32)), .val (.int (3 : Int32)), .val (.ref b91), .val (.int ((f9 (0 : Int32)) &&& (255 : Int32))), .val (.int ((f9 (1 : Int32)) &&& (255 : Int32))), .val (.int ((f9 (2 : Int32)) &&& (255 : Int32))), .val (.int (-1 : Int32)), .val (.int (-1 : Int32)), .val (.int (3 : Int32)), .val (.int (0 : Int32))] [(.int (((p0.toUInt32 >>> ((0 : Int32) &&& 31).toUInt32).toInt32) &&& (255 : Int32))), (.int ((f9 (0 : Int32)) &&& (255 : Int32)))])) st113 ?_
      refine Run.icmpNo (pc' := 129) X113 hx (hb hby at_126) (teq (own_b0 g0)).2 rfl ?_
      refine Run.iload (pc' := 131) X113 hx (hb hby at_129) rfl rfl ?_
      refine Run.iloadN (pc' := 132) X113 hx (hb hby at_131) rfl rfl ?_
      refine Run.iload (pc' := 134) X113 hx (hb hby at_132) rfl rfl ?_
      refine Run.iload (pc' := 136) X113 hx (hb hby at_134) rfl rfl ?_
      refine Run.iconst (pc' := 137) (v := (1 : Int32)) X113 hx (hb hby at_136) rfl rfl ?_
      obtain ⟨T114, L114, v114, X114, Q114, st114⟩ := callStatic X113 hx (y := (⟨"com/example/tallyhold/tallyhold/ledger/ArrayInputReadPinLaw", "expected", "(IIII)I"⟩ : MethodName)) (Ls := #[.val (.int p0), .val (.int p1), .val (.int p2), .val (.ref b1), .val (.int (0 : Int32)), .val (.int (3 : Int32)), .val (.ref b91), .val (.int ((f9 (0 : Int32)) &&& (255 : Int32))), .val (.int ((f9 (1 : Int32)) &&& (255 : Int32))), .val (.int ((f9 (2 : Int32)) &&& (255 : Int32))), .val (.int (-1 : Int32)), .val (.int (-1 : Int32)), .val (.int (3 : Int32)), .val (.int (0 : Int32))]) (rest := [(.int ((f9 (1 : Int32)) &&& (255 : Int32)))]) (W := 1) (argsL := [(.int p0), (.int (0 : Int32)), (.int (3 : Int32)), (.int (1 : Int32))]) hZ hown (hw _ (List.mem_of_getElem? (i := 45) rfl)) (hw _ (List.mem_of_getElem? (i := 46) rfl)) (hw _ (List.mem_of_getElem? (i := 47) rfl)) (hw _ (List.mem_of_getElem? (i := 48) rfl)) (by decide) e113 (rm8 l Z a0 hw [] p0 (0 : Int32) (3 : Int32) (1 : Int32)  T108.heap n0 Z108 ) (hb hby at_137) (lenOf own_pd5 rfl) (by decide) (by decide) (by rw [hml]; rfl) (Nat.le_of_eq rfl) (by decide) (by decide)
      obtain ⟨hv114, M114, e114⟩ := Q114
      rw [show (own_F8 p0 (0 : Int32) (3 : Int32) (1 : Int32)) = (((p0.toUInt32 >>> ((8 : Int32) &&& 31).toUInt32).toInt32) &&& (255 : Int32)) from rfl] at hv114
      subst hv114
      have N114 := Fr.app N113 M114
      refine Run.back (g' := (mkF m 140 #[.val (.int p0), .val (.int p1), .val (.int p2), .val (.ref b1), .val (.int (0 : Int32)), .val (.int (3 : Int32)), .val (.ref b91), .val (.int ((f9 (0 : Int32)) &&& (255 : Int32))), .val (.int ((f9 (1 : Int32)) &&& (255 : Int32))), .val (.int ((f9 (2 : Int32)) &&& (255 : Int32))), .val (.int (-1 : Int32)), .val (.int (-1 : Int32)), .val (.int (3 : Int32)), .val (.int (0 : Int32))] [(.int (((p0.toUInt32 >>> ((8 : Int32) &&& 31).toUInt32).toInt32) &&& (255 : Int32))), (.int ((f9 (1 : Int32)) &&& (255 : Int32)))])) st114 ?_
      refine Run.icmpNo (pc' := 143) X114 hx (hb hby at_140) (teq (own_b1 g1)).2 rfl ?_
      refine Run.iload (pc' := 145) X114 hx (hb hby at_143) rfl rfl ?_
      refine Run.iloadN (pc' := 146) X114 hx (hb hby at_145) rfl rfl ?_
      refine Run.iload (pc' := 148) X114 hx (hb hby at_146) rfl rfl ?_
      refine Run.iload (pc' := 150) X114 hx (hb hby at_148) rfl rfl ?_
      refine Run.iconst (pc' := 151) (v := (2 : Int32)) X114 hx (hb hby at_150) rfl rfl ?_
      obtain ⟨T115, L115, v115, X115, Q115, st115⟩ := callStatic X114 hx (y := (⟨"com/example/tallyhold/tallyhold/ledger/ArrayInputReadPinLaw", "expected", "(IIII)I"⟩ : MethodName)) (Ls := #[.val (.int p0), .val (.int p1), .val (.int p2), .val (.ref b1), .val (.int (0 : Int32)), .val (.int (3 : Int32)), .val (.ref b91), .val (.int ((f9 (0 : Int32)) &&& (255 : Int32))), .val (.int ((f9 (1 : Int32)) &&& (255 : Int32))), .val (.int ((f9 (2 : Int32)) &&& (255 : Int32))), .val (.int (-1 : Int32)), .val (.int (-1 : Int32)), .val (.int (3 : Int32)), .val (.int (0 : Int32))]) (rest := [(.int ((f9 (2 : Int32)) &&& (255 : Int32)))]) (W := 1) (argsL := [(.int p0), (.int (0 : Int32)), (.int (3 : Int32)), (.int (2 : Int32))]) hZ hown (hw _ (List.mem_of_getElem? (i := 45) rfl)) (hw _ (List.mem_of_getElem? (i := 46) rfl)) (hw _ (List.mem_of_getElem? (i := 47) rfl)) (hw _ (List.mem_of_getElem? (i := 48) rfl)) (by decide) e114 (rm8 l Z a0 hw [] p0 (0 : Int32) (3 : Int32) (2 : Int32)  T108.heap n0 Z108 ) (hb hby at_151) (lenOf own_pd5 rfl) (by decide) (by decide) (by rw [hml]; rfl) (Nat.le_of_eq rfl) (by decide) (by decide)
      obtain ⟨hv115, M115, e115⟩ := Q115
      rw [show (own_F8 p0 (0 : Int32) (3 : Int32) (2 : Int32)) = (((p0.toUInt32 >>> ((16 : Int32) &&& 31).toUInt32).toInt32) &&& (255 : Int32)) from rfl] at hv115
      subst hv115
      have N115 := Fr.app N114 M115
      refine Run.back (g' := (mkF m 154 #[.val (.int p0), .val (.int p1), .val (.int p2), .val (.ref b1), .val (.int (0 : Int32)), .val (.int (3 : Int32)), .val (.ref b91), .val (.int ((f9 (0 : Int32)) &&& (255 : Int32))), .val (.int ((f9 (1 : Int32)) &&& (255 : Int32))), .val (.int ((f9 (2 : Int32)) &&& (255 : Int32))), .val (.int (-1 : Int32)), .val (.int (-1 : Int32)), .val (.int (3 : Int32)), .val (.int (0 : Int32))] [(.int (((p0.toUInt32 >>> ((16 : Int32) &&& 31).toUInt32).toInt32) &&& (255 : Int32))), (.int ((f9 (2 : Int32)) &&& (255 : Int32)))])) st115 ?_
      refine Run.icmpNo (pc' := 157) X115 hx (hb hby at_154) (teq (own_b2 g2)).2 rfl ?_
      refine Run.iload (pc' := 159) X115 hx (hb hby at_157) rfl rfl ?_
      refine Run.iloadN (pc' := 160) X115 hx (hb hby at_159) rfl rfl ?_
      refine Run.iload (pc' := 162) X115 hx (hb hby at_160) rfl rfl ?_
      refine Run.iload (pc' := 164) X115 hx (hb hby at_162) rfl rfl ?_
      refine Run.iconst (pc' := 165) (v := (3 : Int32)) X115 hx (hb hby at_164) rfl rfl ?_
      obtain ⟨T116, L116, v116, X116, Q116, st116⟩ := callStatic X115 hx (y := (⟨"com/example/tallyhold/tallyhold/ledger/ArrayInputReadPinLaw", "expected", "(IIII)I"⟩ : MethodName)) (Ls := #[.val (.int p0), .val (.int p1), .val (.int p2), .val (.ref b1), .val (.int (0 : Int32)), .val (.int (3 : Int32)), .val (.ref b91), .val (.int ((f9 (0 : Int32)) &&& (255 : Int32))), .val (.int ((f9 (1 : Int32)) &&& (255 : Int32))), .val (.int ((f9 (2 : Int32)) &&& (255 : Int32))), .val (.int (-1 : Int32)), .val (.int (-1 : Int32)), .val (.int (3 : Int32)), .val (.int (0 : Int32))]) (rest := [(.int (-1 : Int32))]) (W := 1) (argsL := [(.int p0), (.int (0 : Int32)), (.int (3 : Int32)), (.int (3 : Int32))]) hZ hown (hw _ (List.mem_of_getElem? (i := 45) rfl)) (hw _ (List.mem_of_getElem? (i := 46) rfl)) (hw _ (List.mem_of_getElem? (i := 47) rfl)) (hw _ (List.mem_of_getElem? (i := 48) rfl)) (by decide) e115 (rm8 l Z a0 hw [] p0 (0 : Int32) (3 : Int32) (3 : Int32)  T108.heap n0 Z108 ) (hb hby at_165) (lenOf own_pd5 rfl) (by decide) (by decide) (by rw [hml]; rfl) (Nat.le_of_eq rfl) (by decide) (by decide)
      obtain ⟨hv116, M116, e116⟩ := Q116
      rw [show (own_F8 p0 (0 : Int32) (3 : Int32) (3 : Int32)) = (-1 : Int32) from rfl] at hv116
      subst hv116
      have N116 := Fr.app N115 M116
      refine Run.back (g' := (mkF m 168 #[.val (.int p0), .val (.int p1), .val (.int p2), .val (.ref b1), .val (.int (0 : Int32)), .val (.int (3 : Int32)), .val (.ref b91), .val (.int ((f9 (0 : Int32)) &&& (255 : Int32))), .val (.int ((f9 (1 : Int32)) &&& (255 : Int32))), .val (.int ((f9 (2 : Int32)) &&& (255 : Int32))), .val (.int (-1 : Int32)), .val (.int (-1 : Int32)), .val (.int (3 : Int32)), .val (.int (0 : Int32))] [(.int (-1 : Int32)), (.int (-1 : Int32))])) st116 ?_
      refine Run.icmpNo (pc' := 171) X116 hx (hb hby at_168) (teq rfl).2 rfl ?_
      refine Run.iload (pc' := 173) X116 hx (hb hby at_171) rfl rfl ?_
      refine Run.iloadN (pc' := 174) X116 hx (hb hby at_173) rfl rfl ?_
      refine Run.iload (pc' := 176) X116 hx (hb hby at_174) rfl rfl ?_
      refine Run.iload (pc' := 178) X116 hx (hb hby at_176) rfl rfl ?_
      refine Run.iconst (pc' := 179) (v := (4 : Int32)) X116 hx (hb hby at_178) rfl rfl ?_
      obtain ⟨T117, L117, v117, X117, Q117, st117⟩ := callStatic X116 hx (y := (⟨"com/example/tallyhold/tallyhold/ledger/ArrayInputReadPinLaw", "expected", "(IIII)I"⟩ : MethodName)) (Ls := #[.val (.int p0), .val (.int p1), .val (.int p2), .val (.ref b1), .val (.int (0 : Int32)), .val (.int (3 : Int32)), .val (.ref b91), .val (.int ((f9 (0 : Int32)) &&& (255 : Int32))), .val (.int ((f9 (1 : Int32)) &&& (255 : Int32))), .val (.int ((f9 (2 : Int32)) &&& (255 : Int32))), .val (.int (-1 : Int32)), .val (.int (-1 : Int32)), .val (.int (3 : Int32)), .val (.int (0 : Int32))]) (rest := [(.int (-1 : Int32))]) (W := 1) (argsL := [(.int p0), (.int (0 : Int32)), (.int (3 : Int32)), (.int (4 : Int32))]) hZ hown (hw _ (List.mem_of_getElem? (i := 45) rfl)) (hw _ (List.mem_of_getElem? (i := 46) rfl)) (hw _ (List.mem_of_getElem? (i := 47) rfl)) (hw _ (List.mem_of_getElem? (i := 48) rfl)) (by decide) e116 (rm8 l Z a0 hw [] p0 (0 : Int32) (3 : Int32) (4 : Int32)  T108.heap n0 Z108 ) (hb hby at_179) (lenOf own_pd5 rfl) (by decide) (by decide) (by rw [hml]; rfl) (Nat.le_of_eq rfl) (by decide) (by decide)
      obtain ⟨hv117, M117, e117⟩ := Q117
      rw [show (own_F8 p0 (0 : Int32) (3 : Int32) (4 : Int32)) = (-1 : Int32) from rfl] at hv117
      subst hv117
      have N117 := Fr.app N116 M117
      refine Run.back (g' := (mkF m 182 #[.val (.int p0), .val (.int p1), .val (.int p2), .val (.ref b1), .val (.int (0 : Int32)), .val (.int (3 : Int32)), .val (.ref b91), .val (.int ((f9 (0 : Int32)) &&& (255 : Int32))), .val (.int ((f9 (1 : Int32)) &&& (255 : Int32))), .val (.int ((f9 (2 : Int32)) &&& (255 : Int32))), .val (.int (-1 : Int32)), .val (.int (-1 : Int32)), .val (.int (3 : Int32)), .val (.int (0 : Int32))] [(.int (-1 : Int32)), (.int (-1 : Int32))])) st117 ?_
      refine Run.icmpNo (pc' := 185) X117 hx (hb hby at_182) (teq rfl).2 rfl ?_
      refine Run.iload (pc' := 187) X117 hx (hb hby at_185) rfl rfl ?_
      refine Run.iload (pc' := 189) X117 hx (hb hby at_187) rfl rfl ?_
      refine Run.iload (pc' := 191) X117 hx (hb hby at_189) rfl rfl ?_
      refine Run.iadd (pc' := 192) X117 hx (hb hby at_191) rfl ?_
      refine Run.icmpNo (pc' := 195) X117 hx (hb hby at_192) (teq (by decide : (3 : Int32) = ((0 : Int32) + (3 : Int32)))).2 rfl ?_
      refine Run.iload (pc' := 197) X117 hx (hb hby at_195) rfl rfl ?_
      refine Run.ifNo (pc' := 200) X117 hx (hb hby at_197) ((if0 _ _).trans (teq (by decide : (0 : Int32) = (0 : Int32))).2) rfl ?_
      refine Run.iconst (pc' := 201) (v := (1 : Int32)) X117 hx (hb hby at_200) rfl rfl ?_
      refine Run.goto (pc' := 205) X117 hx (hb hby at_201) (by decide) (by decide) ?_
      exact Run.retSmall X117 hx (t := .boolean) (z' := (1 : Int32)) Bd.notSynchronized Bd.returns (by simp) rfl (hb hby at_205) ⟨rfl, N117⟩ (by decide) (by decide)
    · rw [hl]
      obtain ⟨T118, h118, X118, e118, E118, A118, D118, -, st118⟩ := newO X8 hx hZ hown (hw _ (List.mem_of_getElem? (i := 2) rfl)) (hw _ (List.mem_of_getElem? (i := 3) rfl)) (hw _ (List.mem_of_getElem? (i := 4) rfl)) e8 (g := (mkF m 52 #[.val (.int p0), .val (.int p1), .val (.int p2), .val (.ref b1), .val (.int (0 : Int32)), .val (.int (4 : Int32)), .unset, .unset, .unset, .unset, .unset, .unset, .unset, .unset] [])) rfl (hb hby at_52) (by decide) (by decide)
      obtain ⟨b118, g118⟩ : ∃ z, z = h8.size := ⟨_, rfl⟩
      rw [← g118] at A118 D118 st118
      have ne_b1_b118 : b1 ≠ b118 := Nat.ne_of_lt (Nat.lt_of_lt_of_le (A8).lt (Nat.le_of_eq g118.symm))
      have G118 : n0 ≤ b118 := Nat.le_trans Z8 (Nat.le_of_eq g118.symm)
      have Z118 : n0 ≤ h118.size := Nat.le_trans Z8 E118.1
      have fq119 := Ints.ext E118 A8
      have F118_bytes : Fld Z h118 b118 "com/example/tallyhold/tallyhold/ledger/ArrayInput" "bytes" "[B" .null := D118 (Or.inr (hw _ (List.mem_of_getElem? (i := 25) rfl))) (ty := (.array .byte)) (by decide)
      have F118_at : Fld Z h118 b118 "com/example/tallyhold/tallyhold/ledger/ArrayInput" "at" "I" (.int (0 : Int32)) := D118 (Or.inl (hw _ (List.mem_of_getElem? (i := 27) rfl))) (ty := .int) (by decide)
      have F118_end : Fld Z h118 b118 "com/example/tallyhold/tallyhold/ledger/ArrayInput" "end" "I" (.int (0 : Int32)) := D118 (Or.inr (hw _ (List.mem_of_getElem? (i := 29) rfl))) (ty := .int) (by decide)
      refine Run.back (g' := (mkF m 55 #[.val (.int p0), .val (.int p1), .val (.int p2), .val (.ref b1), .val (.int (0 : Int32)), .val (.int (4 : Int32)), .unset, .unset, .unset, .unset, .unset, .unset, .unset, .unset] [(.ref b118)])) st118 ?_
      refine Run.dup (pc' := 56) X118 hx (hb hby at_55) rfl rfl ?_
      refine Run.aloadN (pc' := 57) X118 hx (hb hby at_56) rfl rfl ?_
      refine Run.iload (pc' := 59) X118 hx (hb hby at_57) rfl rfl ?_
      refine Run.iload (pc' := 61) X118 hx (hb hby at_59) rfl rfl ?_
      obtain ⟨T120, L120, v120, X120, Q120, st120⟩ := callSpecial X118 hx (y := (⟨"com/example/tallyhold/tallyhold/ledger/ArrayInput", "<init>", "([BII)V"⟩ : MethodName)) (a := b118) (Ls := #[.val (.int p0), .val (.int p1), .val (.int p2), .val (.ref b1), .val (.int (0 : Int32)), .val (.int (4 : Int32)), .unset, .unset, .unset, .unset, .unset, .unset, .unset, .unset]) (rest := [(.ref b118)]) (W := 1) (argsL := [(.ref b1), (.int (0 : Int32)), (.int (4 : Int32))]) rfl hZ hown (hw _ (List.mem_of_getElem? (i := 5) rfl)) (hw _ (List.mem_of_getElem? (i := 6) rfl)) (hw _ (List.mem_of_getElem? (i := 4) rfl)) (hw _ (List.mem_of_getElem? (i := 7) rfl)) (by decide) e118 (rm4 l Z a0 hw [] b118 b1 (0 : Int32) (4 : Int32) f9 h118 n0 Z118 A118 F118_bytes F118_at F118_end G118 fq119 ne_b1_b118 (by decide) (by decide)) (hb hby at_61) (lenOf own_pd3 rfl) (by decide) (by decide) (by rw [hml]; rfl) (Nat.le_of_eq rfl) (by decide) (by decide)
      obtain ⟨rfl, M120, K120, E120, F120_bytes, F120_at, F120_end⟩ := Q120
      rw [show ((0 : Int32) + (4 : Int32)) = (4 : Int32) from rfl] at F120_end
      have N120 := Fr.app N8 M120
      have fq121 := Ints.keep fq119 K120 (ninS ne_b1_b118 nin0)
      have fq122 := Exa.keep A118 K120
      have Z120 : n0 ≤ T120.heap.size := Nat.le_trans Z118 K120.1
      refine Run.back (g' := (mkF m 64 #[.val (.int p0), .val (.int p1), .val (.int p2), .val (.ref b1), .val (.int (0 : Int32)), .val (.int (4 : Int32)), .unset, .unset, .unset, .unset, .unset, .unset, .unset, .unset] [(.ref b118)])) st120 ?_
      refine Run.astore (pc' := 66) X120 hx (l' := #[.val (.int p0), .val (.int p1), .val (.int p2), .val (.ref b1), .val (.int (0 : Int32)), .val (.int (4 : Int32)), .val (.ref b118), .unset, .unset, .unset, .unset, .unset, .unset, .unset]) (hb hby at_64) rfl rfl ?_
      refine Run.aload (pc' := 68) X120 hx (hb hby at_66) rfl rfl ?_
      obtain ⟨T123, L123, v123, X123, Q123, st123⟩ := callVirtual X120 hx (y := (⟨"com/example/tallyhold/tallyhold/ledger/ArrayInput", "read", "()I"⟩ : MethodName)) (z := (⟨"com/example/tallyhold/tallyhold/ledger/ArrayInput", "read", "()I"⟩ : MethodName)) (C := "com/example/tallyhold/tallyhold/ledger/ArrayInput") (a := b118) (Ls := #[.val (.int p0), .val (.int p1), .val (.int p2), .val (.ref b1), .val (.int (0 : Int32)), .val (.int (4 : Int32)), .val (.ref b118), .unset, .unset, .unset, .unset, .unset, .unset, .unset]) (rest := []) (W := 0) (argsL := []) hZ hown (hw _ (List.mem_of_getElem? (i := 30) rfl)) (hw _ (List.mem_of_getElem? (i := 31) rfl)) (notFace_of_selects (args := #[]) (mvT hZ (hw _ (List.mem_of_getElem? (i := 33) rfl)))) (hw _ (List.mem_of_getElem? (i := 33) rfl)) (hw _ (List.mem_of_getElem? (i := 32) rfl)) (hw _ (List.mem_of_getElem? (i := 4) rfl)) (hw _ (List.mem_of_getElem? (i := 34) rfl)) (by decide) rfl E120 (rm5 l Z a0 hw [] b118 b1 (0 : Int32) (4 : Int32) f9 T120.heap n0 Z120 E120 F120_bytes F120_at F120_end G118 fq121 ne_b1_b118 (by decide) (by decide)) (hb hby at_68) (lenOf own_pd4 rfl) (by decide) (by decide) (by rw [hml]; rfl) (Nat.le_of_eq rfl) (by decide) (by decide)
      obtain ⟨hv123, M123, K123, E123, F123_bytes, F123_at, F123_end⟩ := Q123
      rw [show (own_R (0 : Int32) (4 : Int32) f9) = ((f9 (0 : Int32)) &&& (255 : Int32)) from rfl] at hv123
      subst hv123
      rw [show (own_N (0 : Int32) (4 : Int32)) = (1 : Int32) from rfl] at F123_at
      have N123 := Fr.app N120 M123
      have fq124 := Ints.keep fq121 K123 (ninS ne_b1_b118 nin0)
      have fq125 := Exa.keep E120 K123
      have Z123 : n0 ≤ T123.heap.size := Nat.le_trans Z120 K123.1
      refine Run.back (g' := (mkF m 71 #[.val (.int p0), .val (.int p1), .val (.int p2), .val (.ref b1), .val (.int (0 : Int32)), .val (.int (4 : Int32)), .val (.ref b118), .unset, .unset, .unset, .unset, .unset, .unset, .unset] [(.int ((f9 (0 : Int32)) &&& (255 : Int32)))])) st123 ?_
      refine Run.istore (pc' := 73) X123 hx (l' := #[.val (.int p0), .val (.int p1), .val (.int p2), .val (.ref b1), .val (.int (0 : Int32)), .val (.int (4 : Int32)), .val (.ref b118), .val (.int ((f9 (0 : Int32)) &&& (255 : Int32))), .unset, .unset, .unset, .unset, .unset, .unset]) (hb hby at_71) rfl rfl ?_
      refine Run.aload (pc' := 75) X123 hx (hb hby at_73) rfl rfl ?_
      obtain ⟨T126, L126, v126, X126, Q126, st126⟩ := callVirtual X123 hx (y := (⟨"com/example/tallyhold/tallyhold/ledger/ArrayInput", "read", "()I"⟩ : MethodName)) (z := (⟨"com/example/tallyhold/tallyhold/ledger/ArrayInput", "read", "()I"⟩ : MethodName)) (C := "com/example/tallyhold/tallyhold/ledger/ArrayInput") (a := b118) (Ls := #[.val (.int p0), .val (.int p1), .val (.int p2), .val (.ref b1), .val (.int (0 : Int32)), .val (.int (4 : Int32)), .val (.ref b118), .val (.int ((f9 (0 : Int32)) &&& (255 : Int32))), .unset, .unset, .unset, .unset, .unset, .unset]) (rest := []) (W := 0) (argsL := []) hZ hown (hw _ (List.mem_of_getElem? (i := 30) rfl)) (hw _ (List.mem_of_getElem? (i := 31) rfl)) (notFace_of_selects (args := #[]) (mvT hZ (hw _ (List.mem_of_getElem? (i := 33) rfl)))) (hw _ (List.mem_of_getElem? (i := 33) rfl)) (hw _ (List.mem_of_getElem? (i := 32) rfl)) (hw _ (List.mem_of_getElem? (i := 4) rfl)) (hw _ (List.mem_of_getElem? (i := 34) rfl)) (by decide) rfl E123 (rm5 l Z a0 hw [] b118 b1 (1 : Int32) (4 : Int32) f9 T123.heap n0 Z123 E123 F123_bytes F123_at F123_end G118 fq124 ne_b1_b118 (by decide) (by decide)) (hb hby at_75) (lenOf own_pd4 rfl) (by decide) (by decide) (by rw [hml]; rfl) (Nat.le_of_eq rfl) (by decide) (by decide)
      obtain ⟨hv126, M126, K126, E126, F126_bytes, F126_at, F126_end⟩ := Q126
      rw [show (own_R (1 : Int32) (4 : Int32) f9) = ((f9 (1 : Int32)) &&& (255 : Int32)) from rfl] at hv126
      subst hv126
      rw [show (own_N (1 : Int32) (4 : Int32)) = (2 : Int32) from rfl] at F126_at
      have N126 := Fr.app N123 M126
      have fq127 := Ints.keep fq124 K126 (ninS ne_b1_b118 nin0)
      have fq128 := Exa.keep E123 K126
      have Z126 : n0 ≤ T126.heap.size := Nat.le_trans Z123 K126.1
      refine Run.back (g' := (mkF m 78 #[.val (.int p0), .val (.int p1), .val (.int p2), .val (.ref b1), .val (.int (0 : Int32)), .val (.int (4 : Int32)), .val (.ref b118), .val (.int ((f9 (0 : Int32)) &&& (255 : Int32))), .unset, .unset, .unset, .unset, .unset, .unset] [(.int ((f9 (1 : Int32)) &&& (255 : Int32)))])) st126 ?_
      refine Run.istore (pc' := 80) X126 hx (l' := #[.val (.int p0), .val (.int p1), .val (.int p2), .val (.ref b1), .val (.int (0 : Int32)), .val (.int (4 : Int32)), .val (.ref b118), .val (.int ((f9 (0 : Int32)) &&& (255 : Int32))), .val (.int ((f9 (1 : Int32)) &&& (255 : Int32))), .unset, .unset, .unset, .unset, .unset]) (hb hby at_78) rfl rfl ?_
      refine Run.aload (pc' := 82) X126 hx (hb hby at_80) rfl rfl ?_
      obtain ⟨T129, L129, v129, X129, Q129, st129⟩ := callVirtual X126 hx (y := (⟨"com/example/tallyhold/tallyhold/ledger/ArrayInput", "read", "()I"⟩ : MethodName)) (z := (⟨"com/example/tallyhold/tallyhold/ledger/ArrayInput", "read", "()I"⟩ : MethodName)) (C := "com/example/tallyhold/tallyhold/ledger/ArrayInput") (a := b118) (Ls := #[.val (.int p0), .val (.int p1), .val (.int p2), .val (.ref b1), .val (.int (0 : Int32)), .val (.int (4 : Int32)), .val (.ref b118), .val (.int ((f9 (0 : Int32)) &&& (255 : Int32))), .val (.int ((f9 (1 : Int32)) &&& (255 : Int32))), .unset, .unset, .unset, .unset, .unset]) (rest := []) (W := 0) (argsL := []) hZ hown (hw _ (List.mem_of_getElem? (i := 30) rfl)) (hw _ (List.mem_of_getElem? (i := 31) rfl)) (notFace_of_selects (args := #[]) (mvT hZ (hw _ (List.mem_of_getElem? (i := 33) rfl)))) (hw _ (List.mem_of_getElem? (i := 33) rfl)) (hw _ (List.mem_of_getElem? (i := 32) rfl)) (hw _ (List.mem_of_getElem? (i := 4) rfl)) (hw _ (List.mem_of_getElem? (i := 34) rfl)) (by decide) rfl E126 (rm5 l Z a0 hw [] b118 b1 (2 : Int32) (4 : Int32) f9 T126.heap n0 Z126 E126 F126_bytes F126_at F126_end G118 fq127 ne_b1_b118 (by decide) (by decide)) (hb hby at_82) (lenOf own_pd4 rfl) (by decide) (by decide) (by rw [hml]; rfl) (Nat.le_of_eq rfl) (by decide) (by decide)
      obtain ⟨hv129, M129, K129, E129, F129_bytes, F129_at, F129_end⟩ := Q129
      rw [show (own_R (2 : Int32) (4 : Int32) f9) = ((f9 (2 : Int32)) &&& (255 : Int32)) from rfl] at hv129
      subst hv129
      rw [show (own_N (2 : Int32) (4 : Int32)) = (3 : Int32) from rfl] at F129_at
      have N129 := Fr.app N126 M129
      have fq130 := Ints.keep fq127 K129 (ninS ne_b1_b118 nin0)
      have fq131 := Exa.keep E126 K129
      have Z129 : n0 ≤ T129.heap.size := Nat.le_trans Z126 K129.1
      refine Run.back (g' := (mkF m 85 #[.val (.int p0), .val (.int p1), .val (.int p2), .val (.ref b1), .val (.int (0 : Int32)), .val (.int (4 : Int32)), .val (.ref b118), .val (.int ((f9 (0 : Int32)) &&& (255 : Int32))), .val (.int ((f9 (1 : Int32)) &&& (255 : Int32))), .unset, .unset, .unset, .unset, .unset] [(.int ((f9 (2 : Int32)) &&& (255 : Int32)))])) st129 ?_
      refine Run.istore (pc' := 87) X129 hx (l' := #[.val (.int p0), .val (.int p1), .val (.int p2), .val (.ref b1), .val (.int (0 : Int32)), .val (.int (4 : Int32)), .val (.ref b118), .val (.int ((f9 (0 : Int32)) &&& (255 : Int32))), .val (.int ((f9 (1 : Int32)) &&& (255 : Int32))), .val (.int ((f9 (2 : Int32)) &&& (255 : Int32))), .unset, .unset, .unset, .unset]) (hb hby at_85) rfl rfl ?_
      refine Run.aload (pc' := 89) X129 hx (hb hby at_87) rfl rfl ?_
      obtain ⟨T132, L132, v132, X132, Q132, st132⟩ := callVirtual X129 hx (y := (⟨"com/example/tallyhold/tallyhold/ledger/ArrayInput", "read", "()I"⟩ : MethodName)) (z := (⟨"com/example/tallyhold/tallyhold/ledger/ArrayInput", "read", "()I"⟩ : MethodName)) (C := "com/example/tallyhold/tallyhold/ledger/ArrayInput") (a := b118) (Ls := #[.val (.int p0), .val (.int p1), .val (.int p2), .val (.ref b1), .val (.int (0 : Int32)), .val (.int (4 : Int32)), .val (.ref b118), .val (.int ((f9 (0 : Int32)) &&& (255 : Int32))), .val (.int ((f9 (1 : Int32)) &&& (255 : Int32))), .val (.int ((f9 (2 : Int32)) &&& (255 : Int32))), .unset, .unset, .unset, .unset]) (rest := []) (W := 0) (argsL := []) hZ hown (hw _ (List.mem_of_getElem? (i := 30) rfl)) (hw _ (List.mem_of_getElem? (i := 31) rfl)) (notFace_of_selects (args := #[]) (mvT hZ (hw _ (List.mem_of_getElem? (i := 33) rfl)))) (hw _ (List.mem_of_getElem? (i := 33) rfl)) (hw _ (List.mem_of_getElem? (i := 32) rfl)) (hw _ (List.mem_of_getElem? (i := 4) rfl)) (hw _ (List.mem_of_getElem? (i := 34) rfl)) (by decide) rfl E129 (rm5 l Z a0 hw [] b118 b1 (3 : Int32) (4 : Int32) f9 T129.heap n0 Z129 E129 F129_bytes F129_at F129_end G118 fq130 ne_b1_b118 (by decide) (by decide)) (hb hby at_89) (lenOf own_pd4 rfl) (by decide) (by decide) (by rw [hml]; rfl) (Nat.le_of_eq rfl) (by decide) (by decide)
      obtain ⟨hv132, M132, K132, E132, F132_bytes, F132_at, F132_end⟩ := Q132
      rw [show (own_R (3 : Int32) (4 : Int32) f9) = ((f9 (3 : Int32)) &&& (255 : Int32)) from rfl] at hv132
      subst hv132
      rw [show (own_N (3 : Int32) (4 : Int32)) = (4 : Int32) from rfl] at F132_at
      have N132 := Fr.app N129 M132
      have fq133 := Ints.keep fq130 K132 (ninS ne_b1_b118 nin0)
      have fq134 := Exa.keep E129 K132
      have Z132 : n0 ≤ T132.heap.size := Nat.le_trans Z129 K132.1
      refine Run.back (g' := (mkF m 92 #[.val (.int p0), .val (.int p1), .val (.int p2), .val (.ref b1), .val (.int (0 : Int32)), .val (.int (4 : Int32)), .val (.ref b118), .val (.int ((f9 (0 : Int32)) &&& (255 : Int32))), .val (.int ((f9 (1 : Int32)) &&& (255 : Int32))), .val (.int ((f9 (2 : Int32)) &&& (255 : Int32))), .unset, .unset, .unset, .unset] [(.int ((f9 (3 : Int32)) &&& (255 : Int32)))])) st132 ?_
      refine Run.istore (pc' := 94) X132 hx (l' := #[.val (.int p0), .val (.int p1), .val (.int p2), .val (.ref b1), .val (.int (0 : Int32)), .val (.int (4 : Int32)), .val (.ref b118), .val (.int ((f9 (0 : Int32)) &&& (255 : Int32))), .val (.int ((f9 (1 : Int32)) &&& (255 : Int32))), .val (.int ((f9 (2 : Int32)) &&& (255 : Int32))), .val (.int ((f9 (3 : Int32)) &&& (255 : Int32))), .unset, .unset, .unset]) (hb hby at_92) rfl rfl ?_
      refine Run.aload (pc' := 96) X132 hx (hb hby at_94) rfl rfl ?_
      obtain ⟨T135, L135, v135, X135, Q135, st135⟩ := callVirtual X132 hx (y := (⟨"com/example/tallyhold/tallyhold/ledger/ArrayInput", "read", "()I"⟩ : MethodName)) (z := (⟨"com/example/tallyhold/tallyhold/ledger/ArrayInput", "read", "()I"⟩ : MethodName)) (C := "com/example/tallyhold/tallyhold/ledger/ArrayInput") (a := b118) (Ls := #[.val (.int p0), .val (.int p1), .val (.int p2), .val (.ref b1), .val (.int (0 : Int32)), .val (.int (4 : Int32)), .val (.ref b118), .val (.int ((f9 (0 : Int32)) &&& (255 : Int32))), .val (.int ((f9 (1 : Int32)) &&& (255 : Int32))), .val (.int ((f9 (2 : Int32)) &&& (255 : Int32))), .val (.int ((f9 (3 : Int32)) &&& (255 : Int32))), .unset, .unset, .unset]) (rest := []) (W := 0) (argsL := []) hZ hown (hw _ (List.mem_of_getElem? (i := 30) rfl)) (hw _ (List.mem_of_getElem? (i := 31) rfl)) (notFace_of_selects (args := #[]) (mvT hZ (hw _ (List.mem_of_getElem? (i := 33) rfl)))) (hw _ (List.mem_of_getElem? (i := 33) rfl)) (hw _ (List.mem_of_getElem? (i := 32) rfl)) (hw _ (List.mem_of_getElem? (i := 4) rfl)) (hw _ (List.mem_of_getElem? (i := 34) rfl)) (by decide) rfl E132 (rm5 l Z a0 hw [] b118 b1 (4 : Int32) (4 : Int32) f9 T132.heap n0 Z132 E132 F132_bytes F132_at F132_end G118 fq133 ne_b1_b118 (by decide) (by decide)) (hb hby at_96) (lenOf own_pd4 rfl) (by decide) (by decide) (by rw [hml]; rfl) (Nat.le_of_eq rfl) (by decide) (by decide)
      obtain ⟨hv135, M135, K135, E135, F135_bytes, F135_at, F135_end⟩ := Q135
      rw [show (own_R (4 : Int32) (4 : Int32) f9) = (-1 : Int32) from rfl] at hv135
      subst hv135
      rw [show (own_N (4 : Int32) (4 : Int32)) = (4 : Int32) from rfl] at F135_at
      have N135 := Fr.app N132 M135
      have fq136 := Ints.keep fq133 K135 (ninS ne_b1_b118 nin0)
      have fq137 := Exa.keep E132 K135
      have Z135 : n0 ≤ T135.heap.size := Nat.le_trans Z132 K135.1
      refine Run.back (g' := (mkF m 99 #[.val (.int p0), .val (.int p1), .val (.int p2), .val (.ref b1), .val (.int (0 : Int32)), .val (.int (4 : Int32)), .val (.ref b118), .val (.int ((f9 (0 : Int32)) &&& (255 : Int32))), .val (.int ((f9 (1 : Int32)) &&& (255 : Int32))), .val (.int ((f9 (2 : Int32)) &&& (255 : Int32))), .val (.int ((f9 (3 : Int32)) &&& (255 : Int32))), .unset, .unset, .unset] [(.int (-1 : Int32))])) st135 ?_
      refine Run.istore (pc' := 101) X135 hx (l' := #[.val (.int p0), .val (.int p1), .val (.int p2), .val (.ref b1), .val (.int (0 : Int32)), .val (.int (4 : Int32)), .val (.ref b118), .val (.int ((f9 (0 : Int32)) &&& (255 : Int32))), .val (.int ((f9 (1 : Int32)) &&& (255 : Int32))), .val (.int ((f9 (2 : Int32)) &&& (255 : Int32))), .val (.int ((f9 (3 : Int32)) &&& (255 : Int32))), .val (.int (-1 : Int32)), .unset, .unset]) (hb hby at_99) rfl rfl ?_
      refine Run.aload (pc' := 103) X135 hx (hb hby at_101) rfl rfl ?_
      obtain ⟨T138, L138, v138, X138, Q138, st138⟩ := callVirtual X135 hx (y := (⟨"com/example/tallyhold/tallyhold/ledger/ArrayInput", "position", "()I"⟩ : MethodName)) (z := (⟨"com/example/tallyhold/tallyhold/ledger/ArrayInput", "position", "()I"⟩ : MethodName)) (C := "com/example/tallyhold/tallyhold/ledger/ArrayInput") (a := b118) (Ls := #[.val (.int p0), .val (.int p1), .val (.int p2), .val (.ref b1), .val (.int (0 : Int32)), .val (.int (4 : Int32)), .val (.ref b118), .val (.int ((f9 (0 : Int32)) &&& (255 : Int32))), .val (.int ((f9 (1 : Int32)) &&& (255 : Int32))), .val (.int ((f9 (2 : Int32)) &&& (255 : Int32))), .val (.int ((f9 (3 : Int32)) &&& (255 : Int32))), .val (.int (-1 : Int32)), .unset, .unset]) (rest := []) (W := 0) (argsL := []) hZ hown (hw _ (List.mem_of_getElem? (i := 35) rfl)) (hw _ (List.mem_of_getElem? (i := 36) rfl)) (notFace_of_selects (args := #[]) (mvT hZ (hw _ (List.mem_of_getElem? (i := 38) rfl)))) (hw _ (List.mem_of_getElem? (i := 38) rfl)) (hw _ (List.mem_of_getElem? (i := 37) rfl)) (hw _ (List.mem_of_getElem? (i := 4) rfl)) (hw _ (List.mem_of_getElem? (i := 39) rfl)) (by decide) rfl E135 (rm6 l Z a0 hw [] b118 (4 : Int32) T135.heap n0 Z135 F135_at) (hb hby at_103) (lenOf own_pd4 rfl) (by decide) (by decide) (by rw [hml]; rfl) (Nat.le_of_eq rfl) (by decide) (by decide)
      obtain ⟨hv138, M138, e138⟩ := Q138
      rw [show (own_F6 b118 (4 : Int32)) = (4 : Int32) from rfl] at hv138
      subst hv138
      have N138 := Fr.app N135 M138
      refine Run.back (g' := (mkF m 106 #[.val (.int p0), .val (.int p1), .val (.int p2), .val (.ref b1), .val (.int (0 : Int32)), .val (.int (4 : Int32)), .val (.ref b118), .val (.int ((f9 (0 : Int32)) &&& (255 : Int32))), .val (.int ((f9 (1 : Int32)) &&& (255 : Int32))), .val (.int ((f9 (2 : Int32)) &&& (255 : Int32))), .val (.int ((f9 (3 : Int32)) &&& (255 : Int32))), .val (.int (-1 : Int32)), .unset, .unset] [(.int (4 : Int32))])) st138 ?_
      refine Run.istore (pc' := 108) X138 hx (l' := #[.val (.int p0), .val (.int p1), .val (.int p2), .val (.ref b1), .val (.int (0 : Int32)), .val (.int (4 : Int32)), .val (.ref b118), .val (.int ((f9 (0 : Int32)) &&& (255 : Int32))), .val (.int ((f9 (1 : Int32)) &&& (255 : Int32))), .val (.int ((f9 (2 : Int32)) &&& (255 : Int32))), .val (.int ((f9 (3 : Int32)) &&& (255 : Int32))), .val (.int (-1 : Int32)), .val (.int (4 : Int32)), .unset]) (hb hby at_106) rfl rfl ?_
      refine Run.aload (pc' := 110) X138 hx (hb hby at_108) rfl rfl ?_
      obtain ⟨T139, L139, v139, X139, Q139, st139⟩ := callVirtual X138 hx (y := (⟨"com/example/tallyhold/tallyhold/ledger/ArrayInput", "available", "()I"⟩ : MethodName)) (z := (⟨"com/example/tallyhold/tallyhold/ledger/ArrayInput", "available", "()I"⟩ : MethodName)) (C := "com/example/tallyhold/tallyhold/ledger/ArrayInput") (a := b118) (Ls := #[.val (.int p0), .val (.int p1), .val (.int p2), .val (.ref b1), .val (.int (0 : Int32)), .val (.int (4 : Int32)), .val (.ref b118), .val (.int ((f9 (0 : Int32)) &&& (255 : Int32))), .val (.int ((f9 (1 : Int32)) &&& (255 : Int32))), .val (.int ((f9 (2 : Int32)) &&& (255 : Int32))), .val (.int ((f9 (3 : Int32)) &&& (255 : Int32))), .val (.int (-1 : Int32)), .val (.int (4 : Int32)), .unset]) (rest := []) (W := 0) (argsL := []) hZ hown (hw _ (List.mem_of_getElem? (i := 40) rfl)) (hw _ (List.mem_of_getElem? (i := 41) rfl)) (notFace_of_selects (args := #[]) (mvT hZ (hw _ (List.mem_of_getElem? (i := 43) rfl)))) (hw _ (List.mem_of_getElem? (i := 43) rfl)) (hw _ (List.mem_of_getElem? (i := 42) rfl)) (hw _ (List.mem_of_getElem? (i := 4) rfl)) (hw _ (List.mem_of_getElem? (i := 44) rfl)) (by decide) e138 E135 (rm7 l Z a0 hw [] b118 (4 : Int32) (4 : Int32) T135.heap n0 Z135 F135_at F135_end) (hb hby at_110) (lenOf own_pd4 rfl) (by decide) (by decide) (by rw [hml]; rfl) (Nat.le_of_eq rfl) (by decide) (by decide)
      obtain ⟨hv139, M139, e139⟩ := Q139
      rw [show (own_F7 b118 (4 : Int32) (4 : Int32)) = (0 : Int32) from rfl] at hv139
      subst hv139
      have N139 := Fr.app N138 M139
      refine Run.back (g' := (mkF m 113 #[.val (.int p0), .val (.int p1), .val (.int p2), .val (.ref b1), .val (.int (0 : Int32)), .val (.int (4 : Int32)), .val (.ref b118), .val (.int ((f9 (0 : Int32)) &&& (255 : Int32))), .val (.int ((f9 (1 : Int32)) &&& (255 : Int32))), .val (.int ((f9 (2 : Int32)) &&& (255 : Int32))), .val (.int ((f9 (3 : Int32)) &&& (255 : Int32))), .val (.int (-1 : Int32)), .val (.int (4 : Int32)), .unset] [(.int (0 : Int32))])) st139 ?_
      refine Run.istore (pc' := 115) X139 hx (l' := #[.val (.int p0), .val (.int p1), .val (.int p2), .val (.ref b1), .val (.int (0 : Int32)), .val (.int (4 : Int32)), .val (.ref b118), .val (.int ((f9 (0 : Int32)) &&& (255 : Int32))), .val (.int ((f9 (1 : Int32)) &&& (255 : Int32))), .val (.int ((f9 (2 : Int32)) &&& (255 : Int32))), .val (.int ((f9 (3 : Int32)) &&& (255 : Int32))), .val (.int (-1 : Int32)), .val (.int (4 : Int32)), .val (.int (0 : Int32))]) (hb hby at_113) rfl rfl ?_
      refine Run.iload (pc' := 117) X139 hx (hb hby at_115) rfl rfl ?_
      refine Run.iloadN (pc' := 118) X139 hx (hb hby at_117) rfl rfl ?_
      refine Run.iload (pc' := 120) X139 hx (hb hby at_118) rfl rfl ?_
      refine Run.iload (pc' := 122) X139 hx (hb hby at_120) rfl rfl ?_
      refine Run.iconst (pc' := 123) (v := (0 : Int32)) X139 hx (hb hby at_122) rfl rfl ?_
      obtain ⟨T140, L140, v140, X140, Q140, st140⟩ := callStatic X139 hx (y := (⟨"com/example/tallyhold/tallyhold/ledger/ArrayInputReadPinLaw", "expected", "(IIII)I"⟩ : MethodName)) (Ls := #[.val (.int p0), .val (.int p1), .val (.int p2), .val (.ref b1), .val (.int (0 : Int32)), .val (.int (4 : Int32)), .val (.ref b118), .val (.int ((f9 (0 : Int32)) &&& (255 : Int32))), .val (.int ((f9 (1 : Int32)) &&& (255 : Int32))), .val (.int ((f9 (2 : Int32)) &&& (255 : Int32))), .val (.int ((f9 (3 : Int32)) &&& (255 : Int32))), .val (.int (-1 : Int32)), .val (.int (4 : Int32)), .val (.int (0 : Int32))]) (rest := [(.int ((f9 (0 : Int32)) &&& (255 : Int32)))]) (W := 1) (argsL := [(.int p0), (.int (0 : Int32)), (.int (4 : Int32)), (.int (0 : Int32))]) hZ hown (hw _ (List.mem_of_getElem? (i := 45) rfl)) (hw _ (List.mem_of_getElem? (i := 46) rfl)) (hw _ (List.mem_of_getElem? (i := 47) rfl)) (hw _ (List.mem_of_getElem? (i := 48) rfl)) (by decide) e139 (rm8 l Z a0 hw [] p0 (0 : Int32) (4 : Int32) (0 : Int32)  T135.heap n0 Z135 ) (hb hby at_123) (lenOf own_pd5 rfl) (by decide) (by decide) (by rw [hml]; rfl) (Nat.le_of_eq rfl) (by decide) (by decide)
      obtain ⟨hv140, M140, e140⟩ := Q140
      rw [show (own_F8 p0 (0 : Int32) (4 : Int32) (0 : Int32)) = (((p0.toUInt32 >>> ((0 : Int32) &&& 31).toUInt32).toInt32) &&& (255 : Int32)) from rfl] at hv140
      subst hv140
      have N140 := Fr.app N139 M140
      refine Run.back (g' := (mkF m 126 #[.val (.int p0), .val (.int p1), .val (.int p2), .val (.ref b1), .val (.int (0 : Int32)), .val (.int (4 : Int32)), .val (.ref b118), .val (.int ((f9 (0 : Int32)) &&& (255 : Int32))), .val (.int ((f9 (1 : Int32)) &&& (255 : Int32))), .val (.int ((f9 (2 : Int32)) &&& (255 : Int32))), .val (.int ((f9 (3 : Int32)) &&& (255 : Int32))), .val (.int (-1 : Int32)), .val (.int (4 : Int32)), .val (.int (0 : Int32))] [(.int (((p0.toUInt32 >>> ((0 : Int32) &&& 31).toUInt32).toInt32) &&& (255 : Int32))), (.int ((f9 (0 : Int32)) &&& (255 : Int32)))])) st140 ?_
      refine Run.icmpNo (pc' := 129) X140 hx (hb hby at_126) (teq (own_b0 g0)).2 rfl ?_
      refine Run.iload (pc' := 131) X140 hx (hb hby at_129) rfl rfl ?_
      refine Run.iloadN (pc' := 132) X140 hx (hb hby at_131) rfl rfl ?_
      refine Run.iload (pc' := 134) X140 hx (hb hby at_132) rfl rfl ?_
      refine Run.iload (pc' := 136) X140 hx (hb hby at_134) rfl rfl ?_
      refine Run.iconst (pc' := 137) (v := (1 : Int32)) X140 hx (hb hby at_136) rfl rfl ?_
      obtain ⟨T141, L141, v141, X141, Q141, st141⟩ := callStatic X140 hx (y := (⟨"com/example/tallyhold/tallyhold/ledger/ArrayInputReadPinLaw", "expected", "(IIII)I"⟩ : MethodName)) (Ls := #[.val (.int p0), .val (.int p1), .val (.int p2), .val (.ref b1), .val (.int (0 : Int32)), .val (.int (4 : Int32)), .val (.ref b118), .val (.int ((f9 (0 : Int32)) &&& (255 : Int32))), .val (.int ((f9 (1 : Int32)) &&& (255 : Int32))), .val (.int ((f9 (2 : Int32)) &&& (255 : Int32))), .val (.int ((f9 (3 : Int32)) &&& (255 : Int32))), .val (.int (-1 : Int32)), .val (.int (4 : Int32)), .val (.int (0 : Int32))]) (rest := [(.int ((f9 (1 : Int32)) &&& (255 : Int32)))]) (W := 1) (argsL := [(.int p0), (.int (0 : Int32)), (.int (4 : Int32)), (.int (1 : Int32))]) hZ hown (hw _ (List.mem_of_getElem? (i := 45) rfl)) (hw _ (List.mem_of_getElem? (i := 46) rfl)) (hw _ (List.mem_of_getElem? (i := 47) rfl)) (hw _ (List.mem_of_getElem? (i := 48) rfl)) (by decide) e140 (rm8 l Z a0 hw [] p0 (0 : Int32) (4 : Int32) (1 : Int32)  T135.heap n0 Z135 ) (hb hby at_137) (lenOf own_pd5 rfl) (by decide) (by decide) (by rw [hml]; rfl) (Nat.le_of_eq rfl) (by decide) (by decide)
      obtain ⟨hv141, M141, e141⟩ := Q141
      rw [show (own_F8 p0 (0 : Int32) (4 : Int32) (1 : Int32)) = (((p0.toUInt32 >>> ((8 : Int32) &&& 31).toUInt32).toInt32) &&& (255 : Int32)) from rfl] at hv141
      subst hv141
      have N141 := Fr.app N140 M141
      refine Run.back (g' := (mkF m 140 #[.val (.int p0), .val (.int p1), .val (.int p2), .val (.ref b1), .val (.int (0 : Int32)), .val (.int (4 : Int32)), .val (.ref b118), .val (.int ((f9 (0 : Int32)) &&& (255 : Int32))), .val (.int ((f9 (1 : Int32)) &&& (255 : Int32))), .val (.int ((f9 (2 : Int32)) &&& (255 : Int32))), .val (.int ((f9 (3 : Int32)) &&& (255 : Int32))), .val (.int (-1 : Int32)), .val (.int (4 : Int32)), .val (.int (0 : Int32))] [(.int (((p0.toUInt32 >>> ((8 : Int32) &&& 31).toUInt32).toInt32) &&& (255 : Int32))), (.int ((f9 (1 : Int32)) &&& (255 : Int32)))])) st141 ?_
      refine Run.icmpNo (pc' := 143) X141 hx (hb hby at_140) (teq (own_b1 g1)).2 rfl ?_
      refine Run.iload (pc' := 145) X141 hx (hb hby at_143) rfl rfl ?_
      refine Run.iloadN (pc' := 146) X141 hx (hb hby at_145) rfl rfl ?_
      refine Run.iload (pc' := 148) X141 hx (hb hby at_146) rfl rfl ?_
      refine Run.iload (pc' := 150) X141 hx (hb hby at_148) rfl rfl ?_
      refine Run.iconst (pc' := 151) (v := (2 : Int32)) X141 hx (hb hby at_150) rfl rfl ?_
      obtain ⟨T142, L142, v142, X142, Q142, st142⟩ := callStatic X141 hx (y := (⟨"com/example/tallyhold/tallyhold/ledger/ArrayInputReadPinLaw", "expected", "(IIII)I"⟩ : MethodName)) (Ls := #[.val (.int p0), .val (.int p1), .val (.int p2), .val (.ref b1), .val (.int (0 : Int32)), .val (.int (4 : Int32)), .val (.ref b118), .val (.int ((f9 (0 : Int32)) &&& (255 : Int32))), .val (.int ((f9 (1 : Int32)) &&& (255 : Int32))), .val (.int ((f9 (2 : Int32)) &&& (255 : Int32))), .val (.int ((f9 (3 : Int32)) &&& (255 : Int32))), .val (.int (-1 : Int32)), .val (.int (4 : Int32)), .val (.int (0 : Int32))]) (rest := [(.int ((f9 (2 : Int32)) &&& (255 : Int32)))]) (W := 1) (argsL := [(.int p0), (.int (0 : Int32)), (.int (4 : Int32)), (.int (2 : Int32))]) hZ hown (hw _ (List.mem_of_getElem? (i := 45) rfl)) (hw _ (List.mem_of_getElem? (i := 46) rfl)) (hw _ (List.mem_of_getElem? (i := 47) rfl)) (hw _ (List.mem_of_getElem? (i := 48) rfl)) (by decide) e141 (rm8 l Z a0 hw [] p0 (0 : Int32) (4 : Int32) (2 : Int32)  T135.heap n0 Z135 ) (hb hby at_151) (lenOf own_pd5 rfl) (by decide) (by decide) (by rw [hml]; rfl) (Nat.le_of_eq rfl) (by decide) (by decide)
      obtain ⟨hv142, M142, e142⟩ := Q142
      rw [show (own_F8 p0 (0 : Int32) (4 : Int32) (2 : Int32)) = (((p0.toUInt32 >>> ((16 : Int32) &&& 31).toUInt32).toInt32) &&& (255 : Int32)) from rfl] at hv142
      subst hv142
      have N142 := Fr.app N141 M142
      refine Run.back (g' := (mkF m 154 #[.val (.int p0), .val (.int p1), .val (.int p2), .val (.ref b1), .val (.int (0 : Int32)), .val (.int (4 : Int32)), .val (.ref b118), .val (.int ((f9 (0 : Int32)) &&& (255 : Int32))), .val (.int ((f9 (1 : Int32)) &&& (255 : Int32))), .val (.int ((f9 (2 : Int32)) &&& (255 : Int32))), .val (.int ((f9 (3 : Int32)) &&& (255 : Int32))), .val (.int (-1 : Int32)), .val (.int (4 : Int32)), .val (.int (0 : Int32))] [(.int (((p0.toUInt32 >>> ((16 : Int32) &&& 31).toUInt32).toInt32) &&& (255 : Int32))), (.int ((f9 (2 : Int32)) &&& (255 : Int32)))])) st142 ?_
      refine Run.icmpNo (pc' := 157) X142 hx (hb hby at_154) (teq (own_b2 g2)).2 rfl ?_
      refine Run.iload (pc' := 159) X142 hx (hb hby at_157) rfl rfl ?_
      refine Run.iloadN (pc' := 160) X142 hx (hb hby at_159) rfl rfl ?_
      refine Run.iload (pc' := 162) X142 hx (hb hby at_160) rfl rfl ?_
      refine Run.iload (pc' := 164) X142 hx (hb hby at_162) rfl rfl ?_
      refine Run.iconst (pc' := 165) (v := (3 : Int32)) X142 hx (hb hby at_164) rfl rfl ?_
      obtain ⟨T143, L143, v143, X143, Q143, st143⟩ := callStatic X142 hx (y := (⟨"com/example/tallyhold/tallyhold/ledger/ArrayInputReadPinLaw", "expected", "(IIII)I"⟩ : MethodName)) (Ls := #[.val (.int p0), .val (.int p1), .val (.int p2), .val (.ref b1), .val (.int (0 : Int32)), .val (.int (4 : Int32)), .val (.ref b118), .val (.int ((f9 (0 : Int32)) &&& (255 : Int32))), .val (.int ((f9 (1 : Int32)) &&& (255 : Int32))), .val (.int ((f9 (2 : Int32)) &&& (255 : Int32))), .val (.int ((f9 (3 : Int32)) &&& (255 : Int32))), .val (.int (-1 : Int32)), .val (.int (4 : Int32)), .val (.int (0 : Int32))]) (rest := [(.int ((f9 (3 : Int32)) &&& (255 : Int32)))]) (W := 1) (argsL := [(.int p0), (.int (0 : Int32)), (.int (4 : Int32)), (.int (3 : Int32))]) hZ hown (hw _ (List.mem_of_getElem? (i := 45) rfl)) (hw _ (List.mem_of_getElem? (i := 46) rfl)) (hw _ (List.mem_of_getElem? (i := 47) rfl)) (hw _ (List.mem_of_getElem? (i := 48) rfl)) (by decide) e142 (rm8 l Z a0 hw [] p0 (0 : Int32) (4 : Int32) (3 : Int32)  T135.heap n0 Z135 ) (hb hby at_165) (lenOf own_pd5 rfl) (by decide) (by decide) (by rw [hml]; rfl) (Nat.le_of_eq rfl) (by decide) (by decide)
      obtain ⟨hv143, M143, e143⟩ := Q143
      rw [show (own_F8 p0 (0 : Int32) (4 : Int32) (3 : Int32)) = (((p0.toUInt32 >>> ((24 : Int32) &&& 31).toUInt32).toInt32) &&& (255 : Int32)) from rfl] at hv143
      subst hv143
      have N143 := Fr.app N142 M143
      refine Run.back (g' := (mkF m 168 #[.val (.int p0), .val (.int p1), .val (.int p2), .val (.ref b1), .val (.int (0 : Int32)), .val (.int (4 : Int32)), .val (.ref b118), .val (.int ((f9 (0 : Int32)) &&& (255 : Int32))), .val (.int ((f9 (1 : Int32)) &&& (255 : Int32))), .val (.int ((f9 (2 : Int32)) &&& (255 : Int32))), .val (.int ((f9 (3 : Int32)) &&& (255 : Int32))), .val (.int (-1 : Int32)), .val (.int (4 : Int32)), .val (.int (0 : Int32))] [(.int (((p0.toUInt32 >>> ((24 : Int32) &&& 31).toUInt32).toInt32) &&& (255 : Int32))), (.int ((f9 (3 : Int32)) &&& (255 : Int32)))])) st143 ?_
      refine Run.icmpNo (pc' := 171) X143 hx (hb hby at_168) (teq (own_b3 g3)).2 rfl ?_
      refine Run.iload (pc' := 173) X143 hx (hb hby at_171) rfl rfl ?_
      refine Run.iloadN (pc' := 174) X143 hx (hb hby at_173) rfl rfl ?_
      refine Run.iload (pc' := 176) X143 hx (hb hby at_174) rfl rfl ?_
      refine Run.iload (pc' := 178) X143 hx (hb hby at_176) rfl rfl ?_
      refine Run.iconst (pc' := 179) (v := (4 : Int32)) X143 hx (hb hby at_178) rfl rfl ?_
      obtain ⟨T144, L144, v144, X144, Q144, st144⟩ := callStatic X143 hx (y := (⟨"com/example/tallyhold/tallyhold/ledger/ArrayInputReadPinLaw", "expected", "(IIII)I"⟩ : MethodName)) (Ls := #[.val (.int p0), .val (.int p1), .val (.int p2), .val (.ref b1), .val (.int (0 : Int32)), .val (.int (4 : Int32)), .val (.ref b118), .val (.int ((f9 (0 : Int32)) &&& (255 : Int32))), .val (.int ((f9 (1 : Int32)) &&& (255 : Int32))), .val (.int ((f9 (2 : Int32)) &&& (255 : Int32))), .val (.int ((f9 (3 : Int32)) &&& (255 : Int32))), .val (.int (-1 : Int32)), .val (.int (4 : Int32)), .val (.int (0 : Int32))]) (rest := [(.int (-1 : Int32))]) (W := 1) (argsL := [(.int p0), (.int (0 : Int32)), (.int (4 : Int32)), (.int (4 : Int32))]) hZ hown (hw _ (List.mem_of_getElem? (i := 45) rfl)) (hw _ (List.mem_of_getElem? (i := 46) rfl)) (hw _ (List.mem_of_getElem? (i := 47) rfl)) (hw _ (List.mem_of_getElem? (i := 48) rfl)) (by decide) e143 (rm8 l Z a0 hw [] p0 (0 : Int32) (4 : Int32) (4 : Int32)  T135.heap n0 Z135 ) (hb hby at_179) (lenOf own_pd5 rfl) (by decide) (by decide) (by rw [hml]; rfl) (Nat.le_of_eq rfl) (by decide) (by decide)
      obtain ⟨hv144, M144, e144⟩ := Q144
      rw [show (own_F8 p0 (0 : Int32) (4 : Int32) (4 : Int32)) = (-1 : Int32) from rfl] at hv144
      subst hv144
      have N144 := Fr.app N143 M144
      refine Run.back (g' := (mkF m 182 #[.val (.int p0), .val (.int p1), .val (.int p2), .val (.ref b1), .val (.int (0 : Int32)), .val (.int (4 : Int32)), .val (.ref b118), .val (.int ((f9 (0 : Int32)) &&& (255 : Int32))), .val (.int ((f9 (1 : Int32)) &&& (255 : Int32))), .val (.int ((f9 (2 : Int32)) &&& (255 : Int32))), .val (.int ((f9 (3 : Int32)) &&& (255 : Int32))), .val (.int (-1 : Int32)), .val (.int (4 : Int32)), .val (.int (0 : Int32))] [(.int (-1 : Int32)), (.int (-1 : Int32))])) st144 ?_
      refine Run.icmpNo (pc' := 185) X144 hx (hb hby at_182) (teq rfl).2 rfl ?_
      refine Run.iload (pc' := 187) X144 hx (hb hby at_185) rfl rfl ?_
      refine Run.iload (pc' := 189) X144 hx (hb hby at_187) rfl rfl ?_
      refine Run.iload (pc' := 191) X144 hx (hb hby at_189) rfl rfl ?_
      refine Run.iadd (pc' := 192) X144 hx (hb hby at_191) rfl ?_
      refine Run.icmpNo (pc' := 195) X144 hx (hb hby at_192) (teq (by decide : (4 : Int32) = ((0 : Int32) + (4 : Int32)))).2 rfl ?_
      refine Run.iload (pc' := 197) X144 hx (hb hby at_195) rfl rfl ?_
      refine Run.ifNo (pc' := 200) X144 hx (hb hby at_197) ((if0 _ _).trans (teq (by decide : (0 : Int32) = (0 : Int32))).2) rfl ?_
      refine Run.iconst (pc' := 201) (v := (1 : Int32)) X144 hx (hb hby at_200) rfl rfl ?_
      refine Run.goto (pc' := 205) X144 hx (hb hby at_201) (by decide) (by decide) ?_
      exact Run.retSmall X144 hx (t := .boolean) (z' := (1 : Int32)) Bd.notSynchronized Bd.returns (by simp) rfl (hb hby at_205) ⟨rfl, N144⟩ (by decide) (by decide)
  · rw [ho]
    refine Run.iloadN (pc' := 42) X8 hx (hb hby at_41) rfl rfl ?_
    refine Run.ldcInt (pc' := 44) (v := (2147483647 : Int32)) X8 hx hown (mvT hZ (hw _ (List.mem_of_getElem? (i := 1) rfl))) (hb hby at_42) rfl ?_
    refine Run.iand (pc' := 45) X8 hx (hb hby at_44) rfl ?_
    refine Run.iconst (pc' := 46) (v := (5 : Int32)) X8 hx (hb hby at_45) rfl rfl ?_
    refine Run.iload (pc' := 48) X8 hx (hb hby at_46) rfl rfl ?_
    refine Run.isub (pc' := 49) X8 hx (hb hby at_48) rfl ?_
    refine Run.irem (pc' := 50) X8 hx (hb hby at_49) (by decide) rfl ?_
    refine Run.istore (pc' := 52) X8 hx (l' := #[.val (.int p0), .val (.int p1), .val (.int p2), .val (.ref b1), .val (.int (1 : Int32)), .val (.int ((p2 &&& (2147483647 : Int32)) % ((5 : Int32) - (1 : Int32)))), .unset, .unset, .unset, .unset, .unset, .unset, .unset, .unset]) (hb hby at_50) rfl rfl ?_
    rcases own_l1 p2 with hl | hl | hl | hl
    · rw [hl]
      obtain ⟨T145, h145, X145, e145, E145, A145, D145, -, st145⟩ := newO X8 hx hZ hown (hw _ (List.mem_of_getElem? (i := 2) rfl)) (hw _ (List.mem_of_getElem? (i := 3) rfl)) (hw _ (List.mem_of_getElem? (i := 4) rfl)) e8 (g := (mkF m 52 #[.val (.int p0), .val (.int p1), .val (.int p2), .val (.ref b1), .val (.int (1 : Int32)), .val (.int (0 : Int32)), .unset, .unset, .unset, .unset, .unset, .unset, .unset, .unset] [])) rfl (hb hby at_52) (by decide) (by decide)
      obtain ⟨b145, g145⟩ : ∃ z, z = h8.size := ⟨_, rfl⟩
      rw [← g145] at A145 D145 st145
      have ne_b1_b145 : b1 ≠ b145 := Nat.ne_of_lt (Nat.lt_of_lt_of_le (A8).lt (Nat.le_of_eq g145.symm))
      have G145 : n0 ≤ b145 := Nat.le_trans Z8 (Nat.le_of_eq g145.symm)
      have Z145 : n0 ≤ h145.size := Nat.le_trans Z8 E145.1
      have fq146 := Ints.ext E145 A8
      have F145_bytes : Fld Z h145 b145 "com/example/tallyhold/tallyhold/ledger/ArrayInput" "bytes" "[B" .null := D145 (Or.inr (hw _ (List.mem_of_getElem? (i := 25) rfl))) (ty := (.array .byte)) (by decide)
      have F145_at : Fld Z h145 b145 "com/example/tallyhold/tallyhold/ledger/ArrayInput" "at" "I" (.int (0 : Int32)) := D145 (Or.inl (hw _ (List.mem_of_getElem? (i := 27) rfl))) (ty := .int) (by decide)
      have F145_end : Fld Z h145 b145 "com/example/tallyhold/tallyhold/ledger/ArrayInput" "end" "I" (.int (0 : Int32)) := D145 (Or.inr (hw _ (List.mem_of_getElem? (i := 29) rfl))) (ty := .int) (by decide)
      refine Run.back (g' := (mkF m 55 #[.val (.int p0), .val (.int p1), .val (.int p2), .val (.ref b1), .val (.int (1 : Int32)), .val (.int (0 : Int32)), .unset, .unset, .unset, .unset, .unset, .unset, .unset, .unset] [(.ref b145)])) st145 ?_
      refine Run.dup (pc' := 56) X145 hx (hb hby at_55) rfl rfl ?_
      refine Run.aloadN (pc' := 57) X145 hx (hb hby at_56) rfl rfl ?_
      refine Run.iload (pc' := 59) X145 hx (hb hby at_57) rfl rfl ?_
      refine Run.iload (pc' := 61) X145 hx (hb hby at_59) rfl rfl ?_
      obtain ⟨T147, L147, v147, X147, Q147, st147⟩ := callSpecial X145 hx (y := (⟨"com/example/tallyhold/tallyhold/ledger/ArrayInput", "<init>", "([BII)V"⟩ : MethodName)) (a := b145) (Ls := #[.val (.int p0), .val (.int p1), .val (.int p2), .val (.ref b1), .val (.int (1 : Int32)), .val (.int (0 : Int32)), .unset, .unset, .unset, .unset, .unset, .unset, .unset, .unset]) (rest := [(.ref b145)]) (W := 1) (argsL := [(.ref b1), (.int (1 : Int32)), (.int (0 : Int32))]) rfl hZ hown (hw _ (List.mem_of_getElem? (i := 5) rfl)) (hw _ (List.mem_of_getElem? (i := 6) rfl)) (hw _ (List.mem_of_getElem? (i := 4) rfl)) (hw _ (List.mem_of_getElem? (i := 7) rfl)) (by decide) e145 (rm4 l Z a0 hw [] b145 b1 (1 : Int32) (0 : Int32) f9 h145 n0 Z145 A145 F145_bytes F145_at F145_end G145 fq146 ne_b1_b145 (by decide) (by decide)) (hb hby at_61) (lenOf own_pd3 rfl) (by decide) (by decide) (by rw [hml]; rfl) (Nat.le_of_eq rfl) (by decide) (by decide)
      obtain ⟨rfl, M147, K147, E147, F147_bytes, F147_at, F147_end⟩ := Q147
      rw [show ((1 : Int32) + (0 : Int32)) = (1 : Int32) from rfl] at F147_end
      have N147 := Fr.app N8 M147
      have fq148 := Ints.keep fq146 K147 (ninS ne_b1_b145 nin0)
      have fq149 := Exa.keep A145 K147
      have Z147 : n0 ≤ T147.heap.size := Nat.le_trans Z145 K147.1
      refine Run.back (g' := (mkF m 64 #[.val (.int p0), .val (.int p1), .val (.int p2), .val (.ref b1), .val (.int (1 : Int32)), .val (.int (0 : Int32)), .unset, .unset, .unset, .unset, .unset, .unset, .unset, .unset] [(.ref b145)])) st147 ?_
      refine Run.astore (pc' := 66) X147 hx (l' := #[.val (.int p0), .val (.int p1), .val (.int p2), .val (.ref b1), .val (.int (1 : Int32)), .val (.int (0 : Int32)), .val (.ref b145), .unset, .unset, .unset, .unset, .unset, .unset, .unset]) (hb hby at_64) rfl rfl ?_
      refine Run.aload (pc' := 68) X147 hx (hb hby at_66) rfl rfl ?_
      obtain ⟨T150, L150, v150, X150, Q150, st150⟩ := callVirtual X147 hx (y := (⟨"com/example/tallyhold/tallyhold/ledger/ArrayInput", "read", "()I"⟩ : MethodName)) (z := (⟨"com/example/tallyhold/tallyhold/ledger/ArrayInput", "read", "()I"⟩ : MethodName)) (C := "com/example/tallyhold/tallyhold/ledger/ArrayInput") (a := b145) (Ls := #[.val (.int p0), .val (.int p1), .val (.int p2), .val (.ref b1), .val (.int (1 : Int32)), .val (.int (0 : Int32)), .val (.ref b145), .unset, .unset, .unset, .unset, .unset, .unset, .unset]) (rest := []) (W := 0) (argsL := []) hZ hown (hw _ (List.mem_of_getElem? (i := 30) rfl)) (hw _ (List.mem_of_getElem? (i := 31) rfl)) (notFace_of_selects (args := #[]) (mvT hZ (hw _ (List.mem_of_getElem? (i := 33) rfl)))) (hw _ (List.mem_of_getElem? (i := 33) rfl)) (hw _ (List.mem_of_getElem? (i := 32) rfl)) (hw _ (List.mem_of_getElem? (i := 4) rfl)) (hw _ (List.mem_of_getElem? (i := 34) rfl)) (by decide) rfl E147 (rm5 l Z a0 hw [] b145 b1 (1 : Int32) (1 : Int32) f9 T147.heap n0 Z147 E147 F147_bytes F147_at F147_end G145 fq148 ne_b1_b145 (by decide) (by decide)) (hb hby at_68) (lenOf own_pd4 rfl) (by decide) (by decide) (by rw [hml]; rfl) (Nat.le_of_eq rfl) (by decide) (by decide)
      obtain ⟨hv150, M150, K150, E150, F150_bytes, F150_at, F150_end⟩ := Q150
      rw [show (own_R (1 : Int32) (1 : Int32) f9) = (-1 : Int32) from rfl] at hv150
      subst hv150
      rw [show (own_N (1 : Int32) (1 : Int32)) = (1 : Int32) from rfl] at F150_at
      have N150 := Fr.app N147 M150
      have fq151 := Ints.keep fq148 K150 (ninS ne_b1_b145 nin0)
      have fq152 := Exa.keep E147 K150
      have Z150 : n0 ≤ T150.heap.size := Nat.le_trans Z147 K150.1
      refine Run.back (g' := (mkF m 71 #[.val (.int p0), .val (.int p1), .val (.int p2), .val (.ref b1), .val (.int (1 : Int32)), .val (.int (0 : Int32)), .val (.ref b145), .unset, .unset, .unset, .unset, .unset, .unset, .unset] [(.int (-1 : Int32))])) st150 ?_
      refine Run.istore (pc' := 73) X150 hx (l' := #[.val (.int p0), .val (.int p1), .val (.int p2), .val (.ref b1), .val (.int (1 : Int32)), .val (.int (0 : Int32)), .val (.ref b145), .val (.int (-1 : Int32)), .unset, .unset, .unset, .unset, .unset, .unset]) (hb hby at_71) rfl rfl ?_
      refine Run.aload (pc' := 75) X150 hx (hb hby at_73) rfl rfl ?_
      obtain ⟨T153, L153, v153, X153, Q153, st153⟩ := callVirtual X150 hx (y := (⟨"com/example/tallyhold/tallyhold/ledger/ArrayInput", "read", "()I"⟩ : MethodName)) (z := (⟨"com/example/tallyhold/tallyhold/ledger/ArrayInput", "read", "()I"⟩ : MethodName)) (C := "com/example/tallyhold/tallyhold/ledger/ArrayInput") (a := b145) (Ls := #[.val (.int p0), .val (.int p1), .val (.int p2), .val (.ref b1), .val (.int (1 : Int32)), .val (.int (0 : Int32)), .val (.ref b145), .val (.int (-1 : Int32)), .unset, .unset, .unset, .unset, .unset, .unset]) (rest := []) (W := 0) (argsL := []) hZ hown (hw _ (List.mem_of_getElem? (i := 30) rfl)) (hw _ (List.mem_of_getElem? (i := 31) rfl)) (notFace_of_selects (args := #[]) (mvT hZ (hw _ (List.mem_of_getElem? (i := 33) rfl)))) (hw _ (List.mem_of_getElem? (i := 33) rfl)) (hw _ (List.mem_of_getElem? (i := 32) rfl)) (hw _ (List.mem_of_getElem? (i := 4) rfl)) (hw _ (List.mem_of_getElem? (i := 34) rfl)) (by decide) rfl E150 (rm5 l Z a0 hw [] b145 b1 (1 : Int32) (1 : Int32) f9 T150.heap n0 Z150 E150 F150_bytes F150_at F150_end G145 fq151 ne_b1_b145 (by decide) (by decide)) (hb hby at_75) (lenOf own_pd4 rfl) (by decide) (by decide) (by rw [hml]; rfl) (Nat.le_of_eq rfl) (by decide) (by decide)
      obtain ⟨hv153, M153, K153, E153, F153_bytes, F153_at, F153_end⟩ := Q153
      rw [show (own_R (1 : Int32) (1 : Int32) f9) = (-1 : Int32) from rfl] at hv153
      subst hv153
      rw [show (own_N (1 : Int32) (1 : Int32)) = (1 : Int32) from rfl] at F153_at
      have N153 := Fr.app N150 M153
      have fq154 := Ints.keep fq151 K153 (ninS ne_b1_b145 nin0)
      have fq155 := Exa.keep E150 K153
      have Z153 : n0 ≤ T153.heap.size := Nat.le_trans Z150 K153.1
      refine Run.back (g' := (mkF m 78 #[.val (.int p0), .val (.int p1), .val (.int p2), .val (.ref b1), .val (.int (1 : Int32)), .val (.int (0 : Int32)), .val (.ref b145), .val (.int (-1 : Int32)), .unset, .unset, .unset, .unset, .unset, .unset] [(.int (-1 : Int32))])) st153 ?_
      refine Run.istore (pc' := 80) X153 hx (l' := #[.val (.int p0), .val (.int p1), .val (.int p2), .val (.ref b1), .val (.int (1 : Int32)), .val (.int (0 : Int32)), .val (.ref b145), .val (.int (-1 : Int32)), .val (.int (-1 : Int32)), .unset, .unset, .unset, .unset, .unset]) (hb hby at_78) rfl rfl ?_
      refine Run.aload (pc' := 82) X153 hx (hb hby at_80) rfl rfl ?_
      obtain ⟨T156, L156, v156, X156, Q156, st156⟩ := callVirtual X153 hx (y := (⟨"com/example/tallyhold/tallyhold/ledger/ArrayInput", "read", "()I"⟩ : MethodName)) (z := (⟨"com/example/tallyhold/tallyhold/ledger/ArrayInput", "read", "()I"⟩ : MethodName)) (C := "com/example/tallyhold/tallyhold/ledger/ArrayInput") (a := b145) (Ls := #[.val (.int p0), .val (.int p1), .val (.int p2), .val (.ref b1), .val (.int (1 : Int32)), .val (.int (0 : Int32)), .val (.ref b145), .val (.int (-1 : Int32)), .val (.int (-1 : Int32)), .unset, .unset, .unset, .unset, .unset]) (rest := []) (W := 0) (argsL := []) hZ hown (hw _ (List.mem_of_getElem? (i := 30) rfl)) (hw _ (List.mem_of_getElem? (i := 31) rfl)) (notFace_of_selects (args := #[]) (mvT hZ (hw _ (List.mem_of_getElem? (i := 33) rfl)))) (hw _ (List.mem_of_getElem? (i := 33) rfl)) (hw _ (List.mem_of_getElem? (i := 32) rfl)) (hw _ (List.mem_of_getElem? (i := 4) rfl)) (hw _ (List.mem_of_getElem? (i := 34) rfl)) (by decide) rfl E153 (rm5 l Z a0 hw [] b145 b1 (1 : Int32) (1 : Int32) f9 T153.heap n0 Z153 E153 F153_bytes F153_at F153_end G145 fq154 ne_b1_b145 (by decide) (by decide)) (hb hby at_82) (lenOf own_pd4 rfl) (by decide) (by decide) (by rw [hml]; rfl) (Nat.le_of_eq rfl) (by decide) (by decide)
      obtain ⟨hv156, M156, K156, E156, F156_bytes, F156_at, F156_end⟩ := Q156
      rw [show (own_R (1 : Int32) (1 : Int32) f9) = (-1 : Int32) from rfl] at hv156
      subst hv156
      rw [show (own_N (1 : Int32) (1 : Int32)) = (1 : Int32) from rfl] at F156_at
      have N156 := Fr.app N153 M156
      have fq157 := Ints.keep fq154 K156 (ninS ne_b1_b145 nin0)
      have fq158 := Exa.keep E153 K156
      have Z156 : n0 ≤ T156.heap.size := Nat.le_trans Z153 K156.1
      refine Run.back (g' := (mkF m 85 #[.val (.int p0), .val (.int p1), .val (.int p2), .val (.ref b1), .val (.int (1 : Int32)), .val (.int (0 : Int32)), .val (.ref b145), .val (.int (-1 : Int32)), .val (.int (-1 : Int32)), .unset, .unset, .unset, .unset, .unset] [(.int (-1 : Int32))])) st156 ?_
      refine Run.istore (pc' := 87) X156 hx (l' := #[.val (.int p0), .val (.int p1), .val (.int p2), .val (.ref b1), .val (.int (1 : Int32)), .val (.int (0 : Int32)), .val (.ref b145), .val (.int (-1 : Int32)), .val (.int (-1 : Int32)), .val (.int (-1 : Int32)), .unset, .unset, .unset, .unset]) (hb hby at_85) rfl rfl ?_
      refine Run.aload (pc' := 89) X156 hx (hb hby at_87) rfl rfl ?_
      obtain ⟨T159, L159, v159, X159, Q159, st159⟩ := callVirtual X156 hx (y := (⟨"com/example/tallyhold/tallyhold/ledger/ArrayInput", "read", "()I"⟩ : MethodName)) (z := (⟨"com/example/tallyhold/tallyhold/ledger/ArrayInput", "read", "()I"⟩ : MethodName)) (C := "com/example/tallyhold/tallyhold/ledger/ArrayInput") (a := b145) (Ls := #[.val (.int p0), .val (.int p1), .val (.int p2), .val (.ref b1), .val (.int (1 : Int32)), .val (.int (0 : Int32)), .val (.ref b145), .val (.int (-1 : Int32)), .val (.int (-1 : Int32)), .val (.int (-1 : Int32)), .unset, .unset, .unset, .unset]) (rest := []) (W := 0) (argsL := []) hZ hown (hw _ (List.mem_of_getElem? (i := 30) rfl)) (hw _ (List.mem_of_getElem? (i := 31) rfl)) (notFace_of_selects (args := #[]) (mvT hZ (hw _ (List.mem_of_getElem? (i := 33) rfl)))) (hw _ (List.mem_of_getElem? (i := 33) rfl)) (hw _ (List.mem_of_getElem? (i := 32) rfl)) (hw _ (List.mem_of_getElem? (i := 4) rfl)) (hw _ (List.mem_of_getElem? (i := 34) rfl)) (by decide) rfl E156 (rm5 l Z a0 hw [] b145 b1 (1 : Int32) (1 : Int32) f9 T156.heap n0 Z156 E156 F156_bytes F156_at F156_end G145 fq157 ne_b1_b145 (by decide) (by decide)) (hb hby at_89) (lenOf own_pd4 rfl) (by decide) (by decide) (by rw [hml]; rfl) (Nat.le_of_eq rfl) (by decide) (by decide)
      obtain ⟨hv159, M159, K159, E159, F159_bytes, F159_at, F159_end⟩ := Q159
      rw [show (own_R (1 : Int32) (1 : Int32) f9) = (-1 : Int32) from rfl] at hv159
      subst hv159
      rw [show (own_N (1 : Int32) (1 : Int32)) = (1 : Int32) from rfl] at F159_at
      have N159 := Fr.app N156 M159
      have fq160 := Ints.keep fq157 K159 (ninS ne_b1_b145 nin0)
      have fq161 := Exa.keep E156 K159
      have Z159 : n0 ≤ T159.heap.size := Nat.le_trans Z156 K159.1
      refine Run.back (g' := (mkF m 92 #[.val (.int p0), .val (.int p1), .val (.int p2), .val (.ref b1), .val (.int (1 : Int32)), .val (.int (0 : Int32)), .val (.ref b145), .val (.int (-1 : Int32)), .val (.int (-1 : Int32)), .val (.int (-1 : Int32)), .unset, .unset, .unset, .unset] [(.int (-1 : Int32))])) st159 ?_
      refine Run.istore (pc' := 94) X159 hx (l' := #[.val (.int p0), .val (.int p1), .val (.int p2), .val (.ref b1), .val (.int (1 : Int32)), .val (.int (0 : Int32)), .val (.ref b145), .val (.int (-1 : Int32)), .val (.int (-1 : Int32)), .val (.int (-1 : Int32)), .val (.int (-1 : Int32)), .unset, .unset, .unset]) (hb hby at_92) rfl rfl ?_
      refine Run.aload (pc' := 96) X159 hx (hb hby at_94) rfl rfl ?_
      obtain ⟨T162, L162, v162, X162, Q162, st162⟩ := callVirtual X159 hx (y := (⟨"com/example/tallyhold/tallyhold/ledger/ArrayInput", "read", "()I"⟩ : MethodName)) (z := (⟨"com/example/tallyhold/tallyhold/ledger/ArrayInput", "read", "()I"⟩ : MethodName)) (C := "com/example/tallyhold/tallyhold/ledger/ArrayInput") (a := b145) (Ls := #[.val (.int p0), .val (.int p1), .val (.int p2), .val (.ref b1), .val (.int (1 : Int32)), .val (.int (0 : Int32)), .val (.ref b145), .val (.int (-1 : Int32)), .val (.int (-1 : Int32)), .val (.int (-1 : Int32)), .val (.int (-1 : Int32)), .unset, .unset, .unset]) (rest := []) (W := 0) (argsL := []) hZ hown (hw _ (List.mem_of_getElem? (i := 30) rfl)) (hw _ (List.mem_of_getElem? (i := 31) rfl)) (notFace_of_selects (args := #[]) (mvT hZ (hw _ (List.mem_of_getElem? (i := 33) rfl)))) (hw _ (List.mem_of_getElem? (i := 33) rfl)) (hw _ (List.mem_of_getElem? (i := 32) rfl)) (hw _ (List.mem_of_getElem? (i := 4) rfl)) (hw _ (List.mem_of_getElem? (i := 34) rfl)) (by decide) rfl E159 (rm5 l Z a0 hw [] b145 b1 (1 : Int32) (1 : Int32) f9 T159.heap n0 Z159 E159 F159_bytes F159_at F159_end G145 fq160 ne_b1_b145 (by decide) (by decide)) (hb hby at_96) (lenOf own_pd4 rfl) (by decide) (by decide) (by rw [hml]; rfl) (Nat.le_of_eq rfl) (by decide) (by decide)
      obtain ⟨hv162, M162, K162, E162, F162_bytes, F162_at, F162_end⟩ := Q162
      rw [show (own_R (1 : Int32) (1 : Int32) f9) = (-1 : Int32) from rfl] at hv162
      subst hv162
      rw [show (own_N (1 : Int32) (1 : Int32)) = (1 : Int32) from rfl] at F162_at
      have N162 := Fr.app N159 M162
      have fq163 := Ints.keep fq160 K162 (ninS ne_b1_b145 nin0)
      have fq164 := Exa.keep E159 K162
      have Z162 : n0 ≤ T162.heap.size := Nat.le_trans Z159 K162.1
      refine Run.back (g' := (mkF m 99 #[.val (.int p0), .val (.int p1), .val (.int p2), .val (.ref b1), .val (.int (1 : Int32)), .val (.int (0 : Int32)), .val (.ref b145), .val (.int (-1 : Int32)), .val (.int (-1 : Int32)), .val (.int (-1 : Int32)), .val (.int (-1 : Int32)), .unset, .unset, .unset] [(.int (-1 : Int32))])) st162 ?_
      refine Run.istore (pc' := 101) X162 hx (l' := #[.val (.int p0), .val (.int p1), .val (.int p2), .val (.ref b1), .val (.int (1 : Int32)), .val (.int (0 : Int32)), .val (.ref b145), .val (.int (-1 : Int32)), .val (.int (-1 : Int32)), .val (.int (-1 : Int32)), .val (.int (-1 : Int32)), .val (.int (-1 : Int32)), .unset, .unset]) (hb hby at_99) rfl rfl ?_
      refine Run.aload (pc' := 103) X162 hx (hb hby at_101) rfl rfl ?_
      obtain ⟨T165, L165, v165, X165, Q165, st165⟩ := callVirtual X162 hx (y := (⟨"com/example/tallyhold/tallyhold/ledger/ArrayInput", "position", "()I"⟩ : MethodName)) (z := (⟨"com/example/tallyhold/tallyhold/ledger/ArrayInput", "position", "()I"⟩ : MethodName)) (C := "com/example/tallyhold/tallyhold/ledger/ArrayInput") (a := b145) (Ls := #[.val (.int p0), .val (.int p1), .val (.int p2), .val (.ref b1), .val (.int (1 : Int32)), .val (.int (0 : Int32)), .val (.ref b145), .val (.int (-1 : Int32)), .val (.int (-1 : Int32)), .val (.int (-1 : Int32)), .val (.int (-1 : Int32)), .val (.int (-1 : Int32)), .unset, .unset]) (rest := []) (W := 0) (argsL := []) hZ hown (hw _ (List.mem_of_getElem? (i := 35) rfl)) (hw _ (List.mem_of_getElem? (i := 36) rfl)) (notFace_of_selects (args := #[]) (mvT hZ (hw _ (List.mem_of_getElem? (i := 38) rfl)))) (hw _ (List.mem_of_getElem? (i := 38) rfl)) (hw _ (List.mem_of_getElem? (i := 37) rfl)) (hw _ (List.mem_of_getElem? (i := 4) rfl)) (hw _ (List.mem_of_getElem? (i := 39) rfl)) (by decide) rfl E162 (rm6 l Z a0 hw [] b145 (1 : Int32) T162.heap n0 Z162 F162_at) (hb hby at_103) (lenOf own_pd4 rfl) (by decide) (by decide) (by rw [hml]; rfl) (Nat.le_of_eq rfl) (by decide) (by decide)
      obtain ⟨hv165, M165, e165⟩ := Q165
      rw [show (own_F6 b145 (1 : Int32)) = (1 : Int32) from rfl] at hv165
      subst hv165
      have N165 := Fr.app N162 M165
      refine Run.back (g' := (mkF m 106 #[.val (.int p0), .val (.int p1), .val (.int p2), .val (.ref b1), .val (.int (1 : Int32)), .val (.int (0 : Int32)), .val (.ref b145), .val (.int (-1 : Int32)), .val (.int (-1 : Int32)), .val (.int (-1 : Int32)), .val (.int (-1 : Int32)), .val (.int (-1 : Int32)), .unset, .unset] [(.int (1 : Int32))])) st165 ?_
      refine Run.istore (pc' := 108) X165 hx (l' := #[.val (.int p0), .val (.int p1), .val (.int p2), .val (.ref b1), .val (.int (1 : Int32)), .val (.int (0 : Int32)), .val (.ref b145), .val (.int (-1 : Int32)), .val (.int (-1 : Int32)), .val (.int (-1 : Int32)), .val (.int (-1 : Int32)), .val (.int (-1 : Int32)), .val (.int (1 : Int32)), .unset]) (hb hby at_106) rfl rfl ?_
      refine Run.aload (pc' := 110) X165 hx (hb hby at_108) rfl rfl ?_
      obtain ⟨T166, L166, v166, X166, Q166, st166⟩ := callVirtual X165 hx (y := (⟨"com/example/tallyhold/tallyhold/ledger/ArrayInput", "available", "()I"⟩ : MethodName)) (z := (⟨"com/example/tallyhold/tallyhold/ledger/ArrayInput", "available", "()I"⟩ : MethodName)) (C := "com/example/tallyhold/tallyhold/ledger/ArrayInput") (a := b145) (Ls := #[.val (.int p0), .val (.int p1), .val (.int p2), .val (.ref b1), .val (.int (1 : Int32)), .val (.int (0 : Int32)), .val (.ref b145), .val (.int (-1 : Int32)), .val (.int (-1 : Int32)), .val (.int (-1 : Int32)), .val (.int (-1 : Int32)), .val (.int (-1 : Int32)), .val (.int (1 : Int32)), .unset]) (rest := []) (W := 0) (argsL := []) hZ hown (hw _ (List.mem_of_getElem? (i := 40) rfl)) (hw _ (List.mem_of_getElem? (i := 41) rfl)) (notFace_of_selects (args := #[]) (mvT hZ (hw _ (List.mem_of_getElem? (i := 43) rfl)))) (hw _ (List.mem_of_getElem? (i := 43) rfl)) (hw _ (List.mem_of_getElem? (i := 42) rfl)) (hw _ (List.mem_of_getElem? (i := 4) rfl)) (hw _ (List.mem_of_getElem? (i := 44) rfl)) (by decide) e165 E162 (rm7 l Z a0 hw [] b145 (1 : Int32) (1 : Int32) T162.heap n0 Z162 F162_at F162_end) (hb hby at_110) (lenOf own_pd4 rfl) (by decide) (by decide) (by rw [hml]; rfl) (Nat.le_of_eq rfl) (by decide) (by decide)
      obtain ⟨hv166, M166, e166⟩ := Q166
      rw [show (own_F7 b145 (1 : Int32) (1 : Int32)) = (0 : Int32) from rfl] at hv166
      subst hv166
      have N166 := Fr.app N165 M166
      refine Run.back (g' := (mkF m 113 #[.val (.int p0), .val (.int p1), .val (.int p2), .val (.ref b1), .val (.int (1 : Int32)), .val (.int (0 : Int32)), .val (.ref b145), .val (.int (-1 : Int32)), .val (.int (-1 : Int32)), .val (.int (-1 : Int32)), .val (.int (-1 : Int32)), .val (.int (-1 : Int32)), .val (.int (1 : Int32)), .unset] [(.int (0 : Int32))])) st166 ?_
      refine Run.istore (pc' := 115) X166 hx (l' := #[.val (.int p0), .val (.int p1), .val (.int p2), .val (.ref b1), .val (.int (1 : Int32)), .val (.int (0 : Int32)), .val (.ref b145), .val (.int (-1 : Int32)), .val (.int (-1 : Int32)), .val (.int (-1 : Int32)), .val (.int (-1 : Int32)), .val (.int (-1 : Int32)), .val (.int (1 : Int32)), .val (.int (0 : Int32))]) (hb hby at_113) rfl rfl ?_
      refine Run.iload (pc' := 117) X166 hx (hb hby at_115) rfl rfl ?_
      refine Run.iloadN (pc' := 118) X166 hx (hb hby at_117) rfl rfl ?_
      refine Run.iload (pc' := 120) X166 hx (hb hby at_118) rfl rfl ?_
      refine Run.iload (pc' := 122) X166 hx (hb hby at_120) rfl rfl ?_
      refine Run.iconst (pc' := 123) (v := (0 : Int32)) X166 hx (hb hby at_122) rfl rfl ?_
      obtain ⟨T167, L167, v167, X167, Q167, st167⟩ := callStatic X166 hx (y := (⟨"com/example/tallyhold/tallyhold/ledger/ArrayInputReadPinLaw", "expected", "(IIII)I"⟩ : MethodName)) (Ls := #[.val (.int p0), .val (.int p1), .val (.int p2), .val (.ref b1), .val (.int (1 : Int32)), .val (.int (0 : Int32)), .val (.ref b145), .val (.int (-1 : Int32)), .val (.int (-1 : Int32)), .val (.int (-1 : Int32)), .val (.int (-1 : Int32)), .val (.int (-1 : Int32)), .val (.int (1 : Int32)), .val (.int (0 : Int32))]) (rest := [(.int (-1 : Int32))]) (W := 1) (argsL := [(.int p0), (.int (1 : Int32)), (.int (0 : Int32)), (.int (0 : Int32))]) hZ hown (hw _ (List.mem_of_getElem? (i := 45) rfl)) (hw _ (List.mem_of_getElem? (i := 46) rfl)) (hw _ (List.mem_of_getElem? (i := 47) rfl)) (hw _ (List.mem_of_getElem? (i := 48) rfl)) (by decide) e166 (rm8 l Z a0 hw [] p0 (1 : Int32) (0 : Int32) (0 : Int32)  T162.heap n0 Z162 ) (hb hby at_123) (lenOf own_pd5 rfl) (by decide) (by decide) (by rw [hml]; rfl) (Nat.le_of_eq rfl) (by decide) (by decide)
      obtain ⟨hv167, M167, e167⟩ := Q167
      rw [show (own_F8 p0 (1 : Int32) (0 : Int32) (0 : Int32)) = (-1 : Int32) from rfl] at hv167
      subst hv167
      have N167 := Fr.app N166 M167
      refine Run.back (g' := (mkF m 126 #[.val (.int p0), .val (.int p1), .val (.int p2), .val (.ref b1), .val (.int (1 : Int32)), .val (.int (0 : Int32)), .val (.ref b145), .val (.int (-1 : Int32)), .val (.int (-1 : Int32)), .val (.int (-1 : Int32)), .val (.int (-1 : Int32)), .val (.int (-1 : Int32)), .val (.int (1 : Int32)), .val (.int (0 : Int32))] [(.int (-1 : Int32)), (.int (-1 : Int32))])) st167 ?_
      refine Run.icmpNo (pc' := 129) X167 hx (hb hby at_126) (teq rfl).2 rfl ?_
      refine Run.iload (pc' := 131) X167 hx (hb hby at_129) rfl rfl ?_
      refine Run.iloadN (pc' := 132) X167 hx (hb hby at_131) rfl rfl ?_
      refine Run.iload (pc' := 134) X167 hx (hb hby at_132) rfl rfl ?_
      refine Run.iload (pc' := 136) X167 hx (hb hby at_134) rfl rfl ?_
      refine Run.iconst (pc' := 137) (v := (1 : Int32)) X167 hx (hb hby at_136) rfl rfl ?_
      obtain ⟨T168, L168, v168, X168, Q168, st168⟩ := callStatic X167 hx (y := (⟨"com/example/tallyhold/tallyhold/ledger/ArrayInputReadPinLaw", "expected", "(IIII)I"⟩ : MethodName)) (Ls := #[.val (.int p0), .val (.int p1), .val (.int p2), .val (.ref b1), .val (.int (1 : Int32)), .val (.int (0 : Int32)), .val (.ref b145), .val (.int (-1 : Int32)), .val (.int (-1 : Int32)), .val (.int (-1 : Int32)), .val (.int (-1 : Int32)), .val (.int (-1 : Int32)), .val (.int (1 : Int32)), .val (.int (0 : Int32))]) (rest := [(.int (-1 : Int32))]) (W := 1) (argsL := [(.int p0), (.int (1 : Int32)), (.int (0 : Int32)), (.int (1 : Int32))]) hZ hown (hw _ (List.mem_of_getElem? (i := 45) rfl)) (hw _ (List.mem_of_getElem? (i := 46) rfl)) (hw _ (List.mem_of_getElem? (i := 47) rfl)) (hw _ (List.mem_of_getElem? (i := 48) rfl)) (by decide) e167 (rm8 l Z a0 hw [] p0 (1 : Int32) (0 : Int32) (1 : Int32)  T162.heap n0 Z162 ) (hb hby at_137) (lenOf own_pd5 rfl) (by decide) (by decide) (by rw [hml]; rfl) (Nat.le_of_eq rfl) (by decide) (by decide)
      obtain ⟨hv168, M168, e168⟩ := Q168
      rw [show (own_F8 p0 (1 : Int32) (0 : Int32) (1 : Int32)) = (-1 : Int32) from rfl] at hv168
      subst hv168
      have N168 := Fr.app N167 M168
      refine Run.back (g' := (mkF m 140 #[.val (.int p0), .val (.int p1), .val (.int p2), .val (.ref b1), .val (.int (1 : Int32)), .val (.int (0 : Int32)), .val (.ref b145), .val (.int (-1 : Int32)), .val (.int (-1 : Int32)), .val (.int (-1 : Int32)), .val (.int (-1 : Int32)), .val (.int (-1 : Int32)), .val (.int (1 : Int32)), .val (.int (0 : Int32))] [(.int (-1 : Int32)), (.int (-1 : Int32))])) st168 ?_
      refine Run.icmpNo (pc' := 143) X168 hx (hb hby at_140) (teq rfl).2 rfl ?_
      refine Run.iload (pc' := 145) X168 hx (hb hby at_143) rfl rfl ?_
      refine Run.iloadN (pc' := 146) X168 hx (hb hby at_145) rfl rfl ?_
      refine Run.iload (pc' := 148) X168 hx (hb hby at_146) rfl rfl ?_
      refine Run.iload (pc' := 150) X168 hx (hb hby at_148) rfl rfl ?_
      refine Run.iconst (pc' := 151) (v := (2 : Int32)) X168 hx (hb hby at_150) rfl rfl ?_
      obtain ⟨T169, L169, v169, X169, Q169, st169⟩ := callStatic X168 hx (y := (⟨"com/example/tallyhold/tallyhold/ledger/ArrayInputReadPinLaw", "expected", "(IIII)I"⟩ : MethodName)) (Ls := #[.val (.int p0), .val (.int p1), .val (.int p2), .val (.ref b1), .val (.int (1 : Int32)), .val (.int (0 : Int32)), .val (.ref b145), .val (.int (-1 : Int32)), .val (.int (-1 : Int32)), .val (.int (-1 : Int32)), .val (.int (-1 : Int32)), .val (.int (-1 : Int32)), .val (.int (1 : Int32)), .val (.int (0 : Int32))]) (rest := [(.int (-1 : Int32))]) (W := 1) (argsL := [(.int p0), (.int (1 : Int32)), (.int (0 : Int32)), (.int (2 : Int32))]) hZ hown (hw _ (List.mem_of_getElem? (i := 45) rfl)) (hw _ (List.mem_of_getElem? (i := 46) rfl)) (hw _ (List.mem_of_getElem? (i := 47) rfl)) (hw _ (List.mem_of_getElem? (i := 48) rfl)) (by decide) e168 (rm8 l Z a0 hw [] p0 (1 : Int32) (0 : Int32) (2 : Int32)  T162.heap n0 Z162 ) (hb hby at_151) (lenOf own_pd5 rfl) (by decide) (by decide) (by rw [hml]; rfl) (Nat.le_of_eq rfl) (by decide) (by decide)
      obtain ⟨hv169, M169, e169⟩ := Q169
      rw [show (own_F8 p0 (1 : Int32) (0 : Int32) (2 : Int32)) = (-1 : Int32) from rfl] at hv169
      subst hv169
      have N169 := Fr.app N168 M169
      refine Run.back (g' := (mkF m 154 #[.val (.int p0), .val (.int p1), .val (.int p2), .val (.ref b1), .val (.int (1 : Int32)), .val (.int (0 : Int32)), .val (.ref b145), .val (.int (-1 : Int32)), .val (.int (-1 : Int32)), .val (.int (-1 : Int32)), .val (.int (-1 : Int32)), .val (.int (-1 : Int32)), .val (.int (1 : Int32)), .val (.int (0 : Int32))] [(.int (-1 : Int32)), (.int (-1 : Int32))])) st169 ?_
      refine Run.icmpNo (pc' := 157) X169 hx (hb hby at_154) (teq rfl).2 rfl ?_
      refine Run.iload (pc' := 159) X169 hx (hb hby at_157) rfl rfl ?_
      refine Run.iloadN (pc' := 160) X169 hx (hb hby at_159) rfl rfl ?_
      refine Run.iload (pc' := 162) X169 hx (hb hby at_160) rfl rfl ?_
      refine Run.iload (pc' := 164) X169 hx (hb hby at_162) rfl rfl ?_
      refine Run.iconst (pc' := 165) (v := (3 : Int32)) X169 hx (hb hby at_164) rfl rfl ?_
      obtain ⟨T170, L170, v170, X170, Q170, st170⟩ := callStatic X169 hx (y := (⟨"com/example/tallyhold/tallyhold/ledger/ArrayInputReadPinLaw", "expected", "(IIII)I"⟩ : MethodName)) (Ls := #[.val (.int p0), .val (.int p1), .val (.int p2), .val (.ref b1), .val (.int (1 : Int32)), .val (.int (0 : Int32)), .val (.ref b145), .val (.int (-1 : Int32)), .val (.int (-1 : Int32)), .val (.int (-1 : Int32)), .val (.int (-1 : Int32)), .val (.int (-1 : Int32)), .val (.int (1 : Int32)), .val (.int (0 : Int32))]) (rest := [(.int (-1 : Int32))]) (W := 1) (argsL := [(.int p0), (.int (1 : Int32)), (.int (0 : Int32)), (.int (3 : Int32))]) hZ hown (hw _ (List.mem_of_getElem? (i := 45) rfl)) (hw _ (List.mem_of_getElem? (i := 46) rfl)) (hw _ (List.mem_of_getElem? (i := 47) rfl)) (hw _ (List.mem_of_getElem? (i := 48) rfl)) (by decide) e169 (rm8 l Z a0 hw [] p0 (1 : Int32) (0 : Int32) (3 : Int32)  T162.heap n0 Z162 ) (hb hby at_165) (lenOf own_pd5 rfl) (by decide) (by decide) (by rw [hml]; rfl) (Nat.le_of_eq rfl) (by decide) (by decide)
      obtain ⟨hv170, M170, e170⟩ := Q170
      rw [show (own_F8 p0 (1 : Int32) (0 : Int32) (3 : Int32)) = (-1 : Int32) from rfl] at hv170
      subst hv170
      have N170 := Fr.app N169 M170
      refine Run.back (g' := (mkF m 168 #[.val (.int p0), .val (.int p1), .val (.int p2), .val (.ref b1), .val (.int (1 : Int32)), .val (.int (0 : Int32)), .val (.ref b145), .val (.int (-1 : Int32)), .val (.int (-1 : Int32)), .val (.int (-1 : Int32)), .val (.int (-1 : Int32)), .val (.int (-1 : Int32)), .val (.int (1 : Int32)), .val (.int (0 : Int32))] [(.int (-1 : Int32)), (.int (-1 : Int32))])) st170 ?_
      refine Run.icmpNo (pc' := 171) X170 hx (hb hby at_168) (teq rfl).2 rfl ?_
      refine Run.iload (pc' := 173) X170 hx (hb hby at_171) rfl rfl ?_
      refine Run.iloadN (pc' := 174) X170 hx (hb hby at_173) rfl rfl ?_
      refine Run.iload (pc' := 176) X170 hx (hb hby at_174) rfl rfl ?_
      refine Run.iload (pc' := 178) X170 hx (hb hby at_176) rfl rfl ?_
      refine Run.iconst (pc' := 179) (v := (4 : Int32)) X170 hx (hb hby at_178) rfl rfl ?_
      obtain ⟨T171, L171, v171, X171, Q171, st171⟩ := callStatic X170 hx (y := (⟨"com/example/tallyhold/tallyhold/ledger/ArrayInputReadPinLaw", "expected", "(IIII)I"⟩ : MethodName)) (Ls := #[.val (.int p0), .val (.int p1), .val (.int p2), .val (.ref b1), .val (.int (1 : Int32)), .val (.int (0 : Int32)), .val (.ref b145), .val (.int (-1 : Int32)), .val (.int (-1 : Int32)), .val (.int (-1 : Int32)), .val (.int (-1 : Int32)), .val (.int (-1 : Int32)), .val (.int (1 : Int32)), .val (.int (0 : Int32))]) (rest := [(.int (-1 : Int32))]) (W := 1) (argsL := [(.int p0), (.int (1 : Int32)), (.int (0 : Int32)), (.int (4 : Int32))]) hZ hown (hw _ (List.mem_of_getElem? (i := 45) rfl)) (hw _ (List.mem_of_getElem? (i := 46) rfl)) (hw _ (List.mem_of_getElem? (i := 47) rfl)) (hw _ (List.mem_of_getElem? (i := 48) rfl)) (by decide) e170 (rm8 l Z a0 hw [] p0 (1 : Int32) (0 : Int32) (4 : Int32)  T162.heap n0 Z162 ) (hb hby at_179) (lenOf own_pd5 rfl) (by decide) (by decide) (by rw [hml]; rfl) (Nat.le_of_eq rfl) (by decide) (by decide)
      obtain ⟨hv171, M171, e171⟩ := Q171
      rw [show (own_F8 p0 (1 : Int32) (0 : Int32) (4 : Int32)) = (-1 : Int32) from rfl] at hv171
      subst hv171
      have N171 := Fr.app N170 M171
      refine Run.back (g' := (mkF m 182 #[.val (.int p0), .val (.int p1), .val (.int p2), .val (.ref b1), .val (.int (1 : Int32)), .val (.int (0 : Int32)), .val (.ref b145), .val (.int (-1 : Int32)), .val (.int (-1 : Int32)), .val (.int (-1 : Int32)), .val (.int (-1 : Int32)), .val (.int (-1 : Int32)), .val (.int (1 : Int32)), .val (.int (0 : Int32))] [(.int (-1 : Int32)), (.int (-1 : Int32))])) st171 ?_
      refine Run.icmpNo (pc' := 185) X171 hx (hb hby at_182) (teq rfl).2 rfl ?_
      refine Run.iload (pc' := 187) X171 hx (hb hby at_185) rfl rfl ?_
      refine Run.iload (pc' := 189) X171 hx (hb hby at_187) rfl rfl ?_
      refine Run.iload (pc' := 191) X171 hx (hb hby at_189) rfl rfl ?_
      refine Run.iadd (pc' := 192) X171 hx (hb hby at_191) rfl ?_
      refine Run.icmpNo (pc' := 195) X171 hx (hb hby at_192) (teq (by decide : (1 : Int32) = ((1 : Int32) + (0 : Int32)))).2 rfl ?_
      refine Run.iload (pc' := 197) X171 hx (hb hby at_195) rfl rfl ?_
      refine Run.ifNo (pc' := 200) X171 hx (hb hby at_197) ((if0 _ _).trans (teq (by decide : (0 : Int32) = (0 : Int32))).2) rfl ?_
      refine Run.iconst (pc' := 201) (v := (1 : Int32)) X171 hx (hb hby at_200) rfl rfl ?_
      refine Run.goto (pc' := 205) X171 hx (hb hby at_201) (by decide) (by decide) ?_
      exact Run.retSmall X171 hx (t := .boolean) (z' := (1 : Int32)) Bd.notSynchronized Bd.returns (by simp) rfl (hb hby at_205) ⟨rfl, N171⟩ (by decide) (by decide)
    · rw [hl]
      obtain ⟨T172, h172, X172, e172, E172, A172, D172, -, st172⟩ := newO X8 hx hZ hown (hw _ (List.mem_of_getElem? (i := 2) rfl)) (hw _ (List.mem_of_getElem? (i := 3) rfl)) (hw _ (List.mem_of_getElem? (i := 4) rfl)) e8 (g := (mkF m 52 #[.val (.int p0), .val (.int p1), .val (.int p2), .val (.ref b1), .val (.int (1 : Int32)), .val (.int (1 : Int32)), .unset, .unset, .unset, .unset, .unset, .unset, .unset, .unset] [])) rfl (hb hby at_52) (by decide) (by decide)
      obtain ⟨b172, g172⟩ : ∃ z, z = h8.size := ⟨_, rfl⟩
      rw [← g172] at A172 D172 st172
      have ne_b1_b172 : b1 ≠ b172 := Nat.ne_of_lt (Nat.lt_of_lt_of_le (A8).lt (Nat.le_of_eq g172.symm))
      have G172 : n0 ≤ b172 := Nat.le_trans Z8 (Nat.le_of_eq g172.symm)
      have Z172 : n0 ≤ h172.size := Nat.le_trans Z8 E172.1
      have fq173 := Ints.ext E172 A8
      have F172_bytes : Fld Z h172 b172 "com/example/tallyhold/tallyhold/ledger/ArrayInput" "bytes" "[B" .null := D172 (Or.inr (hw _ (List.mem_of_getElem? (i := 25) rfl))) (ty := (.array .byte)) (by decide)
      have F172_at : Fld Z h172 b172 "com/example/tallyhold/tallyhold/ledger/ArrayInput" "at" "I" (.int (0 : Int32)) := D172 (Or.inl (hw _ (List.mem_of_getElem? (i := 27) rfl))) (ty := .int) (by decide)
      have F172_end : Fld Z h172 b172 "com/example/tallyhold/tallyhold/ledger/ArrayInput" "end" "I" (.int (0 : Int32)) := D172 (Or.inr (hw _ (List.mem_of_getElem? (i := 29) rfl))) (ty := .int) (by decide)
      refine Run.back (g' := (mkF m 55 #[.val (.int p0), .val (.int p1), .val (.int p2), .val (.ref b1), .val (.int (1 : Int32)), .val (.int (1 : Int32)), .unset, .unset, .unset, .unset, .unset, .unset, .unset, .unset] [(.ref b172)])) st172 ?_
      refine Run.dup (pc' := 56) X172 hx (hb hby at_55) rfl rfl ?_
      refine Run.aloadN (pc' := 57) X172 hx (hb hby at_56) rfl rfl ?_
      refine Run.iload (pc' := 59) X172 hx (hb hby at_57) rfl rfl ?_
      refine Run.iload (pc' := 61) X172 hx (hb hby at_59) rfl rfl ?_
      obtain ⟨T174, L174, v174, X174, Q174, st174⟩ := callSpecial X172 hx (y := (⟨"com/example/tallyhold/tallyhold/ledger/ArrayInput", "<init>", "([BII)V"⟩ : MethodName)) (a := b172) (Ls := #[.val (.int p0), .val (.int p1), .val (.int p2), .val (.ref b1), .val (.int (1 : Int32)), .val (.int (1 : Int32)), .unset, .unset, .unset, .unset, .unset, .unset, .unset, .unset]) (rest := [(.ref b172)]) (W := 1) (argsL := [(.ref b1), (.int (1 : Int32)), (.int (1 : Int32))]) rfl hZ hown (hw _ (List.mem_of_getElem? (i := 5) rfl)) (hw _ (List.mem_of_getElem? (i := 6) rfl)) (hw _ (List.mem_of_getElem? (i := 4) rfl)) (hw _ (List.mem_of_getElem? (i := 7) rfl)) (by decide) e172 (rm4 l Z a0 hw [] b172 b1 (1 : Int32) (1 : Int32) f9 h172 n0 Z172 A172 F172_bytes F172_at F172_end G172 fq173 ne_b1_b172 (by decide) (by decide)) (hb hby at_61) (lenOf own_pd3 rfl) (by decide) (by decide) (by rw [hml]; rfl) (Nat.le_of_eq rfl) (by decide) (by decide)
      obtain ⟨rfl, M174, K174, E174, F174_bytes, F174_at, F174_end⟩ := Q174
      rw [show ((1 : Int32) + (1 : Int32)) = (2 : Int32) from rfl] at F174_end
      have N174 := Fr.app N8 M174
      have fq175 := Ints.keep fq173 K174 (ninS ne_b1_b172 nin0)
      have fq176 := Exa.keep A172 K174
      have Z174 : n0 ≤ T174.heap.size := Nat.le_trans Z172 K174.1
      refine Run.back (g' := (mkF m 64 #[.val (.int p0), .val (.int p1), .val (.int p2), .val (.ref b1), .val (.int (1 : Int32)), .val (.int (1 : Int32)), .unset, .unset, .unset, .unset, .unset, .unset, .unset, .unset] [(.ref b172)])) st174 ?_
      refine Run.astore (pc' := 66) X174 hx (l' := #[.val (.int p0), .val (.int p1), .val (.int p2), .val (.ref b1), .val (.int (1 : Int32)), .val (.int (1 : Int32)), .val (.ref b172), .unset, .unset, .unset, .unset, .unset, .unset, .unset]) (hb hby at_64) rfl rfl ?_
      refine Run.aload (pc' := 68) X174 hx (hb hby at_66) rfl rfl ?_
      obtain ⟨T177, L177, v177, X177, Q177, st177⟩ := callVirtual X174 hx (y := (⟨"com/example/tallyhold/tallyhold/ledger/ArrayInput", "read", "()I"⟩ : MethodName)) (z := (⟨"com/example/tallyhold/tallyhold/ledger/ArrayInput", "read", "()I"⟩ : MethodName)) (C := "com/example/tallyhold/tallyhold/ledger/ArrayInput") (a := b172) (Ls := #[.val (.int p0), .val (.int p1), .val (.int p2), .val (.ref b1), .val (.int (1 : Int32)), .val (.int (1 : Int32)), .val (.ref b172), .unset, .unset, .unset, .unset, .unset, .unset, .unset]) (rest := []) (W := 0) (argsL := []) hZ hown (hw _ (List.mem_of_getElem? (i := 30) rfl)) (hw _ (List.mem_of_getElem? (i := 31) rfl)) (notFace_of_selects (args := #[]) (mvT hZ (hw _ (List.mem_of_getElem? (i := 33) rfl)))) (hw _ (List.mem_of_getElem? (i := 33) rfl)) (hw _ (List.mem_of_getElem? (i := 32) rfl)) (hw _ (List.mem_of_getElem? (i := 4) rfl)) (hw _ (List.mem_of_getElem? (i := 34) rfl)) (by decide) rfl E174 (rm5 l Z a0 hw [] b172 b1 (1 : Int32) (2 : Int32) f9 T174.heap n0 Z174 E174 F174_bytes F174_at F174_end G172 fq175 ne_b1_b172 (by decide) (by decide)) (hb hby at_68) (lenOf own_pd4 rfl) (by decide) (by decide) (by rw [hml]; rfl) (Nat.le_of_eq rfl) (by decide) (by decide)
      obtain ⟨hv177, M177, K177, E177, F177_bytes, F177_at, F177_end⟩ := Q177
      rw [show (own_R (1 : Int32) (2 : Int32) f9) = ((f9 (1 : Int32)) &&& (255 : Int32)) from rfl] at hv177
      subst hv177
      rw [show (own_N (1 : Int32) (2 : Int32)) = (2 : Int32) from rfl] at F177_at
      have N177 := Fr.app N174 M177
      have fq178 := Ints.keep fq175 K177 (ninS ne_b1_b172 nin0)
      have fq179 := Exa.keep E174 K177
      have Z177 : n0 ≤ T177.heap.size := Nat.le_trans Z174 K177.1
      refine Run.back (g' := (mkF m 71 #[.val (.int p0), .val (.int p1), .val (.int p2), .val (.ref b1), .val (.int (1 : Int32)), .val (.int (1 : Int32)), .val (.ref b172), .unset, .unset, .unset, .unset, .unset, .unset, .unset] [(.int ((f9 (1 : Int32)) &&& (255 : Int32)))])) st177 ?_
      refine Run.istore (pc' := 73) X177 hx (l' := #[.val (.int p0), .val (.int p1), .val (.int p2), .val (.ref b1), .val (.int (1 : Int32)), .val (.int (1 : Int32)), .val (.ref b172), .val (.int ((f9 (1 : Int32)) &&& (255 : Int32))), .unset, .unset, .unset, .unset, .unset, .unset]) (hb hby at_71) rfl rfl ?_
      refine Run.aload (pc' := 75) X177 hx (hb hby at_73) rfl rfl ?_
      obtain ⟨T180, L180, v180, X180, Q180, st180⟩ := callVirtual X177 hx (y := (⟨"com/example/tallyhold/tallyhold/ledger/ArrayInput", "read", "()I"⟩ : MethodName)) (z := (⟨"com/example/tallyhold/tallyhold/ledger/ArrayInput", "read", "()I"⟩ : MethodName)) (C := "com/example/tallyhold/tallyhold/ledger/ArrayInput") (a := b172) (Ls := #[.val (.int p0), .val (.int p1), .val (.int p2), .val (.ref b1), .val (.int (1 : Int32)), .val (.int (1 : Int32)), .val (.ref b172), .val (.int ((f9 (1 : Int32)) &&& (255 : Int32))), .unset, .unset, .unset, .unset, .unset, .unset]) (rest := []) (W := 0) (argsL := []) hZ hown (hw _ (List.mem_of_getElem? (i := 30) rfl)) (hw _ (List.mem_of_getElem? (i := 31) rfl)) (notFace_of_selects (args := #[]) (mvT hZ (hw _ (List.mem_of_getElem? (i := 33) rfl)))) (hw _ (List.mem_of_getElem? (i := 33) rfl)) (hw _ (List.mem_of_getElem? (i := 32) rfl)) (hw _ (List.mem_of_getElem? (i := 4) rfl)) (hw _ (List.mem_of_getElem? (i := 34) rfl)) (by decide) rfl E177 (rm5 l Z a0 hw [] b172 b1 (2 : Int32) (2 : Int32) f9 T177.heap n0 Z177 E177 F177_bytes F177_at F177_end G172 fq178 ne_b1_b172 (by decide) (by decide)) (hb hby at_75) (lenOf own_pd4 rfl) (by decide) (by decide) (by rw [hml]; rfl) (Nat.le_of_eq rfl) (by decide) (by decide)
      obtain ⟨hv180, M180, K180, E180, F180_bytes, F180_at, F180_end⟩ := Q180
      rw [show (own_R (2 : Int32) (2 : Int32) f9) = (-1 : Int32) from rfl] at hv180
      subst hv180
      rw [show (own_N (2 : Int32) (2 : Int32)) = (2 : Int32) from rfl] at F180_at
      have N180 := Fr.app N177 M180
      have fq181 := Ints.keep fq178 K180 (ninS ne_b1_b172 nin0)
      have fq182 := Exa.keep E177 K180
      have Z180 : n0 ≤ T180.heap.size := Nat.le_trans Z177 K180.1
      refine Run.back (g' := (mkF m 78 #[.val (.int p0), .val (.int p1), .val (.int p2), .val (.ref b1), .val (.int (1 : Int32)), .val (.int (1 : Int32)), .val (.ref b172), .val (.int ((f9 (1 : Int32)) &&& (255 : Int32))), .unset, .unset, .unset, .unset, .unset, .unset] [(.int (-1 : Int32))])) st180 ?_
      refine Run.istore (pc' := 80) X180 hx (l' := #[.val (.int p0), .val (.int p1), .val (.int p2), .val (.ref b1), .val (.int (1 : Int32)), .val (.int (1 : Int32)), .val (.ref b172), .val (.int ((f9 (1 : Int32)) &&& (255 : Int32))), .val (.int (-1 : Int32)), .unset, .unset, .unset, .unset, .unset]) (hb hby at_78) rfl rfl ?_
      refine Run.aload (pc' := 82) X180 hx (hb hby at_80) rfl rfl ?_
      obtain ⟨T183, L183, v183, X183, Q183, st183⟩ := callVirtual X180 hx (y := (⟨"com/example/tallyhold/tallyhold/ledger/ArrayInput", "read", "()I"⟩ : MethodName)) (z := (⟨"com/example/tallyhold/tallyhold/ledger/ArrayInput", "read", "()I"⟩ : MethodName)) (C := "com/example/tallyhold/tallyhold/ledger/ArrayInput") (a := b172) (Ls := #[.val (.int p0), .val (.int p1), .val (.int p2), .val (.ref b1), .val (.int (1 : Int32)), .val (.int (1 : Int32)), .val (.ref b172), .val (.int ((f9 (1 : Int32)) &&& (255 : Int32))), .val (.int (-1 : Int32)), .unset, .unset, .unset, .unset, .unset]) (rest := []) (W := 0) (argsL := []) hZ hown (hw _ (List.mem_of_getElem? (i := 30) rfl)) (hw _ (List.mem_of_getElem? (i := 31) rfl)) (notFace_of_selects (args := #[]) (mvT hZ (hw _ (List.mem_of_getElem? (i := 33) rfl)))) (hw _ (List.mem_of_getElem? (i := 33) rfl)) (hw _ (List.mem_of_getElem? (i := 32) rfl)) (hw _ (List.mem_of_getElem? (i := 4) rfl)) (hw _ (List.mem_of_getElem? (i := 34) rfl)) (by decide) rfl E180 (rm5 l Z a0 hw [] b172 b1 (2 : Int32) (2 : Int32) f9 T180.heap n0 Z180 E180 F180_bytes F180_at F180_end G172 fq181 ne_b1_b172 (by decide) (by decide)) (hb hby at_82) (lenOf own_pd4 rfl) (by decide) (by decide) (by rw [hml]; rfl) (Nat.le_of_eq rfl) (by decide) (by decide)
      obtain ⟨hv183, M183, K183, E183, F183_bytes, F183_at, F183_end⟩ := Q183
      rw [show (own_R (2 : Int32) (2 : Int32) f9) = (-1 : Int32) from rfl] at hv183
      subst hv183
      rw [show (own_N (2 : Int32) (2 : Int32)) = (2 : Int32) from rfl] at F183_at
      have N183 := Fr.app N180 M183
      have fq184 := Ints.keep fq181 K183 (ninS ne_b1_b172 nin0)
      have fq185 := Exa.keep E180 K183
      have Z183 : n0 ≤ T183.heap.size := Nat.le_trans Z180 K183.1
      refine Run.back (g' := (mkF m 85 #[.val (.int p0), .val (.int p1), .val (.int p2), .val (.ref b1), .val (.int (1 : Int32)), .val (.int (1 : Int32)), .val (.ref b172), .val (.int ((f9 (1 : Int32)) &&& (255 : Int32))), .val (.int (-1 : Int32)), .unset, .unset, .unset, .unset, .unset] [(.int (-1 : Int32))])) st183 ?_
      refine Run.istore (pc' := 87) X183 hx (l' := #[.val (.int p0), .val (.int p1), .val (.int p2), .val (.ref b1), .val (.int (1 : Int32)), .val (.int (1 : Int32)), .val (.ref b172), .val (.int ((f9 (1 : Int32)) &&& (255 : Int32))), .val (.int (-1 : Int32)), .val (.int (-1 : Int32)), .unset, .unset, .unset, .unset]) (hb hby at_85) rfl rfl ?_
      refine Run.aload (pc' := 89) X183 hx (hb hby at_87) rfl rfl ?_
      obtain ⟨T186, L186, v186, X186, Q186, st186⟩ := callVirtual X183 hx (y := (⟨"com/example/tallyhold/tallyhold/ledger/ArrayInput", "read", "()I"⟩ : MethodName)) (z := (⟨"com/example/tallyhold/tallyhold/ledger/ArrayInput", "read", "()I"⟩ : MethodName)) (C := "com/example/tallyhold/tallyhold/ledger/ArrayInput") (a := b172) (Ls := #[.val (.int p0), .val (.int p1), .val (.int p2), .val (.ref b1), .val (.int (1 : Int32)), .val (.int (1 : Int32)), .val (.ref b172), .val (.int ((f9 (1 : Int32)) &&& (255 : Int32))), .val (.int (-1 : Int32)), .val (.int (-1 : Int32)), .unset, .unset, .unset, .unset]) (rest := []) (W := 0) (argsL := []) hZ hown (hw _ (List.mem_of_getElem? (i := 30) rfl)) (hw _ (List.mem_of_getElem? (i := 31) rfl)) (notFace_of_selects (args := #[]) (mvT hZ (hw _ (List.mem_of_getElem? (i := 33) rfl)))) (hw _ (List.mem_of_getElem? (i := 33) rfl)) (hw _ (List.mem_of_getElem? (i := 32) rfl)) (hw _ (List.mem_of_getElem? (i := 4) rfl)) (hw _ (List.mem_of_getElem? (i := 34) rfl)) (by decide) rfl E183 (rm5 l Z a0 hw [] b172 b1 (2 : Int32) (2 : Int32) f9 T183.heap n0 Z183 E183 F183_bytes F183_at F183_end G172 fq184 ne_b1_b172 (by decide) (by decide)) (hb hby at_89) (lenOf own_pd4 rfl) (by decide) (by decide) (by rw [hml]; rfl) (Nat.le_of_eq rfl) (by decide) (by decide)
      obtain ⟨hv186, M186, K186, E186, F186_bytes, F186_at, F186_end⟩ := Q186
      rw [show (own_R (2 : Int32) (2 : Int32) f9) = (-1 : Int32) from rfl] at hv186
      subst hv186
      rw [show (own_N (2 : Int32) (2 : Int32)) = (2 : Int32) from rfl] at F186_at
      have N186 := Fr.app N183 M186
      have fq187 := Ints.keep fq184 K186 (ninS ne_b1_b172 nin0)
      have fq188 := Exa.keep E183 K186
      have Z186 : n0 ≤ T186.heap.size := Nat.le_trans Z183 K186.1
      refine Run.back (g' := (mkF m 92 #[.val (.int p0), .val (.int p1), .val (.int p2), .val (.ref b1), .val (.int (1 : Int32)), .val (.int (1 : Int32)), .val (.ref b172), .val (.int ((f9 (1 : Int32)) &&& (255 : Int32))), .val (.int (-1 : Int32)), .val (.int (-1 : Int32)), .unset, .unset, .unset, .unset] [(.int (-1 : Int32))])) st186 ?_
      refine Run.istore (pc' := 94) X186 hx (l' := #[.val (.int p0), .val (.int p1), .val (.int p2), .val (.ref b1), .val (.int (1 : Int32)), .val (.int (1 : Int32)), .val (.ref b172), .val (.int ((f9 (1 : Int32)) &&& (255 : Int32))), .val (.int (-1 : Int32)), .val (.int (-1 : Int32)), .val (.int (-1 : Int32)), .unset, .unset, .unset]) (hb hby at_92) rfl rfl ?_
      refine Run.aload (pc' := 96) X186 hx (hb hby at_94) rfl rfl ?_
      obtain ⟨T189, L189, v189, X189, Q189, st189⟩ := callVirtual X186 hx (y := (⟨"com/example/tallyhold/tallyhold/ledger/ArrayInput", "read", "()I"⟩ : MethodName)) (z := (⟨"com/example/tallyhold/tallyhold/ledger/ArrayInput", "read", "()I"⟩ : MethodName)) (C := "com/example/tallyhold/tallyhold/ledger/ArrayInput") (a := b172) (Ls := #[.val (.int p0), .val (.int p1), .val (.int p2), .val (.ref b1), .val (.int (1 : Int32)), .val (.int (1 : Int32)), .val (.ref b172), .val (.int ((f9 (1 : Int32)) &&& (255 : Int32))), .val (.int (-1 : Int32)), .val (.int (-1 : Int32)), .val (.int (-1 : Int32)), .unset, .unset, .unset]) (rest := []) (W := 0) (argsL := []) hZ hown (hw _ (List.mem_of_getElem? (i := 30) rfl)) (hw _ (List.mem_of_getElem? (i := 31) rfl)) (notFace_of_selects (args := #[]) (mvT hZ (hw _ (List.mem_of_getElem? (i := 33) rfl)))) (hw _ (List.mem_of_getElem? (i := 33) rfl)) (hw _ (List.mem_of_getElem? (i := 32) rfl)) (hw _ (List.mem_of_getElem? (i := 4) rfl)) (hw _ (List.mem_of_getElem? (i := 34) rfl)) (by decide) rfl E186 (rm5 l Z a0 hw [] b172 b1 (2 : Int32) (2 : Int32) f9 T186.heap n0 Z186 E186 F186_bytes F186_at F186_end G172 fq187 ne_b1_b172 (by decide) (by decide)) (hb hby at_96) (lenOf own_pd4 rfl) (by decide) (by decide) (by rw [hml]; rfl) (Nat.le_of_eq rfl) (by decide) (by decide)
      obtain ⟨hv189, M189, K189, E189, F189_bytes, F189_at, F189_end⟩ := Q189
      rw [show (own_R (2 : Int32) (2 : Int32) f9) = (-1 : Int32) from rfl] at hv189
      subst hv189
      rw [show (own_N (2 : Int32) (2 : Int32)) = (2 : Int32) from rfl] at F189_at
      have N189 := Fr.app N186 M189
      have fq190 := Ints.keep fq187 K189 (ninS ne_b1_b172 nin0)
      have fq191 := Exa.keep E186 K189
      have Z189 : n0 ≤ T189.heap.size := Nat.le_trans Z186 K189.1
      refine Run.back (g' := (mkF m 99 #[.val (.int p0), .val (.int p1), .val (.int p2), .val (.ref b1), .val (.int (1 : Int32)), .val (.int (1 : Int32)), .val (.ref b172), .val (.int ((f9 (1 : Int32)) &&& (255 : Int32))), .val (.int (-1 : Int32)), .val (.int (-1 : Int32)), .val (.int (-1 : Int32)), .unset, .unset, .unset] [(.int (-1 : Int32))])) st189 ?_
      refine Run.istore (pc' := 101) X189 hx (l' := #[.val (.int p0), .val (.int p1), .val (.int p2), .val (.ref b1), .val (.int (1 : Int32)), .val (.int (1 : Int32)), .val (.ref b172), .val (.int ((f9 (1 : Int32)) &&& (255 : Int32))), .val (.int (-1 : Int32)), .val (.int (-1 : Int32)), .val (.int (-1 : Int32)), .val (.int (-1 : Int32)), .unset, .unset]) (hb hby at_99) rfl rfl ?_
      refine Run.aload (pc' := 103) X189 hx (hb hby at_101) rfl rfl ?_
      obtain ⟨T192, L192, v192, X192, Q192, st192⟩ := callVirtual X189 hx (y := (⟨"com/example/tallyhold/tallyhold/ledger/ArrayInput", "position", "()I"⟩ : MethodName)) (z := (⟨"com/example/tallyhold/tallyhold/ledger/ArrayInput", "position", "()I"⟩ : MethodName)) (C := "com/example/tallyhold/tallyhold/ledger/ArrayInput") (a := b172) (Ls := #[.val (.int p0), .val (.int p1), .val (.int p2), .val (.ref b1), .val (.int (1 : Int32)), .val (.int (1 : Int32)), .val (.ref b172), .val (.int ((f9 (1 : Int32)) &&& (255 : Int32))), .val (.int (-1 : Int32)), .val (.int (-1 : Int32)), .val (.int (-1 : Int32)), .val (.int (-1 : Int32)), .unset, .unset]) (rest := []) (W := 0) (argsL := []) hZ hown (hw _ (List.mem_of_getElem? (i := 35) rfl)) (hw _ (List.mem_of_getElem? (i := 36) rfl)) (notFace_of_selects (args := #[]) (mvT hZ (hw _ (List.mem_of_getElem? (i := 38) rfl)))) (hw _ (List.mem_of_getElem? (i := 38) rfl)) (hw _ (List.mem_of_getElem? (i := 37) rfl)) (hw _ (List.mem_of_getElem? (i := 4) rfl)) (hw _ (List.mem_of_getElem? (i := 39) rfl)) (by decide) rfl E189 (rm6 l Z a0 hw [] b172 (2 : Int32) T189.heap n0 Z189 F189_at) (hb hby at_103) (lenOf own_pd4 rfl) (by decide) (by decide) (by rw [hml]; rfl) (Nat.le_of_eq rfl) (by decide) (by decide)
      obtain ⟨hv192, M192, e192⟩ := Q192
      rw [show (own_F6 b172 (2 : Int32)) = (2 : Int32) from rfl] at hv192
      subst hv192
      have N192 := Fr.app N189 M192
      refine Run.back (g' := (mkF m 106 #[.val (.int p0), .val (.int p1), .val (.int p2), .val (.ref b1), .val (.int (1 : Int32)), .val (.int (1 : Int32)), .val (.ref b172), .val (.int ((f9 (1 : Int32)) &&& (255 : Int32))), .val (.int (-1 : Int32)), .val (.int (-1 : Int32)), .val (.int (-1 : Int32)), .val (.int (-1 : Int32)), .unset, .unset] [(.int (2 : Int32))])) st192 ?_
      refine Run.istore (pc' := 108) X192 hx (l' := #[.val (.int p0), .val (.int p1), .val (.int p2), .val (.ref b1), .val (.int (1 : Int32)), .val (.int (1 : Int32)), .val (.ref b172), .val (.int ((f9 (1 : Int32)) &&& (255 : Int32))), .val (.int (-1 : Int32)), .val (.int (-1 : Int32)), .val (.int (-1 : Int32)), .val (.int (-1 : Int32)), .val (.int (2 : Int32)), .unset]) (hb hby at_106) rfl rfl ?_
      refine Run.aload (pc' := 110) X192 hx (hb hby at_108) rfl rfl ?_
      obtain ⟨T193, L193, v193, X193, Q193, st193⟩ := callVirtual X192 hx (y := (⟨"com/example/tallyhold/tallyhold/ledger/ArrayInput", "available", "()I"⟩ : MethodName)) (z := (⟨"com/example/tallyhold/tallyhold/ledger/ArrayInput", "available", "()I"⟩ : MethodName)) (C := "com/example/tallyhold/tallyhold/ledger/ArrayInput") (a := b172) (Ls := #[.val (.int p0), .val (.int p1), .val (.int p2), .val (.ref b1), .val (.int (1 : Int32)), .val (.int (1 : Int32)), .val (.ref b172), .val (.int ((f9 (1 : Int32)) &&& (255 : Int32))), .val (.int (-1 : Int32)), .val (.int (-1 : Int32)), .val (.int (-1 : Int32)), .val (.int (-1 : Int32)), .val (.int (2 : Int32)), .unset]) (rest := []) (W := 0) (argsL := []) hZ hown (hw _ (List.mem_of_getElem? (i := 40) rfl)) (hw _ (List.mem_of_getElem? (i := 41) rfl)) (notFace_of_selects (args := #[]) (mvT hZ (hw _ (List.mem_of_getElem? (i := 43) rfl)))) (hw _ (List.mem_of_getElem? (i := 43) rfl)) (hw _ (List.mem_of_getElem? (i := 42) rfl)) (hw _ (List.mem_of_getElem? (i := 4) rfl)) (hw _ (List.mem_of_getElem? (i := 44) rfl)) (by decide) e192 E189 (rm7 l Z a0 hw [] b172 (2 : Int32) (2 : Int32) T189.heap n0 Z189 F189_at F189_end) (hb hby at_110) (lenOf own_pd4 rfl) (by decide) (by decide) (by rw [hml]; rfl) (Nat.le_of_eq rfl) (by decide) (by decide)
      obtain ⟨hv193, M193, e193⟩ := Q193
      rw [show (own_F7 b172 (2 : Int32) (2 : Int32)) = (0 : Int32) from rfl] at hv193
      subst hv193
      have N193 := Fr.app N192 M193
      refine Run.back (g' := (mkF m 113 #[.val (.int p0), .val (.int p1), .val (.int p2), .val (.ref b1), .val (.int (1 : Int32)), .val (.int (1 : Int32)), .val (.ref b172), .val (.int ((f9 (1 : Int32)) &&& (255 : Int32))), .val (.int (-1 : Int32)), .val (.int (-1 : Int32)), .val (.int (-1 : Int32)), .val (.int (-1 : Int32)), .val (.int (2 : Int32)), .unset] [(.int (0 : Int32))])) st193 ?_
      refine Run.istore (pc' := 115) X193 hx (l' := #[.val (.int p0), .val (.int p1), .val (.int p2), .val (.ref b1), .val (.int (1 : Int32)), .val (.int (1 : Int32)), .val (.ref b172), .val (.int ((f9 (1 : Int32)) &&& (255 : Int32))), .val (.int (-1 : Int32)), .val (.int (-1 : Int32)), .val (.int (-1 : Int32)), .val (.int (-1 : Int32)), .val (.int (2 : Int32)), .val (.int (0 : Int32))]) (hb hby at_113) rfl rfl ?_
      refine Run.iload (pc' := 117) X193 hx (hb hby at_115) rfl rfl ?_
      refine Run.iloadN (pc' := 118) X193 hx (hb hby at_117) rfl rfl ?_
      refine Run.iload (pc' := 120) X193 hx (hb hby at_118) rfl rfl ?_
      refine Run.iload (pc' := 122) X193 hx (hb hby at_120) rfl rfl ?_
      refine Run.iconst (pc' := 123) (v := (0 : Int32)) X193 hx (hb hby at_122) rfl rfl ?_
      obtain ⟨T194, L194, v194, X194, Q194, st194⟩ := callStatic X193 hx (y := (⟨"com/example/tallyhold/tallyhold/ledger/ArrayInputReadPinLaw", "expected", "(IIII)I"⟩ : MethodName)) (Ls := #[.val (.int p0), .val (.int p1), .val (.int p2), .val (.ref b1), .val (.int (1 : Int32)), .val (.int (1 : Int32)), .val (.ref b172), .val (.int ((f9 (1 : Int32)) &&& (255 : Int32))), .val (.int (-1 : Int32)), .val (.int (-1 : Int32)), .val (.int (-1 : Int32)), .val (.int (-1 : Int32)), .val (.int (2 : Int32)), .val (.int (0 : Int32))]) (rest := [(.int ((f9 (1 : Int32)) &&& (255 : Int32)))]) (W := 1) (argsL := [(.int p0), (.int (1 : Int32)), (.int (1 : Int32)), (.int (0 : Int32))]) hZ hown (hw _ (List.mem_of_getElem? (i := 45) rfl)) (hw _ (List.mem_of_getElem? (i := 46) rfl)) (hw _ (List.mem_of_getElem? (i := 47) rfl)) (hw _ (List.mem_of_getElem? (i := 48) rfl)) (by decide) e193 (rm8 l Z a0 hw [] p0 (1 : Int32) (1 : Int32) (0 : Int32)  T189.heap n0 Z189 ) (hb hby at_123) (lenOf own_pd5 rfl) (by decide) (by decide) (by rw [hml]; rfl) (Nat.le_of_eq rfl) (by decide) (by decide)
      obtain ⟨hv194, M194, e194⟩ := Q194
      rw [show (own_F8 p0 (1 : Int32) (1 : Int32) (0 : Int32)) = (((p0.toUInt32 >>> ((8 : Int32) &&& 31).toUInt32).toInt32) &&& (255 : Int32)) from rfl] at hv194
      subst hv194
      have N194 := Fr.app N193 M194
      refine Run.back (g' := (mkF m 126 #[.val (.int p0), .val (.int p1), .val (.int p2), .val (.ref b1), .val (.int (1 : Int32)), .val (.int (1 : Int32)), .val (.ref b172), .val (.int ((f9 (1 : Int32)) &&& (255 : Int32))), .val (.int (-1 : Int32)), .val (.int (-1 : Int32)), .val (.int (-1 : Int32)), .val (.int (-1 : Int32)), .val (.int (2 : Int32)), .val (.int (0 : Int32))] [(.int (((p0.toUInt32 >>> ((8 : Int32) &&& 31).toUInt32).toInt32) &&& (255 : Int32))), (.int ((f9 (1 : Int32)) &&& (255 : Int32)))])) st194 ?_
      refine Run.icmpNo (pc' := 129) X194 hx (hb hby at_126) (teq (own_b1 g1)).2 rfl ?_
      refine Run.iload (pc' := 131) X194 hx (hb hby at_129) rfl rfl ?_
      refine Run.iloadN (pc' := 132) X194 hx (hb hby at_131) rfl rfl ?_
      refine Run.iload (pc' := 134) X194 hx (hb hby at_132) rfl rfl ?_
      refine Run.iload (pc' := 136) X194 hx (hb hby at_134) rfl rfl ?_
      refine Run.iconst (pc' := 137) (v := (1 : Int32)) X194 hx (hb hby at_136) rfl rfl ?_
      obtain ⟨T195, L195, v195, X195, Q195, st195⟩ := callStatic X194 hx (y := (⟨"com/example/tallyhold/tallyhold/ledger/ArrayInputReadPinLaw", "expected", "(IIII)I"⟩ : MethodName)) (Ls := #[.val (.int p0), .val (.int p1), .val (.int p2), .val (.ref b1), .val (.int (1 : Int32)), .val (.int (1 : Int32)), .val (.ref b172), .val (.int ((f9 (1 : Int32)) &&& (255 : Int32))), .val (.int (-1 : Int32)), .val (.int (-1 : Int32)), .val (.int (-1 : Int32)), .val (.int (-1 : Int32)), .val (.int (2 : Int32)), .val (.int (0 : Int32))]) (rest := [(.int (-1 : Int32))]) (W := 1) (argsL := [(.int p0), (.int (1 : Int32)), (.int (1 : Int32)), (.int (1 : Int32))]) hZ hown (hw _ (List.mem_of_getElem? (i := 45) rfl)) (hw _ (List.mem_of_getElem? (i := 46) rfl)) (hw _ (List.mem_of_getElem? (i := 47) rfl)) (hw _ (List.mem_of_getElem? (i := 48) rfl)) (by decide) e194 (rm8 l Z a0 hw [] p0 (1 : Int32) (1 : Int32) (1 : Int32)  T189.heap n0 Z189 ) (hb hby at_137) (lenOf own_pd5 rfl) (by decide) (by decide) (by rw [hml]; rfl) (Nat.le_of_eq rfl) (by decide) (by decide)
      obtain ⟨hv195, M195, e195⟩ := Q195
      rw [show (own_F8 p0 (1 : Int32) (1 : Int32) (1 : Int32)) = (-1 : Int32) from rfl] at hv195
      subst hv195
      have N195 := Fr.app N194 M195
      refine Run.back (g' := (mkF m 140 #[.val (.int p0), .val (.int p1), .val (.int p2), .val (.ref b1), .val (.int (1 : Int32)), .val (.int (1 : Int32)), .val (.ref b172), .val (.int ((f9 (1 : Int32)) &&& (255 : Int32))), .val (.int (-1 : Int32)), .val (.int (-1 : Int32)), .val (.int (-1 : Int32)), .val (.int (-1 : Int32)), .val (.int (2 : Int32)), .val (.int (0 : Int32))] [(.int (-1 : Int32)), (.int (-1 : Int32))])) st195 ?_
      refine Run.icmpNo (pc' := 143) X195 hx (hb hby at_140) (teq rfl).2 rfl ?_
      refine Run.iload (pc' := 145) X195 hx (hb hby at_143) rfl rfl ?_
      refine Run.iloadN (pc' := 146) X195 hx (hb hby at_145) rfl rfl ?_
      refine Run.iload (pc' := 148) X195 hx (hb hby at_146) rfl rfl ?_
      refine Run.iload (pc' := 150) X195 hx (hb hby at_148) rfl rfl ?_
      refine Run.iconst (pc' := 151) (v := (2 : Int32)) X195 hx (hb hby at_150) rfl rfl ?_
      obtain ⟨T196, L196, v196, X196, Q196, st196⟩ := callStatic X195 hx (y := (⟨"com/example/tallyhold/tallyhold/ledger/ArrayInputReadPinLaw", "expected", "(IIII)I"⟩ : MethodName)) (Ls := #[.val (.int p0), .val (.int p1), .val (.int p2), .val (.ref b1), .val (.int (1 : Int32)), .val (.int (1 : Int32)), .val (.ref b172), .val (.int ((f9 (1 : Int32)) &&& (255 : Int32))), .val (.int (-1 : Int32)), .val (.int (-1 : Int32)), .val (.int (-1 : Int32)), .val (.int (-1 : Int32)), .val (.int (2 : Int32)), .val (.int (0 : Int32))]) (rest := [(.int (-1 : Int32))]) (W := 1) (argsL := [(.int p0), (.int (1 : Int32)), (.int (1 : Int32)), (.int (2 : Int32))]) hZ hown (hw _ (List.mem_of_getElem? (i := 45) rfl)) (hw _ (List.mem_of_getElem? (i := 46) rfl)) (hw _ (List.mem_of_getElem? (i := 47) rfl)) (hw _ (List.mem_of_getElem? (i := 48) rfl)) (by decide) e195 (rm8 l Z a0 hw [] p0 (1 : Int32) (1 : Int32) (2 : Int32)  T189.heap n0 Z189 ) (hb hby at_151) (lenOf own_pd5 rfl) (by decide) (by decide) (by rw [hml]; rfl) (Nat.le_of_eq rfl) (by decide) (by decide)
      obtain ⟨hv196, M196, e196⟩ := Q196
      rw [show (own_F8 p0 (1 : Int32) (1 : Int32) (2 : Int32)) = (-1 : Int32) from rfl] at hv196
      subst hv196
      have N196 := Fr.app N195 M196
      refine Run.back (g' := (mkF m 154 #[.val (.int p0), .val (.int p1), .val (.int p2), .val (.ref b1), .val (.int (1 : Int32)), .val (.int (1 : Int32)), .val (.ref b172), .val (.int ((f9 (1 : Int32)) &&& (255 : Int32))), .val (.int (-1 : Int32)), .val (.int (-1 : Int32)), .val (.int (-1 : Int32)), .val (.int (-1 : Int32)), .val (.int (2 : Int32)), .val (.int (0 : Int32))] [(.int (-1 : Int32)), (.int (-1 : Int32))])) st196 ?_
      refine Run.icmpNo (pc' := 157) X196 hx (hb hby at_154) (teq rfl).2 rfl ?_
      refine Run.iload (pc' := 159) X196 hx (hb hby at_157) rfl rfl ?_
      refine Run.iloadN (pc' := 160) X196 hx (hb hby at_159) rfl rfl ?_
      refine Run.iload (pc' := 162) X196 hx (hb hby at_160) rfl rfl ?_
      refine Run.iload (pc' := 164) X196 hx (hb hby at_162) rfl rfl ?_
      refine Run.iconst (pc' := 165) (v := (3 : Int32)) X196 hx (hb hby at_164) rfl rfl ?_
      obtain ⟨T197, L197, v197, X197, Q197, st197⟩ := callStatic X196 hx (y := (⟨"com/example/tallyhold/tallyhold/ledger/ArrayInputReadPinLaw", "expected", "(IIII)I"⟩ : MethodName)) (Ls := #[.val (.int p0), .val (.int p1), .val (.int p2), .val (.ref b1), .val (.int (1 : Int32)), .val (.int (1 : Int32)), .val (.ref b172), .val (.int ((f9 (1 : Int32)) &&& (255 : Int32))), .val (.int (-1 : Int32)), .val (.int (-1 : Int32)), .val (.int (-1 : Int32)), .val (.int (-1 : Int32)), .val (.int (2 : Int32)), .val (.int (0 : Int32))]) (rest := [(.int (-1 : Int32))]) (W := 1) (argsL := [(.int p0), (.int (1 : Int32)), (.int (1 : Int32)), (.int (3 : Int32))]) hZ hown (hw _ (List.mem_of_getElem? (i := 45) rfl)) (hw _ (List.mem_of_getElem? (i := 46) rfl)) (hw _ (List.mem_of_getElem? (i := 47) rfl)) (hw _ (List.mem_of_getElem? (i := 48) rfl)) (by decide) e196 (rm8 l Z a0 hw [] p0 (1 : Int32) (1 : Int32) (3 : Int32)  T189.heap n0 Z189 ) (hb hby at_165) (lenOf own_pd5 rfl) (by decide) (by decide) (by rw [hml]; rfl) (Nat.le_of_eq rfl) (by decide) (by decide)
      obtain ⟨hv197, M197, e197⟩ := Q197
      rw [show (own_F8 p0 (1 : Int32) (1 : Int32) (3 : Int32)) = (-1 : Int32) from rfl] at hv197
      subst hv197
      have N197 := Fr.app N196 M197
      refine Run.back (g' := (mkF m 168 #[.val (.int p0), .val (.int p1), .val (.int p2), .val (.ref b1), .val (.int (1 : Int32)), .val (.int (1 : Int32)), .val (.ref b172), .val (.int ((f9 (1 : Int32)) &&& (255 : Int32))), .val (.int (-1 : Int32)), .val (.int (-1 : Int32)), .val (.int (-1 : Int32)), .val (.int (-1 : Int32)), .val (.int (2 : Int32)), .val (.int (0 : Int32))] [(.int (-1 : Int32)), (.int (-1 : Int32))])) st197 ?_
      refine Run.icmpNo (pc' := 171) X197 hx (hb hby at_168) (teq rfl).2 rfl ?_
      refine Run.iload (pc' := 173) X197 hx (hb hby at_171) rfl rfl ?_
      refine Run.iloadN (pc' := 174) X197 hx (hb hby at_173) rfl rfl ?_
      refine Run.iload (pc' := 176) X197 hx (hb hby at_174) rfl rfl ?_
      refine Run.iload (pc' := 178) X197 hx (hb hby at_176) rfl rfl ?_
      refine Run.iconst (pc' := 179) (v := (4 : Int32)) X197 hx (hb hby at_178) rfl rfl ?_
      obtain ⟨T198, L198, v198, X198, Q198, st198⟩ := callStatic X197 hx (y := (⟨"com/example/tallyhold/tallyhold/ledger/ArrayInputReadPinLaw", "expected", "(IIII)I"⟩ : MethodName)) (Ls := #[.val (.int p0), .val (.int p1), .val (.int p2), .val (.ref b1), .val (.int (1 : Int32)), .val (.int (1 : Int32)), .val (.ref b172), .val (.int ((f9 (1 : Int32)) &&& (255 : Int32))), .val (.int (-1 : Int32)), .val (.int (-1 : Int32)), .val (.int (-1 : Int32)), .val (.int (-1 : Int32)), .val (.int (2 : Int32)), .val (.int (0 : Int32))]) (rest := [(.int (-1 : Int32))]) (W := 1) (argsL := [(.int p0), (.int (1 : Int32)), (.int (1 : Int32)), (.int (4 : Int32))]) hZ hown (hw _ (List.mem_of_getElem? (i := 45) rfl)) (hw _ (List.mem_of_getElem? (i := 46) rfl)) (hw _ (List.mem_of_getElem? (i := 47) rfl)) (hw _ (List.mem_of_getElem? (i := 48) rfl)) (by decide) e197 (rm8 l Z a0 hw [] p0 (1 : Int32) (1 : Int32) (4 : Int32)  T189.heap n0 Z189 ) (hb hby at_179) (lenOf own_pd5 rfl) (by decide) (by decide) (by rw [hml]; rfl) (Nat.le_of_eq rfl) (by decide) (by decide)
      obtain ⟨hv198, M198, e198⟩ := Q198
      rw [show (own_F8 p0 (1 : Int32) (1 : Int32) (4 : Int32)) = (-1 : Int32) from rfl] at hv198
      subst hv198
      have N198 := Fr.app N197 M198
      refine Run.back (g' := (mkF m 182 #[.val (.int p0), .val (.int p1), .val (.int p2), .val (.ref b1), .val (.int (1 : Int32)), .val (.int (1 : Int32)), .val (.ref b172), .val (.int ((f9 (1 : Int32)) &&& (255 : Int32))), .val (.int (-1 : Int32)), .val (.int (-1 : Int32)), .val (.int (-1 : Int32)), .val (.int (-1 : Int32)), .val (.int (2 : Int32)), .val (.int (0 : Int32))] [(.int (-1 : Int32)), (.int (-1 : Int32))])) st198 ?_
      refine Run.icmpNo (pc' := 185) X198 hx (hb hby at_182) (teq rfl).2 rfl ?_
      refine Run.iload (pc' := 187) X198 hx (hb hby at_185) rfl rfl ?_
      refine Run.iload (pc' := 189) X198 hx (hb hby at_187) rfl rfl ?_
      refine Run.iload (pc' := 191) X198 hx (hb hby at_189) rfl rfl ?_
      refine Run.iadd (pc' := 192) X198 hx (hb hby at_191) rfl ?_
      refine Run.icmpNo (pc' := 195) X198 hx (hb hby at_192) (teq (by decide : (2 : Int32) = ((1 : Int32) + (1 : Int32)))).2 rfl ?_
      refine Run.iload (pc' := 197) X198 hx (hb hby at_195) rfl rfl ?_
      refine Run.ifNo (pc' := 200) X198 hx (hb hby at_197) ((if0 _ _).trans (teq (by decide : (0 : Int32) = (0 : Int32))).2) rfl ?_
      refine Run.iconst (pc' := 201) (v := (1 : Int32)) X198 hx (hb hby at_200) rfl rfl ?_
      refine Run.goto (pc' := 205) X198 hx (hb hby at_201) (by decide) (by decide) ?_
      exact Run.retSmall X198 hx (t := .boolean) (z' := (1 : Int32)) Bd.notSynchronized Bd.returns (by simp) rfl (hb hby at_205) ⟨rfl, N198⟩ (by decide) (by decide)
    · rw [hl]
      obtain ⟨T199, h199, X199, e199, E199, A199, D199, -, st199⟩ := newO X8 hx hZ hown (hw _ (List.mem_of_getElem? (i := 2) rfl)) (hw _ (List.mem_of_getElem? (i := 3) rfl)) (hw _ (List.mem_of_getElem? (i := 4) rfl)) e8 (g := (mkF m 52 #[.val (.int p0), .val (.int p1), .val (.int p2), .val (.ref b1), .val (.int (1 : Int32)), .val (.int (2 : Int32)), .unset, .unset, .unset, .unset, .unset, .unset, .unset, .unset] [])) rfl (hb hby at_52) (by decide) (by decide)
      obtain ⟨b199, g199⟩ : ∃ z, z = h8.size := ⟨_, rfl⟩
      rw [← g199] at A199 D199 st199
      have ne_b1_b199 : b1 ≠ b199 := Nat.ne_of_lt (Nat.lt_of_lt_of_le (A8).lt (Nat.le_of_eq g199.symm))
      have G199 : n0 ≤ b199 := Nat.le_trans Z8 (Nat.le_of_eq g199.symm)
      have Z199 : n0 ≤ h199.size := Nat.le_trans Z8 E199.1
      have fq200 := Ints.ext E199 A8
      have F199_bytes : Fld Z h199 b199 "com/example/tallyhold/tallyhold/ledger/ArrayInput" "bytes" "[B" .null := D199 (Or.inr (hw _ (List.mem_of_getElem? (i := 25) rfl))) (ty := (.array .byte)) (by decide)
      have F199_at : Fld Z h199 b199 "com/example/tallyhold/tallyhold/ledger/ArrayInput" "at" "I" (.int (0 : Int32)) := D199 (Or.inl (hw _ (List.mem_of_getElem? (i := 27) rfl))) (ty := .int) (by decide)
      have F199_end : Fld Z h199 b199 "com/example/tallyhold/tallyhold/ledger/ArrayInput" "end" "I" (.int (0 : Int32)) := D199 (Or.inr (hw _ (List.mem_of_getElem? (i := 29) rfl))) (ty := .int) (by decide)
      refine Run.back (g' := (mkF m 55 #[.val (.int p0), .val (.int p1), .val (.int p2), .val (.ref b1), .val (.int (1 : Int32)), .val (.int (2 : Int32)), .unset, .unset, .unset, .unset, .unset, .unset, .unset, .unset] [(.ref b199)])) st199 ?_
      refine Run.dup (pc' := 56) X199 hx (hb hby at_55) rfl rfl ?_
      refine Run.aloadN (pc' := 57) X199 hx (hb hby at_56) rfl rfl ?_
      refine Run.iload (pc' := 59) X199 hx (hb hby at_57) rfl rfl ?_
      refine Run.iload (pc' := 61) X199 hx (hb hby at_59) rfl rfl ?_
      obtain ⟨T201, L201, v201, X201, Q201, st201⟩ := callSpecial X199 hx (y := (⟨"com/example/tallyhold/tallyhold/ledger/ArrayInput", "<init>", "([BII)V"⟩ : MethodName)) (a := b199) (Ls := #[.val (.int p0), .val (.int p1), .val (.int p2), .val (.ref b1), .val (.int (1 : Int32)), .val (.int (2 : Int32)), .unset, .unset, .unset, .unset, .unset, .unset, .unset, .unset]) (rest := [(.ref b199)]) (W := 1) (argsL := [(.ref b1), (.int (1 : Int32)), (.int (2 : Int32))]) rfl hZ hown (hw _ (List.mem_of_getElem? (i := 5) rfl)) (hw _ (List.mem_of_getElem? (i := 6) rfl)) (hw _ (List.mem_of_getElem? (i := 4) rfl)) (hw _ (List.mem_of_getElem? (i := 7) rfl)) (by decide) e199 (rm4 l Z a0 hw [] b199 b1 (1 : Int32) (2 : Int32) f9 h199 n0 Z199 A199 F199_bytes F199_at F199_end G199 fq200 ne_b1_b199 (by decide) (by decide)) (hb hby at_61) (lenOf own_pd3 rfl) (by decide) (by decide) (by rw [hml]; rfl) (Nat.le_of_eq rfl) (by decide) (by decide)
      obtain ⟨rfl, M201, K201, E201, F201_bytes, F201_at, F201_end⟩ := Q201
      rw [show ((1 : Int32) + (2 : Int32)) = (3 : Int32) from rfl] at F201_end
      have N201 := Fr.app N8 M201
      have fq202 := Ints.keep fq200 K201 (ninS ne_b1_b199 nin0)
      have fq203 := Exa.keep A199 K201
      have Z201 : n0 ≤ T201.heap.size := Nat.le_trans Z199 K201.1
      refine Run.back (g' := (mkF m 64 #[.val (.int p0), .val (.int p1), .val (.int p2), .val (.ref b1), .val (.int (1 : Int32)), .val (.int (2 : Int32)), .unset, .unset, .unset, .unset, .unset, .unset, .unset, .unset] [(.ref b199)])) st201 ?_
      refine Run.astore (pc' := 66) X201 hx (l' := #[.val (.int p0), .val (.int p1), .val (.int p2), .val (.ref b1), .val (.int (1 : Int32)), .val (.int (2 : Int32)), .val (.ref b199), .unset, .unset, .unset, .unset, .unset, .unset, .unset]) (hb hby at_64) rfl rfl ?_
      refine Run.aload (pc' := 68) X201 hx (hb hby at_66) rfl rfl ?_
      obtain ⟨T204, L204, v204, X204, Q204, st204⟩ := callVirtual X201 hx (y := (⟨"com/example/tallyhold/tallyhold/ledger/ArrayInput", "read", "()I"⟩ : MethodName)) (z := (⟨"com/example/tallyhold/tallyhold/ledger/ArrayInput", "read", "()I"⟩ : MethodName)) (C := "com/example/tallyhold/tallyhold/ledger/ArrayInput") (a := b199) (Ls := #[.val (.int p0), .val (.int p1), .val (.int p2), .val (.ref b1), .val (.int (1 : Int32)), .val (.int (2 : Int32)), .val (.ref b199), .unset, .unset, .unset, .unset, .unset, .unset, .unset]) (rest := []) (W := 0) (argsL := []) hZ hown (hw _ (List.mem_of_getElem? (i := 30) rfl)) (hw _ (List.mem_of_getElem? (i := 31) rfl)) (notFace_of_selects (args := #[]) (mvT hZ (hw _ (List.mem_of_getElem? (i := 33) rfl)))) (hw _ (List.mem_of_getElem? (i := 33) rfl)) (hw _ (List.mem_of_getElem? (i := 32) rfl)) (hw _ (List.mem_of_getElem? (i := 4) rfl)) (hw _ (List.mem_of_getElem? (i := 34) rfl)) (by decide) rfl E201 (rm5 l Z a0 hw [] b199 b1 (1 : Int32) (3 : Int32) f9 T201.heap n0 Z201 E201 F201_bytes F201_at F201_end G199 fq202 ne_b1_b199 (by decide) (by decide)) (hb hby at_68) (lenOf own_pd4 rfl) (by decide) (by decide) (by rw [hml]; rfl) (Nat.le_of_eq rfl) (by decide) (by decide)
      obtain ⟨hv204, M204, K204, E204, F204_bytes, F204_at, F204_end⟩ := Q204
      rw [show (own_R (1 : Int32) (3 : Int32) f9) = ((f9 (1 : Int32)) &&& (255 : Int32)) from rfl] at hv204
      subst hv204
      rw [show (own_N (1 : Int32) (3 : Int32)) = (2 : Int32) from rfl] at F204_at
      have N204 := Fr.app N201 M204
      have fq205 := Ints.keep fq202 K204 (ninS ne_b1_b199 nin0)
      have fq206 := Exa.keep E201 K204
      have Z204 : n0 ≤ T204.heap.size := Nat.le_trans Z201 K204.1
      refine Run.back (g' := (mkF m 71 #[.val (.int p0), .val (.int p1), .val (.int p2), .val (.ref b1), .val (.int (1 : Int32)), .val (.int (2 : Int32)), .val (.ref b199), .unset, .unset, .unset, .unset, .unset, .unset, .unset] [(.int ((f9 (1 : Int32)) &&& (255 : Int32)))])) st204 ?_
      refine Run.istore (pc' := 73) X204 hx (l' := #[.val (.int p0), .val (.int p1), .val (.int p2), .val (.ref b1), .val (.int (1 : Int32)), .val (.int (2 : Int32)), .val (.ref b199), .val (.int ((f9 (1 : Int32)) &&& (255 : Int32))), .unset, .unset, .unset, .unset, .unset, .unset]) (hb hby at_71) rfl rfl ?_
      refine Run.aload (pc' := 75) X204 hx (hb hby at_73) rfl rfl ?_
      obtain ⟨T207, L207, v207, X207, Q207, st207⟩ := callVirtual X204 hx (y := (⟨"com/example/tallyhold/tallyhold/ledger/ArrayInput", "read", "()I"⟩ : MethodName)) (z := (⟨"com/example/tallyhold/tallyhold/ledger/ArrayInput", "read", "()I"⟩ : MethodName)) (C := "com/example/tallyhold/tallyhold/ledger/ArrayInput") (a := b199) (Ls := #[.val (.int p0), .val (.int p1), .val (.int p2), .val (.ref b1), .val (.int (1 : Int32)), .val (.int (2 : Int32)), .val (.ref b199), .val (.int ((f9 (1 : Int32)) &&& (255 : Int32))), .unset, .unset, .unset, .unset, .unset, .unset]) (rest := []) (W := 0) (argsL := []) hZ hown (hw _ (List.mem_of_getElem? (i := 30) rfl)) (hw _ (List.mem_of_getElem? (i := 31) rfl)) (notFace_of_selects (args := #[]) (mvT hZ (hw _ (List.mem_of_getElem? (i := 33) rfl)))) (hw _ (List.mem_of_getElem? (i := 33) rfl)) (hw _ (List.mem_of_getElem? (i := 32) rfl)) (hw _ (List.mem_of_getElem? (i := 4) rfl)) (hw _ (List.mem_of_getElem? (i := 34) rfl)) (by decide) rfl E204 (rm5 l Z a0 hw [] b199 b1 (2 : Int32) (3 : Int32) f9 T204.heap n0 Z204 E204 F204_bytes F204_at F204_end G199 fq205 ne_b1_b199 (by decide) (by decide)) (hb hby at_75) (lenOf own_pd4 rfl) (by decide) (by decide) (by rw [hml]; rfl) (Nat.le_of_eq rfl) (by decide) (by decide)
      obtain ⟨hv207, M207, K207, E207, F207_bytes, F207_at, F207_end⟩ := Q207
      rw [show (own_R (2 : Int32) (3 : Int32) f9) = ((f9 (2 : Int32)) &&& (255 : Int32)) from rfl] at hv207
      subst hv207
      rw [show (own_N (2 : Int32) (3 : Int32)) = (3 : Int32) from rfl] at F207_at
      have N207 := Fr.app N204 M207
      have fq208 := Ints.keep fq205 K207 (ninS ne_b1_b199 nin0)
      have fq209 := Exa.keep E204 K207
      have Z207 : n0 ≤ T207.heap.size := Nat.le_trans Z204 K207.1
      refine Run.back (g' := (mkF m 78 #[.val (.int p0), .val (.int p1), .val (.int p2), .val (.ref b1), .val (.int (1 : Int32)), .val (.int (2 : Int32)), .val (.ref b199), .val (.int ((f9 (1 : Int32)) &&& (255 : Int32))), .unset, .unset, .unset, .unset, .unset, .unset] [(.int ((f9 (2 : Int32)) &&& (255 : Int32)))])) st207 ?_
      refine Run.istore (pc' := 80) X207 hx (l' := #[.val (.int p0), .val (.int p1), .val (.int p2), .val (.ref b1), .val (.int (1 : Int32)), .val (.int (2 : Int32)), .val (.ref b199), .val (.int ((f9 (1 : Int32)) &&& (255 : Int32))), .val (.int ((f9 (2 : Int32)) &&& (255 : Int32))), .unset, .unset, .unset, .unset, .unset]) (hb hby at_78) rfl rfl ?_
      refine Run.aload (pc' := 82) X207 hx (hb hby at_80) rfl rfl ?_
      obtain ⟨T210, L210, v210, X210, Q210, st210⟩ := callVirtual X207 hx (y := (⟨"com/example/tallyhold/tallyhold/ledger/ArrayInput", "read", "()I"⟩ : MethodName)) (z := (⟨"com/example/tallyhold/tallyhold/ledger/ArrayInput", "read", "()I"⟩ : MethodName)) (C := "com/example/tallyhold/tallyhold/ledger/ArrayInput") (a := b199) (Ls := #[.val (.int p0), .val (.int p1), .val (.int p2), .val (.ref b1), .val (.int (1 : Int32)), .val (.int (2 : Int32)), .val (.ref b199), .val (.int ((f9 (1 : Int32)) &&& (255 : Int32))), .val (.int ((f9 (2 : Int32)) &&& (255 : Int32))), .unset, .unset, .unset, .unset, .unset]) (rest := []) (W := 0) (argsL := []) hZ hown (hw _ (List.mem_of_getElem? (i := 30) rfl)) (hw _ (List.mem_of_getElem? (i := 31) rfl)) (notFace_of_selects (args := #[]) (mvT hZ (hw _ (List.mem_of_getElem? (i := 33) rfl)))) (hw _ (List.mem_of_getElem? (i := 33) rfl)) (hw _ (List.mem_of_getElem? (i := 32) rfl)) (hw _ (List.mem_of_getElem? (i := 4) rfl)) (hw _ (List.mem_of_getElem? (i := 34) rfl)) (by decide) rfl E207 (rm5 l Z a0 hw [] b199 b1 (3 : Int32) (3 : Int32) f9 T207.heap n0 Z207 E207 F207_bytes F207_at F207_end G199 fq208 ne_b1_b199 (by decide) (by decide)) (hb hby at_82) (lenOf own_pd4 rfl) (by decide) (by decide) (by rw [hml]; rfl) (Nat.le_of_eq rfl) (by decide) (by decide)
      obtain ⟨hv210, M210, K210, E210, F210_bytes, F210_at, F210_end⟩ := Q210
      rw [show (own_R (3 : Int32) (3 : Int32) f9) = (-1 : Int32) from rfl] at hv210
      subst hv210
      rw [show (own_N (3 : Int32) (3 : Int32)) = (3 : Int32) from rfl] at F210_at
      have N210 := Fr.app N207 M210
      have fq211 := Ints.keep fq208 K210 (ninS ne_b1_b199 nin0)
      have fq212 := Exa.keep E207 K210
      have Z210 : n0 ≤ T210.heap.size := Nat.le_trans Z207 K210.1
      refine Run.back (g' := (mkF m 85 #[.val (.int p0), .val (.int p1), .val (.int p2), .val (.ref b1), .val (.int (1 : Int32)), .val (.int (2 : Int32)), .val (.ref b199), .val (.int ((f9 (1 : Int32)) &&& (255 : Int32))), .val (.int ((f9 (2 : Int32)) &&& (255 : Int32))), .unset, .unset, .unset, .unset, .unset] [(.int (-1 : Int32))])) st210 ?_
      refine Run.istore (pc' := 87) X210 hx (l' := #[.val (.int p0), .val (.int p1), .val (.int p2), .val (.ref b1), .val (.int (1 : Int32)), .val (.int (2 : Int32)), .val (.ref b199), .val (.int ((f9 (1 : Int32)) &&& (255 : Int32))), .val (.int ((f9 (2 : Int32)) &&& (255 : Int32))), .val (.int (-1 : Int32)), .unset, .unset, .unset, .unset]) (hb hby at_85) rfl rfl ?_
      refine Run.aload (pc' := 89) X210 hx (hb hby at_87) rfl rfl ?_
      obtain ⟨T213, L213, v213, X213, Q213, st213⟩ := callVirtual X210 hx (y := (⟨"com/example/tallyhold/tallyhold/ledger/ArrayInput", "read", "()I"⟩ : MethodName)) (z := (⟨"com/example/tallyhold/tallyhold/ledger/ArrayInput", "read", "()I"⟩ : MethodName)) (C := "com/example/tallyhold/tallyhold/ledger/ArrayInput") (a := b199) (Ls := #[.val (.int p0), .val (.int p1), .val (.int p2), .val (.ref b1), .val (.int (1 : Int32)), .val (.int (2 : Int32)), .val (.ref b199), .val (.int ((f9 (1 : Int32)) &&& (255 : Int32))), .val (.int ((f9 (2 : Int32)) &&& (255 : Int32))), .val (.int (-1 : Int32)), .unset, .unset, .unset, .unset]) (rest := []) (W := 0) (argsL := []) hZ hown (hw _ (List.mem_of_getElem? (i := 30) rfl)) (hw _ (List.mem_of_getElem? (i := 31) rfl)) (notFace_of_selects (args := #[]) (mvT hZ (hw _ (List.mem_of_getElem? (i := 33) rfl)))) (hw _ (List.mem_of_getElem? (i := 33) rfl)) (hw _ (List.mem_of_getElem? (i := 32) rfl)) (hw _ (List.mem_of_getElem? (i := 4) rfl)) (hw _ (List.mem_of_getElem? (i := 34) rfl)) (by decide) rfl E210 (rm5 l Z a0 hw [] b199 b1 (3 : Int32) (3 : Int32) f9 T210.heap n0 Z210 E210 F210_bytes F210_at F210_end G199 fq211 ne_b1_b199 (by decide) (by decide)) (hb hby at_89) (lenOf own_pd4 rfl) (by decide) (by decide) (by rw [hml]; rfl) (Nat.le_of_eq rfl) (by decide) (by decide)
      obtain ⟨hv213, M213, K213, E213, F213_bytes, F213_at, F213_end⟩ := Q213
      rw [show (own_R (3 : Int32) (3 : Int32) f9) = (-1 : Int32) from rfl] at hv213
      subst hv213
      rw [show (own_N (3 : Int32) (3 : Int32)) = (3 : Int32) from rfl] at F213_at
      have N213 := Fr.app N210 M213
      have fq214 := Ints.keep fq211 K213 (ninS ne_b1_b199 nin0)
      have fq215 := Exa.keep E210 K213
      have Z213 : n0 ≤ T213.heap.size := Nat.le_trans Z210 K213.1
      refine Run.back (g' := (mkF m 92 #[.val (.int p0), .val (.int p1), .val (.int p2), .val (.ref b1), .val (.int (1 : Int32)), .val (.int (2 : Int32)), .val (.ref b199), .val (.int ((f9 (1 : Int32)) &&& (255 : Int32))), .val (.int ((f9 (2 : Int32)) &&& (255 : Int32))), .val (.int (-1 : Int32)), .unset, .unset, .unset, .unset] [(.int (-1 : Int32))])) st213 ?_
      refine Run.istore (pc' := 94) X213 hx (l' := #[.val (.int p0), .val (.int p1), .val (.int p2), .val (.ref b1), .val (.int (1 : Int32)), .val (.int (2 : Int32)), .val (.ref b199), .val (.int ((f9 (1 : Int32)) &&& (255 : Int32))), .val (.int ((f9 (2 : Int32)) &&& (255 : Int32))), .val (.int (-1 : Int32)), .val (.int (-1 : Int32)), .unset, .unset, .unset]) (hb hby at_92) rfl rfl ?_
      refine Run.aload (pc' := 96) X213 hx (hb hby at_94) rfl rfl ?_
      obtain ⟨T216, L216, v216, X216, Q216, st216⟩ := callVirtual X213 hx (y := (⟨"com/example/tallyhold/tallyhold/ledger/ArrayInput", "read", "()I"⟩ : MethodName)) (z := (⟨"com/example/tallyhold/tallyhold/ledger/ArrayInput", "read", "()I"⟩ : MethodName)) (C := "com/example/tallyhold/tallyhold/ledger/ArrayInput") (a := b199) (Ls := #[.val (.int p0), .val (.int p1), .val (.int p2), .val (.ref b1), .val (.int (1 : Int32)), .val (.int (2 : Int32)), .val (.ref b199), .val (.int ((f9 (1 : Int32)) &&& (255 : Int32))), .val (.int ((f9 (2 : Int32)) &&& (255 : Int32))), .val (.int (-1 : Int32)), .val (.int (-1 : Int32)), .unset, .unset, .unset]) (rest := []) (W := 0) (argsL := []) hZ hown (hw _ (List.mem_of_getElem? (i := 30) rfl)) (hw _ (List.mem_of_getElem? (i := 31) rfl)) (notFace_of_selects (args := #[]) (mvT hZ (hw _ (List.mem_of_getElem? (i := 33) rfl)))) (hw _ (List.mem_of_getElem? (i := 33) rfl)) (hw _ (List.mem_of_getElem? (i := 32) rfl)) (hw _ (List.mem_of_getElem? (i := 4) rfl)) (hw _ (List.mem_of_getElem? (i := 34) rfl)) (by decide) rfl E213 (rm5 l Z a0 hw [] b199 b1 (3 : Int32) (3 : Int32) f9 T213.heap n0 Z213 E213 F213_bytes F213_at F213_end G199 fq214 ne_b1_b199 (by decide) (by decide)) (hb hby at_96) (lenOf own_pd4 rfl) (by decide) (by decide) (by rw [hml]; rfl) (Nat.le_of_eq rfl) (by decide) (by decide)
      obtain ⟨hv216, M216, K216, E216, F216_bytes, F216_at, F216_end⟩ := Q216
      rw [show (own_R (3 : Int32) (3 : Int32) f9) = (-1 : Int32) from rfl] at hv216
      subst hv216
      rw [show (own_N (3 : Int32) (3 : Int32)) = (3 : Int32) from rfl] at F216_at
      have N216 := Fr.app N213 M216
      have fq217 := Ints.keep fq214 K216 (ninS ne_b1_b199 nin0)
      have fq218 := Exa.keep E213 K216
      have Z216 : n0 ≤ T216.heap.size := Nat.le_trans Z213 K216.1
      refine Run.back (g' := (mkF m 99 #[.val (.int p0), .val (.int p1), .val (.int p2), .val (.ref b1), .val (.int (1 : Int32)), .val (.int (2 : Int32)), .val (.ref b199), .val (.int ((f9 (1 : Int32)) &&& (255 : Int32))), .val (.int ((f9 (2 : Int32)) &&& (255 : Int32))), .val (.int (-1 : Int32)), .val (.int (-1 : Int32)), .unset, .unset, .unset] [(.int (-1 : Int32))])) st216 ?_
      refine Run.istore (pc' := 101) X216 hx (l' := #[.val (.int p0), .val (.int p1), .val (.int p2), .val (.ref b1), .val (.int (1 : Int32)), .val (.int (2 : Int32)), .val (.ref b199), .val (.int ((f9 (1 : Int32)) &&& (255 : Int32))), .val (.int ((f9 (2 : Int32)) &&& (255 : Int32))), .val (.int (-1 : Int32)), .val (.int (-1 : Int32)), .val (.int (-1 : Int32)), .unset, .unset]) (hb hby at_99) rfl rfl ?_
      refine Run.aload (pc' := 103) X216 hx (hb hby at_101) rfl rfl ?_
      obtain ⟨T219, L219, v219, X219, Q219, st219⟩ := callVirtual X216 hx (y := (⟨"com/example/tallyhold/tallyhold/ledger/ArrayInput", "position", "()I"⟩ : MethodName)) (z := (⟨"com/example/tallyhold/tallyhold/ledger/ArrayInput", "position", "()I"⟩ : MethodName)) (C := "com/example/tallyhold/tallyhold/ledger/ArrayInput") (a := b199) (Ls := #[.val (.int p0), .val (.int p1), .val (.int p2), .val (.ref b1), .val (.int (1 : Int32)), .val (.int (2 : Int32)), .val (.ref b199), .val (.int ((f9 (1 : Int32)) &&& (255 : Int32))), .val (.int ((f9 (2 : Int32)) &&& (255 : Int32))), .val (.int (-1 : Int32)), .val (.int (-1 : Int32)), .val (.int (-1 : Int32)), .unset, .unset]) (rest := []) (W := 0) (argsL := []) hZ hown (hw _ (List.mem_of_getElem? (i := 35) rfl)) (hw _ (List.mem_of_getElem? (i := 36) rfl)) (notFace_of_selects (args := #[]) (mvT hZ (hw _ (List.mem_of_getElem? (i := 38) rfl)))) (hw _ (List.mem_of_getElem? (i := 38) rfl)) (hw _ (List.mem_of_getElem? (i := 37) rfl)) (hw _ (List.mem_of_getElem? (i := 4) rfl)) (hw _ (List.mem_of_getElem? (i := 39) rfl)) (by decide) rfl E216 (rm6 l Z a0 hw [] b199 (3 : Int32) T216.heap n0 Z216 F216_at) (hb hby at_103) (lenOf own_pd4 rfl) (by decide) (by decide) (by rw [hml]; rfl) (Nat.le_of_eq rfl) (by decide) (by decide)
      obtain ⟨hv219, M219, e219⟩ := Q219
      rw [show (own_F6 b199 (3 : Int32)) = (3 : Int32) from rfl] at hv219
      subst hv219
      have N219 := Fr.app N216 M219
      refine Run.back (g' := (mkF m 106 #[.val (.int p0), .val (.int p1), .val (.int p2), .val (.ref b1), .val (.int (1 : Int32)), .val (.int (2 : Int32)), .val (.ref b199), .val (.int ((f9 (1 : Int32)) &&& (255 : Int32))), .val (.int ((f9 (2 : Int32)) &&& (255 : Int32))), .val (.int (-1 : Int32)), .val (.int (-1 : Int32)), .val (.int (-1 : Int32)), .unset, .unset] [(.int (3 : Int32))])) st219 ?_
      refine Run.istore (pc' := 108) X219 hx (l' := #[.val (.int p0), .val (.int p1), .val (.int p2), .val (.ref b1), .val (.int (1 : Int32)), .val (.int (2 : Int32)), .val (.ref b199), .val (.int ((f9 (1 : Int32)) &&& (255 : Int32))), .val (.int ((f9 (2 : Int32)) &&& (255 : Int32))), .val (.int (-1 : Int32)), .val (.int (-1 : Int32)), .val (.int (-1 : Int32)), .val (.int (3 : Int32)), .unset]) (hb hby at_106) rfl rfl ?_
      refine Run.aload (pc' := 110) X219 hx (hb hby at_108) rfl rfl ?_
      obtain ⟨T220, L220, v220, X220, Q220, st220⟩ := callVirtual X219 hx (y := (⟨"com/example/tallyhold/tallyhold/ledger/ArrayInput", "available", "()I"⟩ : MethodName)) (z := (⟨"com/example/tallyhold/tallyhold/ledger/ArrayInput", "available", "()I"⟩ : MethodName)) (C := "com/example/tallyhold/tallyhold/ledger/ArrayInput") (a := b199) (Ls := #[.val (.int p0), .val (.int p1), .val (.int p2), .val (.ref b1), .val (.int (1 : Int32)), .val (.int (2 : Int32)), .val (.ref b199), .val (.int ((f9 (1 : Int32)) &&& (255 : Int32))), .val (.int ((f9 (2 : Int32)) &&& (255 : Int32))), .val (.int (-1 : Int32)), .val (.int (-1 : Int32)), .val (.int (-1 : Int32)), .val (.int (3 : Int32)), .unset]) (rest := []) (W := 0) (argsL := []) hZ hown (hw _ (List.mem_of_getElem? (i := 40) rfl)) (hw _ (List.mem_of_getElem? (i := 41) rfl)) (notFace_of_selects (args := #[]) (mvT hZ (hw _ (List.mem_of_getElem? (i := 43) rfl)))) (hw _ (List.mem_of_getElem? (i := 43) rfl)) (hw _ (List.mem_of_getElem? (i := 42) rfl)) (hw _ (List.mem_of_getElem? (i := 4) rfl)) (hw _ (List.mem_of_getElem? (i := 44) rfl)) (by decide) e219 E216 (rm7 l Z a0 hw [] b199 (3 : Int32) (3 : Int32) T216.heap n0 Z216 F216_at F216_end) (hb hby at_110) (lenOf own_pd4 rfl) (by decide) (by decide) (by rw [hml]; rfl) (Nat.le_of_eq rfl) (by decide) (by decide)
      obtain ⟨hv220, M220, e220⟩ := Q220
      rw [show (own_F7 b199 (3 : Int32) (3 : Int32)) = (0 : Int32) from rfl] at hv220
      subst hv220
      have N220 := Fr.app N219 M220
      refine Run.back (g' := (mkF m 113 #[.val (.int p0), .val (.int p1), .val (.int p2), .val (.ref b1), .val (.int (1 : Int32)), .val (.int (2 : Int32)), .val (.ref b199), .val (.int ((f9 (1 : Int32)) &&& (255 : Int32))), .val (.int ((f9 (2 : Int32)) &&& (255 : Int32))), .val (.int (-1 : Int32)), .val (.int (-1 : Int32)), .val (.int (-1 : Int32)), .val (.int (3 : Int32)), .unset] [(.int (0 : Int32))])) st220 ?_
      refine Run.istore (pc' := 115) X220 hx (l' := #[.val (.int p0), .val (.int p1), .val (.int p2), .val (.ref b1), .val (.int (1 : Int32)), .val (.int (2 : Int32)), .val (.ref b199), .val (.int ((f9 (1 : Int32)) &&& (255 : Int32))), .val (.int ((f9 (2 : Int32)) &&& (255 : Int32))), .val (.int (-1 : Int32)), .val (.int (-1 : Int32)), .val (.int (-1 : Int32)), .val (.int (3 : Int32)), .val (.int (0 : Int32))]) (hb hby at_113) rfl rfl ?_
      refine Run.iload (pc' := 117) X220 hx (hb hby at_115) rfl rfl ?_
      refine Run.iloadN (pc' := 118) X220 hx (hb hby at_117) rfl rfl ?_
      refine Run.iload (pc' := 120) X220 hx (hb hby at_118) rfl rfl ?_
      refine Run.iload (pc' := 122) X220 hx (hb hby at_120) rfl rfl ?_
      refine Run.iconst (pc' := 123) (v := (0 : Int32)) X220 hx (hb hby at_122) rfl rfl ?_
      obtain ⟨T221, L221, v221, X221, Q221, st221⟩ := callStatic X220 hx (y := (⟨"com/example/tallyhold/tallyhold/ledger/ArrayInputReadPinLaw", "expected", "(IIII)I"⟩ : MethodName)) (Ls := #[.val (.int p0), .val (.int p1), .val (.int p2), .val (.ref b1), .val (.int (1 : Int32)), .val (.int (2 : Int32)), .val (.ref b199), .val (.int ((f9 (1 : Int32)) &&& (255 : Int32))), .val (.int ((f9 (2 : Int32)) &&& (255 : Int32))), .val (.int (-1 : Int32)), .val (.int (-1 : Int32)), .val (.int (-1 : Int32)), .val (.int (3 : Int32)), .val (.int (0 : Int32))]) (rest := [(.int ((f9 (1 : Int32)) &&& (255 : Int32)))]) (W := 1) (argsL := [(.int p0), (.int (1 : Int32)), (.int (2 : Int32)), (.int (0 : Int32))]) hZ hown (hw _ (List.mem_of_getElem? (i := 45) rfl)) (hw _ (List.mem_of_getElem? (i := 46) rfl)) (hw _ (List.mem_of_getElem? (i := 47) rfl)) (hw _ (List.mem_of_getElem? (i := 48) rfl)) (by decide) e220 (rm8 l Z a0 hw [] p0 (1 : Int32) (2 : Int32) (0 : Int32)  T216.heap n0 Z216 ) (hb hby at_123) (lenOf own_pd5 rfl) (by decide) (by decide) (by rw [hml]; rfl) (Nat.le_of_eq rfl) (by decide) (by decide)
      obtain ⟨hv221, M221, e221⟩ := Q221
      rw [show (own_F8 p0 (1 : Int32) (2 : Int32) (0 : Int32)) = (((p0.toUInt32 >>> ((8 : Int32) &&& 31).toUInt32).toInt32) &&& (255 : Int32)) from rfl] at hv221
      subst hv221
      have N221 := Fr.app N220 M221
      refine Run.back (g' := (mkF m 126 #[.val (.int p0), .val (.int p1), .val (.int p2), .val (.ref b1), .val (.int (1 : Int32)), .val (.int (2 : Int32)), .val (.ref b199), .val (.int ((f9 (1 : Int32)) &&& (255 : Int32))), .val (.int ((f9 (2 : Int32)) &&& (255 : Int32))), .val (.int (-1 : Int32)), .val (.int (-1 : Int32)), .val (.int (-1 : Int32)), .val (.int (3 : Int32)), .val (.int (0 : Int32))] [(.int (((p0.toUInt32 >>> ((8 : Int32) &&& 31).toUInt32).toInt32) &&& (255 : Int32))), (.int ((f9 (1 : Int32)) &&& (255 : Int32)))])) st221 ?_
      refine Run.icmpNo (pc' := 129) X221 hx (hb hby at_126) (teq (own_b1 g1)).2 rfl ?_
      refine Run.iload (pc' := 131) X221 hx (hb hby at_129) rfl rfl ?_
      refine Run.iloadN (pc' := 132) X221 hx (hb hby at_131) rfl rfl ?_
      refine Run.iload (pc' := 134) X221 hx (hb hby at_132) rfl rfl ?_
      refine Run.iload (pc' := 136) X221 hx (hb hby at_134) rfl rfl ?_
      refine Run.iconst (pc' := 137) (v := (1 : Int32)) X221 hx (hb hby at_136) rfl rfl ?_
      obtain ⟨T222, L222, v222, X222, Q222, st222⟩ := callStatic X221 hx (y := (⟨"com/example/tallyhold/tallyhold/ledger/ArrayInputReadPinLaw", "expected", "(IIII)I"⟩ : MethodName)) (Ls := #[.val (.int p0), .val (.int p1), .val (.int p2), .val (.ref b1), .val (.int (1 : Int32)), .val (.int (2 : Int32)), .val (.ref b199), .val (.int ((f9 (1 : Int32)) &&& (255 : Int32))), .val (.int ((f9 (2 : Int32)) &&& (255 : Int32))), .val (.int (-1 : Int32)), .val (.int (-1 : Int32)), .val (.int (-1 : Int32)), .val (.int (3 : Int32)), .val (.int (0 : Int32))]) (rest := [(.int ((f9 (2 : Int32)) &&& (255 : Int32)))]) (W := 1) (argsL := [(.int p0), (.int (1 : Int32)), (.int (2 : Int32)), (.int (1 : Int32))]) hZ hown (hw _ (List.mem_of_getElem? (i := 45) rfl)) (hw _ (List.mem_of_getElem? (i := 46) rfl)) (hw _ (List.mem_of_getElem? (i := 47) rfl)) (hw _ (List.mem_of_getElem? (i := 48) rfl)) (by decide) e221 (rm8 l Z a0 hw [] p0 (1 : Int32) (2 : Int32) (1 : Int32)  T216.heap n0 Z216 ) (hb hby at_137) (lenOf own_pd5 rfl) (by decide) (by decide) (by rw [hml]; rfl) (Nat.le_of_eq rfl) (by decide) (by decide)
      obtain ⟨hv222, M222, e222⟩ := Q222
      rw [show (own_F8 p0 (1 : Int32) (2 : Int32) (1 : Int32)) = (((p0.toUInt32 >>> ((16 : Int32) &&& 31).toUInt32).toInt32) &&& (255 : Int32)) from rfl] at hv222
      subst hv222
      have N222 := Fr.app N221 M222
      refine Run.back (g' := (mkF m 140 #[.val (.int p0), .val (.int p1), .val (.int p2), .val (.ref b1), .val (.int (1 : Int32)), .val (.int (2 : Int32)), .val (.ref b199), .val (.int ((f9 (1 : Int32)) &&& (255 : Int32))), .val (.int ((f9 (2 : Int32)) &&& (255 : Int32))), .val (.int (-1 : Int32)), .val (.int (-1 : Int32)), .val (.int (-1 : Int32)), .val (.int (3 : Int32)), .val (.int (0 : Int32))] [(.int (((p0.toUInt32 >>> ((16 : Int32) &&& 31).toUInt32).toInt32) &&& (255 : Int32))), (.int ((f9 (2 : Int32)) &&& (255 : Int32)))])) st222 ?_
      refine Run.icmpNo (pc' := 143) X222 hx (hb hby at_140) (teq (own_b2 g2)).2 rfl ?_
      refine Run.iload (pc' := 145) X222 hx (hb hby at_143) rfl rfl ?_
      refine Run.iloadN (pc' := 146) X222 hx (hb hby at_145) rfl rfl ?_
      refine Run.iload (pc' := 148) X222 hx (hb hby at_146) rfl rfl ?_
      refine Run.iload (pc' := 150) X222 hx (hb hby at_148) rfl rfl ?_
      refine Run.iconst (pc' := 151) (v := (2 : Int32)) X222 hx (hb hby at_150) rfl rfl ?_
      obtain ⟨T223, L223, v223, X223, Q223, st223⟩ := callStatic X222 hx (y := (⟨"com/example/tallyhold/tallyhold/ledger/ArrayInputReadPinLaw", "expected", "(IIII)I"⟩ : MethodName)) (Ls := #[.val (.int p0), .val (.int p1), .val (.int p2), .val (.ref b1), .val (.int (1 : Int32)), .val (.int (2 : Int32)), .val (.ref b199), .val (.int ((f9 (1 : Int32)) &&& (255 : Int32))), .val (.int ((f9 (2 : Int32)) &&& (255 : Int32))), .val (.int (-1 : Int32)), .val (.int (-1 : Int32)), .val (.int (-1 : Int32)), .val (.int (3 : Int32)), .val (.int (0 : Int32))]) (rest := [(.int (-1 : Int32))]) (W := 1) (argsL := [(.int p0), (.int (1 : Int32)), (.int (2 : Int32)), (.int (2 : Int32))]) hZ hown (hw _ (List.mem_of_getElem? (i := 45) rfl)) (hw _ (List.mem_of_getElem? (i := 46) rfl)) (hw _ (List.mem_of_getElem? (i := 47) rfl)) (hw _ (List.mem_of_getElem? (i := 48) rfl)) (by decide) e222 (rm8 l Z a0 hw [] p0 (1 : Int32) (2 : Int32) (2 : Int32)  T216.heap n0 Z216 ) (hb hby at_151) (lenOf own_pd5 rfl) (by decide) (by decide) (by rw [hml]; rfl) (Nat.le_of_eq rfl) (by decide) (by decide)
      obtain ⟨hv223, M223, e223⟩ := Q223
      rw [show (own_F8 p0 (1 : Int32) (2 : Int32) (2 : Int32)) = (-1 : Int32) from rfl] at hv223
      subst hv223
      have N223 := Fr.app N222 M223
      refine Run.back (g' := (mkF m 154 #[.val (.int p0), .val (.int p1), .val (.int p2), .val (.ref b1), .val (.int (1 : Int32)), .val (.int (2 : Int32)), .val (.ref b199), .val (.int ((f9 (1 : Int32)) &&& (255 : Int32))), .val (.int ((f9 (2 : Int32)) &&& (255 : Int32))), .val (.int (-1 : Int32)), .val (.int (-1 : Int32)), .val (.int (-1 : Int32)), .val (.int (3 : Int32)), .val (.int (0 : Int32))] [(.int (-1 : Int32)), (.int (-1 : Int32))])) st223 ?_
      refine Run.icmpNo (pc' := 157) X223 hx (hb hby at_154) (teq rfl).2 rfl ?_
      refine Run.iload (pc' := 159) X223 hx (hb hby at_157) rfl rfl ?_
      refine Run.iloadN (pc' := 160) X223 hx (hb hby at_159) rfl rfl ?_
      refine Run.iload (pc' := 162) X223 hx (hb hby at_160) rfl rfl ?_
      refine Run.iload (pc' := 164) X223 hx (hb hby at_162) rfl rfl ?_
      refine Run.iconst (pc' := 165) (v := (3 : Int32)) X223 hx (hb hby at_164) rfl rfl ?_
      obtain ⟨T224, L224, v224, X224, Q224, st224⟩ := callStatic X223 hx (y := (⟨"com/example/tallyhold/tallyhold/ledger/ArrayInputReadPinLaw", "expected", "(IIII)I"⟩ : MethodName)) (Ls := #[.val (.int p0), .val (.int p1), .val (.int p2), .val (.ref b1), .val (.int (1 : Int32)), .val (.int (2 : Int32)), .val (.ref b199), .val (.int ((f9 (1 : Int32)) &&& (255 : Int32))), .val (.int ((f9 (2 : Int32)) &&& (255 : Int32))), .val (.int (-1 : Int32)), .val (.int (-1 : Int32)), .val (.int (-1 : Int32)), .val (.int (3 : Int32)), .val (.int (0 : Int32))]) (rest := [(.int (-1 : Int32))]) (W := 1) (argsL := [(.int p0), (.int (1 : Int32)), (.int (2 : Int32)), (.int (3 : Int32))]) hZ hown (hw _ (List.mem_of_getElem? (i := 45) rfl)) (hw _ (List.mem_of_getElem? (i := 46) rfl)) (hw _ (List.mem_of_getElem? (i := 47) rfl)) (hw _ (List.mem_of_getElem? (i := 48) rfl)) (by decide) e223 (rm8 l Z a0 hw [] p0 (1 : Int32) (2 : Int32) (3 : Int32)  T216.heap n0 Z216 ) (hb hby at_165) (lenOf own_pd5 rfl) (by decide) (by decide) (by rw [hml]; rfl) (Nat.le_of_eq rfl) (by decide) (by decide)
      obtain ⟨hv224, M224, e224⟩ := Q224
      rw [show (own_F8 p0 (1 : Int32) (2 : Int32) (3 : Int32)) = (-1 : Int32) from rfl] at hv224
      subst hv224
      have N224 := Fr.app N223 M224
      refine Run.back (g' := (mkF m 168 #[.val (.int p0), .val (.int p1), .val (.int p2), .val (.ref b1), .val (.int (1 : Int32)), .val (.int (2 : Int32)), .val (.ref b199), .val (.int ((f9 (1 : Int32)) &&& (255 : Int32))), .val (.int ((f9 (2 : Int32)) &&& (255 : Int32))), .val (.int (-1 : Int32)), .val (.int (-1 : Int32)), .val (.int (-1 : Int32)), .val (.int (3 : Int32)), .val (.int (0 : Int32))] [(.int (-1 : Int32)), (.int (-1 : Int32))])) st224 ?_
      refine Run.icmpNo (pc' := 171) X224 hx (hb hby at_168) (teq rfl).2 rfl ?_
      refine Run.iload (pc' := 173) X224 hx (hb hby at_171) rfl rfl ?_
      refine Run.iloadN (pc' := 174) X224 hx (hb hby at_173) rfl rfl ?_
      refine Run.iload (pc' := 176) X224 hx (hb hby at_174) rfl rfl ?_
      refine Run.iload (pc' := 178) X224 hx (hb hby at_176) rfl rfl ?_
      refine Run.iconst (pc' := 179) (v := (4 : Int32)) X224 hx (hb hby at_178) rfl rfl ?_
      obtain ⟨T225, L225, v225, X225, Q225, st225⟩ := callStatic X224 hx (y := (⟨"com/example/tallyhold/tallyhold/ledger/ArrayInputReadPinLaw", "expected", "(IIII)I"⟩ : MethodName)) (Ls := #[.val (.int p0), .val (.int p1), .val (.int p2), .val (.ref b1), .val (.int (1 : Int32)), .val (.int (2 : Int32)), .val (.ref b199), .val (.int ((f9 (1 : Int32)) &&& (255 : Int32))), .val (.int ((f9 (2 : Int32)) &&& (255 : Int32))), .val (.int (-1 : Int32)), .val (.int (-1 : Int32)), .val (.int (-1 : Int32)), .val (.int (3 : Int32)), .val (.int (0 : Int32))]) (rest := [(.int (-1 : Int32))]) (W := 1) (argsL := [(.int p0), (.int (1 : Int32)), (.int (2 : Int32)), (.int (4 : Int32))]) hZ hown (hw _ (List.mem_of_getElem? (i := 45) rfl)) (hw _ (List.mem_of_getElem? (i := 46) rfl)) (hw _ (List.mem_of_getElem? (i := 47) rfl)) (hw _ (List.mem_of_getElem? (i := 48) rfl)) (by decide) e224 (rm8 l Z a0 hw [] p0 (1 : Int32) (2 : Int32) (4 : Int32)  T216.heap n0 Z216 ) (hb hby at_179) (lenOf own_pd5 rfl) (by decide) (by decide) (by rw [hml]; rfl) (Nat.le_of_eq rfl) (by decide) (by decide)
      obtain ⟨hv225, M225, e225⟩ := Q225
      rw [show (own_F8 p0 (1 : Int32) (2 : Int32) (4 : Int32)) = (-1 : Int32) from rfl] at hv225
      subst hv225
      have N225 := Fr.app N224 M225
      refine Run.back (g' := (mkF m 182 #[.val (.int p0), .val (.int p1), .val (.int p2), .val (.ref b1), .val (.int (1 : Int32)), .val (.int (2 : Int32)), .val (.ref b199), .val (.int ((f9 (1 : Int32)) &&& (255 : Int32))), .val (.int ((f9 (2 : Int32)) &&& (255 : Int32))), .val (.int (-1 : Int32)), .val (.int (-1 : Int32)), .val (.int (-1 : Int32)), .val (.int (3 : Int32)), .val (.int (0 : Int32))] [(.int (-1 : Int32)), (.int (-1 : Int32))])) st225 ?_
      refine Run.icmpNo (pc' := 185) X225 hx (hb hby at_182) (teq rfl).2 rfl ?_
      refine Run.iload (pc' := 187) X225 hx (hb hby at_185) rfl rfl ?_
      refine Run.iload (pc' := 189) X225 hx (hb hby at_187) rfl rfl ?_
      refine Run.iload (pc' := 191) X225 hx (hb hby at_189) rfl rfl ?_
      refine Run.iadd (pc' := 192) X225 hx (hb hby at_191) rfl ?_
      refine Run.icmpNo (pc' := 195) X225 hx (hb hby at_192) (teq (by decide : (3 : Int32) = ((1 : Int32) + (2 : Int32)))).2 rfl ?_
      refine Run.iload (pc' := 197) X225 hx (hb hby at_195) rfl rfl ?_
      refine Run.ifNo (pc' := 200) X225 hx (hb hby at_197) ((if0 _ _).trans (teq (by decide : (0 : Int32) = (0 : Int32))).2) rfl ?_
      refine Run.iconst (pc' := 201) (v := (1 : Int32)) X225 hx (hb hby at_200) rfl rfl ?_
      refine Run.goto (pc' := 205) X225 hx (hb hby at_201) (by decide) (by decide) ?_
      exact Run.retSmall X225 hx (t := .boolean) (z' := (1 : Int32)) Bd.notSynchronized Bd.returns (by simp) rfl (hb hby at_205) ⟨rfl, N225⟩ (by decide) (by decide)
    · rw [hl]
      obtain ⟨T226, h226, X226, e226, E226, A226, D226, -, st226⟩ := newO X8 hx hZ hown (hw _ (List.mem_of_getElem? (i := 2) rfl)) (hw _ (List.mem_of_getElem? (i := 3) rfl)) (hw _ (List.mem_of_getElem? (i := 4) rfl)) e8 (g := (mkF m 52 #[.val (.int p0), .val (.int p1), .val (.int p2), .val (.ref b1), .val (.int (1 : Int32)), .val (.int (3 : Int32)), .unset, .unset, .unset, .unset, .unset, .unset, .unset, .unset] [])) rfl (hb hby at_52) (by decide) (by decide)
      obtain ⟨b226, g226⟩ : ∃ z, z = h8.size := ⟨_, rfl⟩
      rw [← g226] at A226 D226 st226
      have ne_b1_b226 : b1 ≠ b226 := Nat.ne_of_lt (Nat.lt_of_lt_of_le (A8).lt (Nat.le_of_eq g226.symm))
      have G226 : n0 ≤ b226 := Nat.le_trans Z8 (Nat.le_of_eq g226.symm)
      have Z226 : n0 ≤ h226.size := Nat.le_trans Z8 E226.1
      have fq227 := Ints.ext E226 A8
      have F226_bytes : Fld Z h226 b226 "com/example/tallyhold/tallyhold/ledger/ArrayInput" "bytes" "[B" .null := D226 (Or.inr (hw _ (List.mem_of_getElem? (i := 25) rfl))) (ty := (.array .byte)) (by decide)
      have F226_at : Fld Z h226 b226 "com/example/tallyhold/tallyhold/ledger/ArrayInput" "at" "I" (.int (0 : Int32)) := D226 (Or.inl (hw _ (List.mem_of_getElem? (i := 27) rfl))) (ty := .int) (by decide)
      have F226_end : Fld Z h226 b226 "com/example/tallyhold/tallyhold/ledger/ArrayInput" "end" "I" (.int (0 : Int32)) := D226 (Or.inr (hw _ (List.mem_of_getElem? (i := 29) rfl))) (ty := .int) (by decide)
      refine Run.back (g' := (mkF m 55 #[.val (.int p0), .val (.int p1), .val (.int p2), .val (.ref b1), .val (.int (1 : Int32)), .val (.int (3 : Int32)), .unset, .unset, .unset, .unset, .unset, .unset, .unset, .unset] [(.ref b226)])) st226 ?_
      refine Run.dup (pc' := 56) X226 hx (hb hby at_55) rfl rfl ?_
      refine Run.aloadN (pc' := 57) X226 hx (hb hby at_56) rfl rfl ?_
      refine Run.iload (pc' := 59) X226 hx (hb hby at_57) rfl rfl ?_
      refine Run.iload (pc' := 61) X226 hx (hb hby at_59) rfl rfl ?_
      obtain ⟨T228, L228, v228, X228, Q228, st228⟩ := callSpecial X226 hx (y := (⟨"com/example/tallyhold/tallyhold/ledger/ArrayInput", "<init>", "([BII)V"⟩ : MethodName)) (a := b226) (Ls := #[.val (.int p0), .val (.int p1), .val (.int p2), .val (.ref b1), .val (.int (1 : Int32)), .val (.int (3 : Int32)), .unset, .unset, .unset, .unset, .unset, .unset, .unset, .unset]) (rest := [(.ref b226)]) (W := 1) (argsL := [(.ref b1), (.int (1 : Int32)), (.int (3 : Int32))]) rfl hZ hown (hw _ (List.mem_of_getElem? (i := 5) rfl)) (hw _ (List.mem_of_getElem? (i := 6) rfl)) (hw _ (List.mem_of_getElem? (i := 4) rfl)) (hw _ (List.mem_of_getElem? (i := 7) rfl)) (by decide) e226 (rm4 l Z a0 hw [] b226 b1 (1 : Int32) (3 : Int32) f9 h226 n0 Z226 A226 F226_bytes F226_at F226_end G226 fq227 ne_b1_b226 (by decide) (by decide)) (hb hby at_61) (lenOf own_pd3 rfl) (by decide) (by decide) (by rw [hml]; rfl) (Nat.le_of_eq rfl) (by decide) (by decide)
      obtain ⟨rfl, M228, K228, E228, F228_bytes, F228_at, F228_end⟩ := Q228
      rw [show ((1 : Int32) + (3 : Int32)) = (4 : Int32) from rfl] at F228_end
      have N228 := Fr.app N8 M228
      have fq229 := Ints.keep fq227 K228 (ninS ne_b1_b226 nin0)
      have fq230 := Exa.keep A226 K228
      have Z228 : n0 ≤ T228.heap.size := Nat.le_trans Z226 K228.1
      refine Run.back (g' := (mkF m 64 #[.val (.int p0), .val (.int p1), .val (.int p2), .val (.ref b1), .val (.int (1 : Int32)), .val (.int (3 : Int32)), .unset, .unset, .unset, .unset, .unset, .unset, .unset, .unset] [(.ref b226)])) st228 ?_
      refine Run.astore (pc' := 66) X228 hx (l' := #[.val (.int p0), .val (.int p1), .val (.int p2), .val (.ref b1), .val (.int (1 : Int32)), .val (.int (3 : Int32)), .val (.ref b226), .unset, .unset, .unset, .unset, .unset, .unset, .unset]) (hb hby at_64) rfl rfl ?_
      refine Run.aload (pc' := 68) X228 hx (hb hby at_66) rfl rfl ?_
      obtain ⟨T231, L231, v231, X231, Q231, st231⟩ := callVirtual X228 hx (y := (⟨"com/example/tallyhold/tallyhold/ledger/ArrayInput", "read", "()I"⟩ : MethodName)) (z := (⟨"com/example/tallyhold/tallyhold/ledger/ArrayInput", "read", "()I"⟩ : MethodName)) (C := "com/example/tallyhold/tallyhold/ledger/ArrayInput") (a := b226) (Ls := #[.val (.int p0), .val (.int p1), .val (.int p2), .val (.ref b1), .val (.int (1 : Int32)), .val (.int (3 : Int32)), .val (.ref b226), .unset, .unset, .unset, .unset, .unset, .unset, .unset]) (rest := []) (W := 0) (argsL := []) hZ hown (hw _ (List.mem_of_getElem? (i := 30) rfl)) (hw _ (List.mem_of_getElem? (i := 31) rfl)) (notFace_of_selects (args := #[]) (mvT hZ (hw _ (List.mem_of_getElem? (i := 33) rfl)))) (hw _ (List.mem_of_getElem? (i := 33) rfl)) (hw _ (List.mem_of_getElem? (i := 32) rfl)) (hw _ (List.mem_of_getElem? (i := 4) rfl)) (hw _ (List.mem_of_getElem? (i := 34) rfl)) (by decide) rfl E228 (rm5 l Z a0 hw [] b226 b1 (1 : Int32) (4 : Int32) f9 T228.heap n0 Z228 E228 F228_bytes F228_at F228_end G226 fq229 ne_b1_b226 (by decide) (by decide)) (hb hby at_68) (lenOf own_pd4 rfl) (by decide) (by decide) (by rw [hml]; rfl) (Nat.le_of_eq rfl) (by decide) (by decide)
      obtain ⟨hv231, M231, K231, E231, F231_bytes, F231_at, F231_end⟩ := Q231
      rw [show (own_R (1 : Int32) (4 : Int32) f9) = ((f9 (1 : Int32)) &&& (255 : Int32)) from rfl] at hv231
      subst hv231
      rw [show (own_N (1 : Int32) (4 : Int32)) = (2 : Int32) from rfl] at F231_at
      have N231 := Fr.app N228 M231
      have fq232 := Ints.keep fq229 K231 (ninS ne_b1_b226 nin0)
      have fq233 := Exa.keep E228 K231
      have Z231 : n0 ≤ T231.heap.size := Nat.le_trans Z228 K231.1
      refine Run.back (g' := (mkF m 71 #[.val (.int p0), .val (.int p1), .val (.int p2), .val (.ref b1), .val (.int (1 : Int32)), .val (.int (3 : Int32)), .val (.ref b226), .unset, .unset, .unset, .unset, .unset, .unset, .unset] [(.int ((f9 (1 : Int32)) &&& (255 : Int32)))])) st231 ?_
      refine Run.istore (pc' := 73) X231 hx (l' := #[.val (.int p0), .val (.int p1), .val (.int p2), .val (.ref b1), .val (.int (1 : Int32)), .val (.int (3 : Int32)), .val (.ref b226), .val (.int ((f9 (1 : Int32)) &&& (255 : Int32))), .unset, .unset, .unset, .unset, .unset, .unset]) (hb hby at_71) rfl rfl ?_
      refine Run.aload (pc' := 75) X231 hx (hb hby at_73) rfl rfl ?_
      obtain ⟨T234, L234, v234, X234, Q234, st234⟩ := callVirtual X231 hx (y := (⟨"com/example/tallyhold/tallyhold/ledger/ArrayInput", "read", "()I"⟩ : MethodName)) (z := (⟨"com/example/tallyhold/tallyhold/ledger/ArrayInput", "read", "()I"⟩ : MethodName)) (C := "com/example/tallyhold/tallyhold/ledger/ArrayInput") (a := b226) (Ls := #[.val (.int p0), .val (.int p1), .val (.int p2), .val (.ref b1), .val (.int (1 : Int32)), .val (.int (3 : Int32)), .val (.ref b226), .val (.int ((f9 (1 : Int32)) &&& (255 : Int32))), .unset, .unset, .unset, .unset, .unset, .unset]) (rest := []) (W := 0) (argsL := []) hZ hown (hw _ (List.mem_of_getElem? (i := 30) rfl)) (hw _ (List.mem_of_getElem? (i := 31) rfl)) (notFace_of_selects (args := #[]) (mvT hZ (hw _ (List.mem_of_getElem? (i := 33) rfl)))) (hw _ (List.mem_of_getElem? (i := 33) rfl)) (hw _ (List.mem_of_getElem? (i := 32) rfl)) (hw _ (List.mem_of_getElem? (i := 4) rfl)) (hw _ (List.mem_of_getElem? (i := 34) rfl)) (by decide) rfl E231 (rm5 l Z a0 hw [] b226 b1 (2 : Int32) (4 : Int32) f9 T231.heap n0 Z231 E231 F231_bytes F231_at F231_end G226 fq232 ne_b1_b226 (by decide) (by decide)) (hb hby at_75) (lenOf own_pd4 rfl) (by decide) (by decide) (by rw [hml]; rfl) (Nat.le_of_eq rfl) (by decide) (by decide)
      obtain ⟨hv234, M234, K234, E234, F234_bytes, F234_at, F234_end⟩ := Q234
      rw [show (own_R (2 : Int32) (4 : Int32) f9) = ((f9 (2 : Int32)) &&& (255 : Int32)) from rfl] at hv234
      subst hv234
      rw [show (own_N (2 : Int32) (4 : Int32)) = (3 : Int32) from rfl] at F234_at
      have N234 := Fr.app N231 M234
      have fq235 := Ints.keep fq232 K234 (ninS ne_b1_b226 nin0)
      have fq236 := Exa.keep E231 K234
      have Z234 : n0 ≤ T234.heap.size := Nat.le_trans Z231 K234.1
      refine Run.back (g' := (mkF m 78 #[.val (.int p0), .val (.int p1), .val (.int p2), .val (.ref b1), .val (.int (1 : Int32)), .val (.int (3 : Int32)), .val (.ref b226), .val (.int ((f9 (1 : Int32)) &&& (255 : Int32))), .unset, .unset, .unset, .unset, .unset, .unset] [(.int ((f9 (2 : Int32)) &&& (255 : Int32)))])) st234 ?_
      refine Run.istore (pc' := 80) X234 hx (l' := #[.val (.int p0), .val (.int p1), .val (.int p2), .val (.ref b1), .val (.int (1 : Int32)), .val (.int (3 : Int32)), .val (.ref b226), .val (.int ((f9 (1 : Int32)) &&& (255 : Int32))), .val (.int ((f9 (2 : Int32)) &&& (255 : Int32))), .unset, .unset, .unset, .unset, .unset]) (hb hby at_78) rfl rfl ?_
      refine Run.aload (pc' := 82) X234 hx (hb hby at_80) rfl rfl ?_
      obtain ⟨T237, L237, v237, X237, Q237, st237⟩ := callVirtual X234 hx (y := (⟨"com/example/tallyhold/tallyhold/ledger/ArrayInput", "read", "()I"⟩ : MethodName)) (z := (⟨"com/example/tallyhold/tallyhold/ledger/ArrayInput", "read", "()I"⟩ : MethodName)) (C := "com/example/tallyhold/tallyhold/ledger/ArrayInput") (a := b226) (Ls := #[.val (.int p0), .val (.int p1), .val (.int p2), .val (.ref b1), .val (.int (1 : Int32)), .val (.int (3 : Int32)), .val (.ref b226), .val (.int ((f9 (1 : Int32)) &&& (255 : Int32))), .val (.int ((f9 (2 : Int32)) &&& (255 : Int32))), .unset, .unset, .unset, .unset, .unset]) (rest := []) (W := 0) (argsL := []) hZ hown (hw _ (List.mem_of_getElem? (i := 30) rfl)) (hw _ (List.mem_of_getElem? (i := 31) rfl)) (notFace_of_selects (args := #[]) (mvT hZ (hw _ (List.mem_of_getElem? (i := 33) rfl)))) (hw _ (List.mem_of_getElem? (i := 33) rfl)) (hw _ (List.mem_of_getElem? (i := 32) rfl)) (hw _ (List.mem_of_getElem? (i := 4) rfl)) (hw _ (List.mem_of_getElem? (i := 34) rfl)) (by decide) rfl E234 (rm5 l Z a0 hw [] b226 b1 (3 : Int32) (4 : Int32) f9 T234.heap n0 Z234 E234 F234_bytes F234_at F234_end G226 fq235 ne_b1_b226 (by decide) (by decide)) (hb hby at_82) (lenOf own_pd4 rfl) (by decide) (by decide) (by rw [hml]; rfl) (Nat.le_of_eq rfl) (by decide) (by decide)
      obtain ⟨hv237, M237, K237, E237, F237_bytes, F237_at, F237_end⟩ := Q237
      rw [show (own_R (3 : Int32) (4 : Int32) f9) = ((f9 (3 : Int32)) &&& (255 : Int32)) from rfl] at hv237
      subst hv237
      rw [show (own_N (3 : Int32) (4 : Int32)) = (4 : Int32) from rfl] at F237_at
      have N237 := Fr.app N234 M237
      have fq238 := Ints.keep fq235 K237 (ninS ne_b1_b226 nin0)
      have fq239 := Exa.keep E234 K237
      have Z237 : n0 ≤ T237.heap.size := Nat.le_trans Z234 K237.1
      refine Run.back (g' := (mkF m 85 #[.val (.int p0), .val (.int p1), .val (.int p2), .val (.ref b1), .val (.int (1 : Int32)), .val (.int (3 : Int32)), .val (.ref b226), .val (.int ((f9 (1 : Int32)) &&& (255 : Int32))), .val (.int ((f9 (2 : Int32)) &&& (255 : Int32))), .unset, .unset, .unset, .unset, .unset] [(.int ((f9 (3 : Int32)) &&& (255 : Int32)))])) st237 ?_
      refine Run.istore (pc' := 87) X237 hx (l' := #[.val (.int p0), .val (.int p1), .val (.int p2), .val (.ref b1), .val (.int (1 : Int32)), .val (.int (3 : Int32)), .val (.ref b226), .val (.int ((f9 (1 : Int32)) &&& (255 : Int32))), .val (.int ((f9 (2 : Int32)) &&& (255 : Int32))), .val (.int ((f9 (3 : Int32)) &&& (255 : Int32))), .unset, .unset, .unset, .unset]) (hb hby at_85) rfl rfl ?_
      refine Run.aload (pc' := 89) X237 hx (hb hby at_87) rfl rfl ?_
      obtain ⟨T240, L240, v240, X240, Q240, st240⟩ := callVirtual X237 hx (y := (⟨"com/example/tallyhold/tallyhold/ledger/ArrayInput", "read", "()I"⟩ : MethodName)) (z := (⟨"com/example/tallyhold/tallyhold/ledger/ArrayInput", "read", "()I"⟩ : MethodName)) (C := "com/example/tallyhold/tallyhold/ledger/ArrayInput") (a := b226) (Ls := #[.val (.int p0), .val (.int p1), .val (.int p2), .val (.ref b1), .val (.int (1 : Int32)), .val (.int (3 : Int32)), .val (.ref b226), .val (.int ((f9 (1 : Int32)) &&& (255 : Int32))), .val (.int ((f9 (2 : Int32)) &&& (255 : Int32))), .val (.int ((f9 (3 : Int32)) &&& (255 : Int32))), .unset, .unset, .unset, .unset]) (rest := []) (W := 0) (argsL := []) hZ hown (hw _ (List.mem_of_getElem? (i := 30) rfl)) (hw _ (List.mem_of_getElem? (i := 31) rfl)) (notFace_of_selects (args := #[]) (mvT hZ (hw _ (List.mem_of_getElem? (i := 33) rfl)))) (hw _ (List.mem_of_getElem? (i := 33) rfl)) (hw _ (List.mem_of_getElem? (i := 32) rfl)) (hw _ (List.mem_of_getElem? (i := 4) rfl)) (hw _ (List.mem_of_getElem? (i := 34) rfl)) (by decide) rfl E237 (rm5 l Z a0 hw [] b226 b1 (4 : Int32) (4 : Int32) f9 T237.heap n0 Z237 E237 F237_bytes F237_at F237_end G226 fq238 ne_b1_b226 (by decide) (by decide)) (hb hby at_89) (lenOf own_pd4 rfl) (by decide) (by decide) (by rw [hml]; rfl) (Nat.le_of_eq rfl) (by decide) (by decide)
      obtain ⟨hv240, M240, K240, E240, F240_bytes, F240_at, F240_end⟩ := Q240
      rw [show (own_R (4 : Int32) (4 : Int32) f9) = (-1 : Int32) from rfl] at hv240
      subst hv240
      rw [show (own_N (4 : Int32) (4 : Int32)) = (4 : Int32) from rfl] at F240_at
      have N240 := Fr.app N237 M240
      have fq241 := Ints.keep fq238 K240 (ninS ne_b1_b226 nin0)
      have fq242 := Exa.keep E237 K240
      have Z240 : n0 ≤ T240.heap.size := Nat.le_trans Z237 K240.1
      refine Run.back (g' := (mkF m 92 #[.val (.int p0), .val (.int p1), .val (.int p2), .val (.ref b1), .val (.int (1 : Int32)), .val (.int (3 : Int32)), .val (.ref b226), .val (.int ((f9 (1 : Int32)) &&& (255 : Int32))), .val (.int ((f9 (2 : Int32)) &&& (255 : Int32))), .val (.int ((f9 (3 : Int32)) &&& (255 : Int32))), .unset, .unset, .unset, .unset] [(.int (-1 : Int32))])) st240 ?_
      refine Run.istore (pc' := 94) X240 hx (l' := #[.val (.int p0), .val (.int p1), .val (.int p2), .val (.ref b1), .val (.int (1 : Int32)), .val (.int (3 : Int32)), .val (.ref b226), .val (.int ((f9 (1 : Int32)) &&& (255 : Int32))), .val (.int ((f9 (2 : Int32)) &&& (255 : Int32))), .val (.int ((f9 (3 : Int32)) &&& (255 : Int32))), .val (.int (-1 : Int32)), .unset, .unset, .unset]) (hb hby at_92) rfl rfl ?_
      refine Run.aload (pc' := 96) X240 hx (hb hby at_94) rfl rfl ?_
      obtain ⟨T243, L243, v243, X243, Q243, st243⟩ := callVirtual X240 hx (y := (⟨"com/example/tallyhold/tallyhold/ledger/ArrayInput", "read", "()I"⟩ : MethodName)) (z := (⟨"com/example/tallyhold/tallyhold/ledger/ArrayInput", "read", "()I"⟩ : MethodName)) (C := "com/example/tallyhold/tallyhold/ledger/ArrayInput") (a := b226) (Ls := #[.val (.int p0), .val (.int p1), .val (.int p2), .val (.ref b1), .val (.int (1 : Int32)), .val (.int (3 : Int32)), .val (.ref b226), .val (.int ((f9 (1 : Int32)) &&& (255 : Int32))), .val (.int ((f9 (2 : Int32)) &&& (255 : Int32))), .val (.int ((f9 (3 : Int32)) &&& (255 : Int32))), .val (.int (-1 : Int32)), .unset, .unset, .unset]) (rest := []) (W := 0) (argsL := []) hZ hown (hw _ (List.mem_of_getElem? (i := 30) rfl)) (hw _ (List.mem_of_getElem? (i := 31) rfl)) (notFace_of_selects (args := #[]) (mvT hZ (hw _ (List.mem_of_getElem? (i := 33) rfl)))) (hw _ (List.mem_of_getElem? (i := 33) rfl)) (hw _ (List.mem_of_getElem? (i := 32) rfl)) (hw _ (List.mem_of_getElem? (i := 4) rfl)) (hw _ (List.mem_of_getElem? (i := 34) rfl)) (by decide) rfl E240 (rm5 l Z a0 hw [] b226 b1 (4 : Int32) (4 : Int32) f9 T240.heap n0 Z240 E240 F240_bytes F240_at F240_end G226 fq241 ne_b1_b226 (by decide) (by decide)) (hb hby at_96) (lenOf own_pd4 rfl) (by decide) (by decide) (by rw [hml]; rfl) (Nat.le_of_eq rfl) (by decide) (by decide)
      obtain ⟨hv243, M243, K243, E243, F243_bytes, F243_at, F243_end⟩ := Q243
      rw [show (own_R (4 : Int32) (4 : Int32) f9) = (-1 : Int32) from rfl] at hv243
      subst hv243
      rw [show (own_N (4 : Int32) (4 : Int32)) = (4 : Int32) from rfl] at F243_at
      have N243 := Fr.app N240 M243
      have fq244 := Ints.keep fq241 K243 (ninS ne_b1_b226 nin0)
      have fq245 := Exa.keep E240 K243
      have Z243 : n0 ≤ T243.heap.size := Nat.le_trans Z240 K243.1
      refine Run.back (g' := (mkF m 99 #[.val (.int p0), .val (.int p1), .val (.int p2), .val (.ref b1), .val (.int (1 : Int32)), .val (.int (3 : Int32)), .val (.ref b226), .val (.int ((f9 (1 : Int32)) &&& (255 : Int32))), .val (.int ((f9 (2 : Int32)) &&& (255 : Int32))), .val (.int ((f9 (3 : Int32)) &&& (255 : Int32))), .val (.int (-1 : Int32)), .unset, .unset, .unset] [(.int (-1 : Int32))])) st243 ?_
      refine Run.istore (pc' := 101) X243 hx (l' := #[.val (.int p0), .val (.int p1), .val (.int p2), .val (.ref b1), .val (.int (1 : Int32)), .val (.int (3 : Int32)), .val (.ref b226), .val (.int ((f9 (1 : Int32)) &&& (255 : Int32))), .val (.int ((f9 (2 : Int32)) &&& (255 : Int32))), .val (.int ((f9 (3 : Int32)) &&& (255 : Int32))), .val (.int (-1 : Int32)), .val (.int (-1 : Int32)), .unset, .unset]) (hb hby at_99) rfl rfl ?_
      refine Run.aload (pc' := 103) X243 hx (hb hby at_101) rfl rfl ?_
      obtain ⟨T246, L246, v246, X246, Q246, st246⟩ := callVirtual X243 hx (y := (⟨"com/example/tallyhold/tallyhold/ledger/ArrayInput", "position", "()I"⟩ : MethodName)) (z := (⟨"com/example/tallyhold/tallyhold/ledger/ArrayInput", "position", "()I"⟩ : MethodName)) (C := "com/example/tallyhold/tallyhold/ledger/ArrayInput") (a := b226) (Ls := #[.val (.int p0), .val (.int p1), .val (.int p2), .val (.ref b1), .val (.int (1 : Int32)), .val (.int (3 : Int32)), .val (.ref b226), .val (.int ((f9 (1 : Int32)) &&& (255 : Int32))), .val (.int ((f9 (2 : Int32)) &&& (255 : Int32))), .val (.int ((f9 (3 : Int32)) &&& (255 : Int32))), .val (.int (-1 : Int32)), .val (.int (-1 : Int32)), .unset, .unset]) (rest := []) (W := 0) (argsL := []) hZ hown (hw _ (List.mem_of_getElem? (i := 35) rfl)) (hw _ (List.mem_of_getElem? (i := 36) rfl)) (notFace_of_selects (args := #[]) (mvT hZ (hw _ (List.mem_of_getElem? (i := 38) rfl)))) (hw _ (List.mem_of_getElem? (i := 38) rfl)) (hw _ (List.mem_of_getElem? (i := 37) rfl)) (hw _ (List.mem_of_getElem? (i := 4) rfl)) (hw _ (List.mem_of_getElem? (i := 39) rfl)) (by decide) rfl E243 (rm6 l Z a0 hw [] b226 (4 : Int32) T243.heap n0 Z243 F243_at) (hb hby at_103) (lenOf own_pd4 rfl) (by decide) (by decide) (by rw [hml]; rfl) (Nat.le_of_eq rfl) (by decide) (by decide)
      obtain ⟨hv246, M246, e246⟩ := Q246
      rw [show (own_F6 b226 (4 : Int32)) = (4 : Int32) from rfl] at hv246
      subst hv246
      have N246 := Fr.app N243 M246
      refine Run.back (g' := (mkF m 106 #[.val (.int p0), .val (.int p1), .val (.int p2), .val (.ref b1), .val (.int (1 : Int32)), .val (.int (3 : Int32)), .val (.ref b226), .val (.int ((f9 (1 : Int32)) &&& (255 : Int32))), .val (.int ((f9 (2 : Int32)) &&& (255 : Int32))), .val (.int ((f9 (3 : Int32)) &&& (255 : Int32))), .val (.int (-1 : Int32)), .val (.int (-1 : Int32)), .unset, .unset] [(.int (4 : Int32))])) st246 ?_
      refine Run.istore (pc' := 108) X246 hx (l' := #[.val (.int p0), .val (.int p1), .val (.int p2), .val (.ref b1), .val (.int (1 : Int32)), .val (.int (3 : Int32)), .val (.ref b226), .val (.int ((f9 (1 : Int32)) &&& (255 : Int32))), .val (.int ((f9 (2 : Int32)) &&& (255 : Int32))), .val (.int ((f9 (3 : Int32)) &&& (255 : Int32))), .val (.int (-1 : Int32)), .val (.int (-1 : Int32)), .val (.int (4 : Int32)), .unset]) (hb hby at_106) rfl rfl ?_
      refine Run.aload (pc' := 110) X246 hx (hb hby at_108) rfl rfl ?_
      obtain ⟨T247, L247, v247, X247, Q247, st247⟩ := callVirtual X246 hx (y := (⟨"com/example/tallyhold/tallyhold/ledger/ArrayInput", "available", "()I"⟩ : MethodName)) (z := (⟨"com/example/tallyhold/tallyhold/ledger/ArrayInput", "available", "()I"⟩ : MethodName)) (C := "com/example/tallyhold/tallyhold/ledger/ArrayInput") (a := b226) (Ls := #[.val (.int p0), .val (.int p1), .val (.int p2), .val (.ref b1), .val (.int (1 : Int32)), .val (.int (3 : Int32)), .val (.ref b226), .val (.int ((f9 (1 : Int32)) &&& (255 : Int32))), .val (.int ((f9 (2 : Int32)) &&& (255 : Int32))), .val (.int ((f9 (3 : Int32)) &&& (255 : Int32))), .val (.int (-1 : Int32)), .val (.int (-1 : Int32)), .val (.int (4 : Int32)), .unset]) (rest := []) (W := 0) (argsL := []) hZ hown (hw _ (List.mem_of_getElem? (i := 40) rfl)) (hw _ (List.mem_of_getElem? (i := 41) rfl)) (notFace_of_selects (args := #[]) (mvT hZ (hw _ (List.mem_of_getElem? (i := 43) rfl)))) (hw _ (List.mem_of_getElem? (i := 43) rfl)) (hw _ (List.mem_of_getElem? (i := 42) rfl)) (hw _ (List.mem_of_getElem? (i := 4) rfl)) (hw _ (List.mem_of_getElem? (i := 44) rfl)) (by decide) e246 E243 (rm7 l Z a0 hw [] b226 (4 : Int32) (4 : Int32) T243.heap n0 Z243 F243_at F243_end) (hb hby at_110) (lenOf own_pd4 rfl) (by decide) (by decide) (by rw [hml]; rfl) (Nat.le_of_eq rfl) (by decide) (by decide)
      obtain ⟨hv247, M247, e247⟩ := Q247
      rw [show (own_F7 b226 (4 : Int32) (4 : Int32)) = (0 : Int32) from rfl] at hv247
      subst hv247
      have N247 := Fr.app N246 M247
      refine Run.back (g' := (mkF m 113 #[.val (.int p0), .val (.int p1), .val (.int p2), .val (.ref b1), .val (.int (1 : Int32)), .val (.int (3 : Int32)), .val (.ref b226), .val (.int ((f9 (1 : Int32)) &&& (255 : Int32))), .val (.int ((f9 (2 : Int32)) &&& (255 : Int32))), .val (.int ((f9 (3 : Int32)) &&& (255 : Int32))), .val (.int (-1 : Int32)), .val (.int (-1 : Int32)), .val (.int (4 : Int32)), .unset] [(.int (0 : Int32))])) st247 ?_
      refine Run.istore (pc' := 115) X247 hx (l' := #[.val (.int p0), .val (.int p1), .val (.int p2), .val (.ref b1), .val (.int (1 : Int32)), .val (.int (3 : Int32)), .val (.ref b226), .val (.int ((f9 (1 : Int32)) &&& (255 : Int32))), .val (.int ((f9 (2 : Int32)) &&& (255 : Int32))), .val (.int ((f9 (3 : Int32)) &&& (255 : Int32))), .val (.int (-1 : Int32)), .val (.int (-1 : Int32)), .val (.int (4 : Int32)), .val (.int (0 : Int32))]) (hb hby at_113) rfl rfl ?_
      refine Run.iload (pc' := 117) X247 hx (hb hby at_115) rfl rfl ?_
      refine Run.iloadN (pc' := 118) X247 hx (hb hby at_117) rfl rfl ?_
      refine Run.iload (pc' := 120) X247 hx (hb hby at_118) rfl rfl ?_
      refine Run.iload (pc' := 122) X247 hx (hb hby at_120) rfl rfl ?_
      refine Run.iconst (pc' := 123) (v := (0 : Int32)) X247 hx (hb hby at_122) rfl rfl ?_
      obtain ⟨T248, L248, v248, X248, Q248, st248⟩ := callStatic X247 hx (y := (⟨"com/example/tallyhold/tallyhold/ledger/ArrayInputReadPinLaw", "expected", "(IIII)I"⟩ : MethodName)) (Ls := #[.val (.int p0), .val (.int p1), .val (.int p2), .val (.ref b1), .val (.int (1 : Int32)), .val (.int (3 : Int32)), .val (.ref b226), .val (.int ((f9 (1 : Int32)) &&& (255 : Int32))), .val (.int ((f9 (2 : Int32)) &&& (255 : Int32))), .val (.int ((f9 (3 : Int32)) &&& (255 : Int32))), .val (.int (-1 : Int32)), .val (.int (-1 : Int32)), .val (.int (4 : Int32)), .val (.int (0 : Int32))]) (rest := [(.int ((f9 (1 : Int32)) &&& (255 : Int32)))]) (W := 1) (argsL := [(.int p0), (.int (1 : Int32)), (.int (3 : Int32)), (.int (0 : Int32))]) hZ hown (hw _ (List.mem_of_getElem? (i := 45) rfl)) (hw _ (List.mem_of_getElem? (i := 46) rfl)) (hw _ (List.mem_of_getElem? (i := 47) rfl)) (hw _ (List.mem_of_getElem? (i := 48) rfl)) (by decide) e247 (rm8 l Z a0 hw [] p0 (1 : Int32) (3 : Int32) (0 : Int32)  T243.heap n0 Z243 ) (hb hby at_123) (lenOf own_pd5 rfl) (by decide) (by decide) (by rw [hml]; rfl) (Nat.le_of_eq rfl) (by decide) (by decide)
      obtain ⟨hv248, M248, e248⟩ := Q248
      rw [show (own_F8 p0 (1 : Int32) (3 : Int32) (0 : Int32)) = (((p0.toUInt32 >>> ((8 : Int32) &&& 31).toUInt32).toInt32) &&& (255 : Int32)) from rfl] at hv248
      subst hv248
      have N248 := Fr.app N247 M248
      refine Run.back (g' := (mkF m 126 #[.val (.int p0), .val (.int p1), .val (.int p2), .val (.ref b1), .val (.int (1 : Int32)), .val (.int (3 : Int32)), .val (.ref b226), .val (.int ((f9 (1 : Int32)) &&& (255 : Int32))), .val (.int ((f9 (2 : Int32)) &&& (255 : Int32))), .val (.int ((f9 (3 : Int32)) &&& (255 : Int32))), .val (.int (-1 : Int32)), .val (.int (-1 : Int32)), .val (.int (4 : Int32)), .val (.int (0 : Int32))] [(.int (((p0.toUInt32 >>> ((8 : Int32) &&& 31).toUInt32).toInt32) &&& (255 : Int32))), (.int ((f9 (1 : Int32)) &&& (255 : Int32)))])) st248 ?_
      refine Run.icmpNo (pc' := 129) X248 hx (hb hby at_126) (teq (own_b1 g1)).2 rfl ?_
      refine Run.iload (pc' := 131) X248 hx (hb hby at_129) rfl rfl ?_
      refine Run.iloadN (pc' := 132) X248 hx (hb hby at_131) rfl rfl ?_
      refine Run.iload (pc' := 134) X248 hx (hb hby at_132) rfl rfl ?_
      refine Run.iload (pc' := 136) X248 hx (hb hby at_134) rfl rfl ?_
      refine Run.iconst (pc' := 137) (v := (1 : Int32)) X248 hx (hb hby at_136) rfl rfl ?_
      obtain ⟨T249, L249, v249, X249, Q249, st249⟩ := callStatic X248 hx (y := (⟨"com/example/tallyhold/tallyhold/ledger/ArrayInputReadPinLaw", "expected", "(IIII)I"⟩ : MethodName)) (Ls := #[.val (.int p0), .val (.int p1), .val (.int p2), .val (.ref b1), .val (.int (1 : Int32)), .val (.int (3 : Int32)), .val (.ref b226), .val (.int ((f9 (1 : Int32)) &&& (255 : Int32))), .val (.int ((f9 (2 : Int32)) &&& (255 : Int32))), .val (.int ((f9 (3 : Int32)) &&& (255 : Int32))), .val (.int (-1 : Int32)), .val (.int (-1 : Int32)), .val (.int (4 : Int32)), .val (.int (0 : Int32))]) (rest := [(.int ((f9 (2 : Int32)) &&& (255 : Int32)))]) (W := 1) (argsL := [(.int p0), (.int (1 : Int32)), (.int (3 : Int32)), (.int (1 : Int32))]) hZ hown (hw _ (List.mem_of_getElem? (i := 45) rfl)) (hw _ (List.mem_of_getElem? (i := 46) rfl)) (hw _ (List.mem_of_getElem? (i := 47) rfl)) (hw _ (List.mem_of_getElem? (i := 48) rfl)) (by decide) e248 (rm8 l Z a0 hw [] p0 (1 : Int32) (3 : Int32) (1 : Int32)  T243.heap n0 Z243 ) (hb hby at_137) (lenOf own_pd5 rfl) (by decide) (by decide) (by rw [hml]; rfl) (Nat.le_of_eq rfl) (by decide) (by decide)
      obtain ⟨hv249, M249, e249⟩ := Q249
      rw [show (own_F8 p0 (1 : Int32) (3 : Int32) (1 : Int32)) = (((p0.toUInt32 >>> ((16 : Int32) &&& 31).toUInt32).toInt32) &&& (255 : Int32)) from rfl] at hv249
      subst hv249
      have N249 := Fr.app N248 M249
      refine Run.back (g' := (mkF m 140 #[.val (.int p0), .val (.int p1), .val (.int p2), .val (.ref b1), .val (.int (1 : Int32)), .val (.int (3 : Int32)), .val (.ref b226), .val (.int ((f9 (1 : Int32)) &&& (255 : Int32))), .val (.int ((f9 (2 : Int32)) &&& (255 : Int32))), .val (.int ((f9 (3 : Int32)) &&& (255 : Int32))), .val (.int (-1 : Int32)), .val (.int (-1 : Int32)), .val (.int (4 : Int32)), .val (.int (0 : Int32))] [(.int (((p0.toUInt32 >>> ((16 : Int32) &&& 31).toUInt32).toInt32) &&& (255 : Int32))), (.int ((f9 (2 : Int32)) &&& (255 : Int32)))])) st249 ?_
      refine Run.icmpNo (pc' := 143) X249 hx (hb hby at_140) (teq (own_b2 g2)).2 rfl ?_
      refine Run.iload (pc' := 145) X249 hx (hb hby at_143) rfl rfl ?_
      refine Run.iloadN (pc' := 146) X249 hx (hb hby at_145) rfl rfl ?_
      refine Run.iload (pc' := 148) X249 hx (hb hby at_146) rfl rfl ?_
      refine Run.iload (pc' := 150) X249 hx (hb hby at_148) rfl rfl ?_
      refine Run.iconst (pc' := 151) (v := (2 : Int32)) X249 hx (hb hby at_150) rfl rfl ?_
      obtain ⟨T250, L250, v250, X250, Q250, st250⟩ := callStatic X249 hx (y := (⟨"com/example/tallyhold/tallyhold/ledger/ArrayInputReadPinLaw", "expected", "(IIII)I"⟩ : MethodName)) (Ls := #[.val (.int p0), .val (.int p1), .val (.int p2), .val (.ref b1), .val (.int (1 : Int32)), .val (.int (3 : Int32)), .val (.ref b226), .val (.int ((f9 (1 : Int32)) &&& (255 : Int32))), .val (.int ((f9 (2 : Int32)) &&& (255 : Int32))), .val (.int ((f9 (3 : Int32)) &&& (255 : Int32))), .val (.int (-1 : Int32)), .val (.int (-1 : Int32)), .val (.int (4 : Int32)), .val (.int (0 : Int32))]) (rest := [(.int ((f9 (3 : Int32)) &&& (255 : Int32)))]) (W := 1) (argsL := [(.int p0), (.int (1 : Int32)), (.int (3 : Int32)), (.int (2 : Int32))]) hZ hown (hw _ (List.mem_of_getElem? (i := 45) rfl)) (hw _ (List.mem_of_getElem? (i := 46) rfl)) (hw _ (List.mem_of_getElem? (i := 47) rfl)) (hw _ (List.mem_of_getElem? (i := 48) rfl)) (by decide) e249 (rm8 l Z a0 hw [] p0 (1 : Int32) (3 : Int32) (2 : Int32)  T243.heap n0 Z243 ) (hb hby at_151) (lenOf own_pd5 rfl) (by decide) (by decide) (by rw [hml]; rfl) (Nat.le_of_eq rfl) (by decide) (by decide)
      obtain ⟨hv250, M250, e250⟩ := Q250
      rw [show (own_F8 p0 (1 : Int32) (3 : Int32) (2 : Int32)) = (((p0.toUInt32 >>> ((24 : Int32) &&& 31).toUInt32).toInt32) &&& (255 : Int32)) from rfl] at hv250
      subst hv250
      have N250 := Fr.app N249 M250
      refine Run.back (g' := (mkF m 154 #[.val (.int p0), .val (.int p1), .val (.int p2), .val (.ref b1), .val (.int (1 : Int32)), .val (.int (3 : Int32)), .val (.ref b226), .val (.int ((f9 (1 : Int32)) &&& (255 : Int32))), .val (.int ((f9 (2 : Int32)) &&& (255 : Int32))), .val (.int ((f9 (3 : Int32)) &&& (255 : Int32))), .val (.int (-1 : Int32)), .val (.int (-1 : Int32)), .val (.int (4 : Int32)), .val (.int (0 : Int32))] [(.int (((p0.toUInt32 >>> ((24 : Int32) &&& 31).toUInt32).toInt32) &&& (255 : Int32))), (.int ((f9 (3 : Int32)) &&& (255 : Int32)))])) st250 ?_
      refine Run.icmpNo (pc' := 157) X250 hx (hb hby at_154) (teq (own_b3 g3)).2 rfl ?_
      refine Run.iload (pc' := 159) X250 hx (hb hby at_157) rfl rfl ?_
      refine Run.iloadN (pc' := 160) X250 hx (hb hby at_159) rfl rfl ?_
      refine Run.iload (pc' := 162) X250 hx (hb hby at_160) rfl rfl ?_
      refine Run.iload (pc' := 164) X250 hx (hb hby at_162) rfl rfl ?_
      refine Run.iconst (pc' := 165) (v := (3 : Int32)) X250 hx (hb hby at_164) rfl rfl ?_
      obtain ⟨T251, L251, v251, X251, Q251, st251⟩ := callStatic X250 hx (y := (⟨"com/example/tallyhold/tallyhold/ledger/ArrayInputReadPinLaw", "expected", "(IIII)I"⟩ : MethodName)) (Ls := #[.val (.int p0), .val (.int p1), .val (.int p2), .val (.ref b1), .val (.int (1 : Int32)), .val (.int (3 : Int32)), .val (.ref b226), .val (.int ((f9 (1 : Int32)) &&& (255 : Int32))), .val (.int ((f9 (2 : Int32)) &&& (255 : Int32))), .val (.int ((f9 (3 : Int32)) &&& (255 : Int32))), .val (.int (-1 : Int32)), .val (.int (-1 : Int32)), .val (.int (4 : Int32)), .val (.int (0 : Int32))]) (rest := [(.int (-1 : Int32))]) (W := 1) (argsL := [(.int p0), (.int (1 : Int32)), (.int (3 : Int32)), (.int (3 : Int32))]) hZ hown (hw _ (List.mem_of_getElem? (i := 45) rfl)) (hw _ (List.mem_of_getElem? (i := 46) rfl)) (hw _ (List.mem_of_getElem? (i := 47) rfl)) (hw _ (List.mem_of_getElem? (i := 48) rfl)) (by decide) e250 (rm8 l Z a0 hw [] p0 (1 : Int32) (3 : Int32) (3 : Int32)  T243.heap n0 Z243 ) (hb hby at_165) (lenOf own_pd5 rfl) (by decide) (by decide) (by rw [hml]; rfl) (Nat.le_of_eq rfl) (by decide) (by decide)
      obtain ⟨hv251, M251, e251⟩ := Q251
      rw [show (own_F8 p0 (1 : Int32) (3 : Int32) (3 : Int32)) = (-1 : Int32) from rfl] at hv251
      subst hv251
      have N251 := Fr.app N250 M251
      refine Run.back (g' := (mkF m 168 #[.val (.int p0), .val (.int p1), .val (.int p2), .val (.ref b1), .val (.int (1 : Int32)), .val (.int (3 : Int32)), .val (.ref b226), .val (.int ((f9 (1 : Int32)) &&& (255 : Int32))), .val (.int ((f9 (2 : Int32)) &&& (255 : Int32))), .val (.int ((f9 (3 : Int32)) &&& (255 : Int32))), .val (.int (-1 : Int32)), .val (.int (-1 : Int32)), .val (.int (4 : Int32)), .val (.int (0 : Int32))] [(.int (-1 : Int32)), (.int (-1 : Int32))])) st251 ?_
      refine Run.icmpNo (pc' := 171) X251 hx (hb hby at_168) (teq rfl).2 rfl ?_
      refine Run.iload (pc' := 173) X251 hx (hb hby at_171) rfl rfl ?_
      refine Run.iloadN (pc' := 174) X251 hx (hb hby at_173) rfl rfl ?_
      refine Run.iload (pc' := 176) X251 hx (hb hby at_174) rfl rfl ?_
      refine Run.iload (pc' := 178) X251 hx (hb hby at_176) rfl rfl ?_
      refine Run.iconst (pc' := 179) (v := (4 : Int32)) X251 hx (hb hby at_178) rfl rfl ?_
      obtain ⟨T252, L252, v252, X252, Q252, st252⟩ := callStatic X251 hx (y := (⟨"com/example/tallyhold/tallyhold/ledger/ArrayInputReadPinLaw", "expected", "(IIII)I"⟩ : MethodName)) (Ls := #[.val (.int p0), .val (.int p1), .val (.int p2), .val (.ref b1), .val (.int (1 : Int32)), .val (.int (3 : Int32)), .val (.ref b226), .val (.int ((f9 (1 : Int32)) &&& (255 : Int32))), .val (.int ((f9 (2 : Int32)) &&& (255 : Int32))), .val (.int ((f9 (3 : Int32)) &&& (255 : Int32))), .val (.int (-1 : Int32)), .val (.int (-1 : Int32)), .val (.int (4 : Int32)), .val (.int (0 : Int32))]) (rest := [(.int (-1 : Int32))]) (W := 1) (argsL := [(.int p0), (.int (1 : Int32)), (.int (3 : Int32)), (.int (4 : Int32))]) hZ hown (hw _ (List.mem_of_getElem? (i := 45) rfl)) (hw _ (List.mem_of_getElem? (i := 46) rfl)) (hw _ (List.mem_of_getElem? (i := 47) rfl)) (hw _ (List.mem_of_getElem? (i := 48) rfl)) (by decide) e251 (rm8 l Z a0 hw [] p0 (1 : Int32) (3 : Int32) (4 : Int32)  T243.heap n0 Z243 ) (hb hby at_179) (lenOf own_pd5 rfl) (by decide) (by decide) (by rw [hml]; rfl) (Nat.le_of_eq rfl) (by decide) (by decide)
      obtain ⟨hv252, M252, e252⟩ := Q252
      rw [show (own_F8 p0 (1 : Int32) (3 : Int32) (4 : Int32)) = (-1 : Int32) from rfl] at hv252
      subst hv252
      have N252 := Fr.app N251 M252
      refine Run.back (g' := (mkF m 182 #[.val (.int p0), .val (.int p1), .val (.int p2), .val (.ref b1), .val (.int (1 : Int32)), .val (.int (3 : Int32)), .val (.ref b226), .val (.int ((f9 (1 : Int32)) &&& (255 : Int32))), .val (.int ((f9 (2 : Int32)) &&& (255 : Int32))), .val (.int ((f9 (3 : Int32)) &&& (255 : Int32))), .val (.int (-1 : Int32)), .val (.int (-1 : Int32)), .val (.int (4 : Int32)), .val (.int (0 : Int32))] [(.int (-1 : Int32)), (.int (-1 : Int32))])) st252 ?_
      refine Run.icmpNo (pc' := 185) X252 hx (hb hby at_182) (teq rfl).2 rfl ?_
      refine Run.iload (pc' := 187) X252 hx (hb hby at_185) rfl rfl ?_
      refine Run.iload (pc' := 189) X252 hx (hb hby at_187) rfl rfl ?_
      refine Run.iload (pc' := 191) X252 hx (hb hby at_189) rfl rfl ?_
      refine Run.iadd (pc' := 192) X252 hx (hb hby at_191) rfl ?_
      refine Run.icmpNo (pc' := 195) X252 hx (hb hby at_192) (teq (by decide : (4 : Int32) = ((1 : Int32) + (3 : Int32)))).2 rfl ?_
      refine Run.iload (pc' := 197) X252 hx (hb hby at_195) rfl rfl ?_
      refine Run.ifNo (pc' := 200) X252 hx (hb hby at_197) ((if0 _ _).trans (teq (by decide : (0 : Int32) = (0 : Int32))).2) rfl ?_
      refine Run.iconst (pc' := 201) (v := (1 : Int32)) X252 hx (hb hby at_200) rfl rfl ?_
      refine Run.goto (pc' := 205) X252 hx (hb hby at_201) (by decide) (by decide) ?_
      exact Run.retSmall X252 hx (t := .boolean) (z' := (1 : Int32)) Bd.notSynchronized Bd.returns (by simp) rfl (hb hby at_205) ⟨rfl, N252⟩ (by decide) (by decide)
  · rw [ho]
    refine Run.iloadN (pc' := 42) X8 hx (hb hby at_41) rfl rfl ?_
    refine Run.ldcInt (pc' := 44) (v := (2147483647 : Int32)) X8 hx hown (mvT hZ (hw _ (List.mem_of_getElem? (i := 1) rfl))) (hb hby at_42) rfl ?_
    refine Run.iand (pc' := 45) X8 hx (hb hby at_44) rfl ?_
    refine Run.iconst (pc' := 46) (v := (5 : Int32)) X8 hx (hb hby at_45) rfl rfl ?_
    refine Run.iload (pc' := 48) X8 hx (hb hby at_46) rfl rfl ?_
    refine Run.isub (pc' := 49) X8 hx (hb hby at_48) rfl ?_
    refine Run.irem (pc' := 50) X8 hx (hb hby at_49) (by decide) rfl ?_
    refine Run.istore (pc' := 52) X8 hx (l' := #[.val (.int p0), .val (.int p1), .val (.int p2), .val (.ref b1), .val (.int (2 : Int32)), .val (.int ((p2 &&& (2147483647 : Int32)) % ((5 : Int32) - (2 : Int32)))), .unset, .unset, .unset, .unset, .unset, .unset, .unset, .unset]) (hb hby at_50) rfl rfl ?_
    rcases own_l2 p2 with hl | hl | hl
    · rw [hl]
      obtain ⟨T253, h253, X253, e253, E253, A253, D253, -, st253⟩ := newO X8 hx hZ hown (hw _ (List.mem_of_getElem? (i := 2) rfl)) (hw _ (List.mem_of_getElem? (i := 3) rfl)) (hw _ (List.mem_of_getElem? (i := 4) rfl)) e8 (g := (mkF m 52 #[.val (.int p0), .val (.int p1), .val (.int p2), .val (.ref b1), .val (.int (2 : Int32)), .val (.int (0 : Int32)), .unset, .unset, .unset, .unset, .unset, .unset, .unset, .unset] [])) rfl (hb hby at_52) (by decide) (by decide)
      obtain ⟨b253, g253⟩ : ∃ z, z = h8.size := ⟨_, rfl⟩
      rw [← g253] at A253 D253 st253
      have ne_b1_b253 : b1 ≠ b253 := Nat.ne_of_lt (Nat.lt_of_lt_of_le (A8).lt (Nat.le_of_eq g253.symm))
      have G253 : n0 ≤ b253 := Nat.le_trans Z8 (Nat.le_of_eq g253.symm)
      have Z253 : n0 ≤ h253.size := Nat.le_trans Z8 E253.1
      have fq254 := Ints.ext E253 A8
      have F253_bytes : Fld Z h253 b253 "com/example/tallyhold/tallyhold/ledger/ArrayInput" "bytes" "[B" .null := D253 (Or.inr (hw _ (List.mem_of_getElem? (i := 25) rfl))) (ty := (.array .byte)) (by decide)
      have F253_at : Fld Z h253 b253 "com/example/tallyhold/tallyhold/ledger/ArrayInput" "at" "I" (.int (0 : Int32)) := D253 (Or.inl (hw _ (List.mem_of_getElem? (i := 27) rfl))) (ty := .int) (by decide)
      have F253_end : Fld Z h253 b253 "com/example/tallyhold/tallyhold/ledger/ArrayInput" "end" "I" (.int (0 : Int32)) := D253 (Or.inr (hw _ (List.mem_of_getElem? (i := 29) rfl))) (ty := .int) (by decide)
      refine Run.back (g' := (mkF m 55 #[.val (.int p0), .val (.int p1), .val (.int p2), .val (.ref b1), .val (.int (2 : Int32)), .val (.int (0 : Int32)), .unset, .unset, .unset, .unset, .unset, .unset, .unset, .unset] [(.ref b253)])) st253 ?_
      refine Run.dup (pc' := 56) X253 hx (hb hby at_55) rfl rfl ?_
      refine Run.aloadN (pc' := 57) X253 hx (hb hby at_56) rfl rfl ?_
      refine Run.iload (pc' := 59) X253 hx (hb hby at_57) rfl rfl ?_
      refine Run.iload (pc' := 61) X253 hx (hb hby at_59) rfl rfl ?_
      obtain ⟨T255, L255, v255, X255, Q255, st255⟩ := callSpecial X253 hx (y := (⟨"com/example/tallyhold/tallyhold/ledger/ArrayInput", "<init>", "([BII)V"⟩ : MethodName)) (a := b253) (Ls := #[.val (.int p0), .val (.int p1), .val (.int p2), .val (.ref b1), .val (.int (2 : Int32)), .val (.int (0 : Int32)), .unset, .unset, .unset, .unset, .unset, .unset, .unset, .unset]) (rest := [(.ref b253)]) (W := 1) (argsL := [(.ref b1), (.int (2 : Int32)), (.int (0 : Int32))]) rfl hZ hown (hw _ (List.mem_of_getElem? (i := 5) rfl)) (hw _ (List.mem_of_getElem? (i := 6) rfl)) (hw _ (List.mem_of_getElem? (i := 4) rfl)) (hw _ (List.mem_of_getElem? (i := 7) rfl)) (by decide) e253 (rm4 l Z a0 hw [] b253 b1 (2 : Int32) (0 : Int32) f9 h253 n0 Z253 A253 F253_bytes F253_at F253_end G253 fq254 ne_b1_b253 (by decide) (by decide)) (hb hby at_61) (lenOf own_pd3 rfl) (by decide) (by decide) (by rw [hml]; rfl) (Nat.le_of_eq rfl) (by decide) (by decide)
      obtain ⟨rfl, M255, K255, E255, F255_bytes, F255_at, F255_end⟩ := Q255
      rw [show ((2 : Int32) + (0 : Int32)) = (2 : Int32) from rfl] at F255_end
      have N255 := Fr.app N8 M255
      have fq256 := Ints.keep fq254 K255 (ninS ne_b1_b253 nin0)
      have fq257 := Exa.keep A253 K255
      have Z255 : n0 ≤ T255.heap.size := Nat.le_trans Z253 K255.1
      refine Run.back (g' := (mkF m 64 #[.val (.int p0), .val (.int p1), .val (.int p2), .val (.ref b1), .val (.int (2 : Int32)), .val (.int (0 : Int32)), .unset, .unset, .unset, .unset, .unset, .unset, .unset, .unset] [(.ref b253)])) st255 ?_
      refine Run.astore (pc' := 66) X255 hx (l' := #[.val (.int p0), .val (.int p1), .val (.int p2), .val (.ref b1), .val (.int (2 : Int32)), .val (.int (0 : Int32)), .val (.ref b253), .unset, .unset, .unset, .unset, .unset, .unset, .unset]) (hb hby at_64) rfl rfl ?_
      refine Run.aload (pc' := 68) X255 hx (hb hby at_66) rfl rfl ?_
      obtain ⟨T258, L258, v258, X258, Q258, st258⟩ := callVirtual X255 hx (y := (⟨"com/example/tallyhold/tallyhold/ledger/ArrayInput", "read", "()I"⟩ : MethodName)) (z := (⟨"com/example/tallyhold/tallyhold/ledger/ArrayInput", "read", "()I"⟩ : MethodName)) (C := "com/example/tallyhold/tallyhold/ledger/ArrayInput") (a := b253) (Ls := #[.val (.int p0), .val (.int p1), .val (.int p2), .val (.ref b1), .val (.int (2 : Int32)), .val (.int (0 : Int32)), .val (.ref b253), .unset, .unset, .unset, .unset, .unset, .unset, .unset]) (rest := []) (W := 0) (argsL := []) hZ hown (hw _ (List.mem_of_getElem? (i := 30) rfl)) (hw _ (List.mem_of_getElem? (i := 31) rfl)) (notFace_of_selects (args := #[]) (mvT hZ (hw _ (List.mem_of_getElem? (i := 33) rfl)))) (hw _ (List.mem_of_getElem? (i := 33) rfl)) (hw _ (List.mem_of_getElem? (i := 32) rfl)) (hw _ (List.mem_of_getElem? (i := 4) rfl)) (hw _ (List.mem_of_getElem? (i := 34) rfl)) (by decide) rfl E255 (rm5 l Z a0 hw [] b253 b1 (2 : Int32) (2 : Int32) f9 T255.heap n0 Z255 E255 F255_bytes F255_at F255_end G253 fq256 ne_b1_b253 (by decide) (by decide)) (hb hby at_68) (lenOf own_pd4 rfl) (by decide) (by decide) (by rw [hml]; rfl) (Nat.le_of_eq rfl) (by decide) (by decide)
      obtain ⟨hv258, M258, K258, E258, F258_bytes, F258_at, F258_end⟩ := Q258
      rw [show (own_R (2 : Int32) (2 : Int32) f9) = (-1 : Int32) from rfl] at hv258
      subst hv258
      rw [show (own_N (2 : Int32) (2 : Int32)) = (2 : Int32) from rfl] at F258_at
      have N258 := Fr.app N255 M258
      have fq259 := Ints.keep fq256 K258 (ninS ne_b1_b253 nin0)
      have fq260 := Exa.keep E255 K258
      have Z258 : n0 ≤ T258.heap.size := Nat.le_trans Z255 K258.1
      refine Run.back (g' := (mkF m 71 #[.val (.int p0), .val (.int p1), .val (.int p2), .val (.ref b1), .val (.int (2 : Int32)), .val (.int (0 : Int32)), .val (.ref b253), .unset, .unset, .unset, .unset, .unset, .unset, .unset] [(.int (-1 : Int32))])) st258 ?_
      refine Run.istore (pc' := 73) X258 hx (l' := #[.val (.int p0), .val (.int p1), .val (.int p2), .val (.ref b1), .val (.int (2 : Int32)), .val (.int (0 : Int32)), .val (.ref b253), .val (.int (-1 : Int32)), .unset, .unset, .unset, .unset, .unset, .unset]) (hb hby at_71) rfl rfl ?_
      refine Run.aload (pc' := 75) X258 hx (hb hby at_73) rfl rfl ?_
      obtain ⟨T261, L261, v261, X261, Q261, st261⟩ := callVirtual X258 hx (y := (⟨"com/example/tallyhold/tallyhold/ledger/ArrayInput", "read", "()I"⟩ : MethodName)) (z := (⟨"com/example/tallyhold/tallyhold/ledger/ArrayInput", "read", "()I"⟩ : MethodName)) (C := "com/example/tallyhold/tallyhold/ledger/ArrayInput") (a := b253) (Ls := #[.val (.int p0), .val (.int p1), .val (.int p2), .val (.ref b1), .val (.int (2 : Int32)), .val (.int (0 : Int32)), .val (.ref b253), .val (.int (-1 : Int32)), .unset, .unset, .unset, .unset, .unset, .unset]) (rest := []) (W := 0) (argsL := []) hZ hown (hw _ (List.mem_of_getElem? (i := 30) rfl)) (hw _ (List.mem_of_getElem? (i := 31) rfl)) (notFace_of_selects (args := #[]) (mvT hZ (hw _ (List.mem_of_getElem? (i := 33) rfl)))) (hw _ (List.mem_of_getElem? (i := 33) rfl)) (hw _ (List.mem_of_getElem? (i := 32) rfl)) (hw _ (List.mem_of_getElem? (i := 4) rfl)) (hw _ (List.mem_of_getElem? (i := 34) rfl)) (by decide) rfl E258 (rm5 l Z a0 hw [] b253 b1 (2 : Int32) (2 : Int32) f9 T258.heap n0 Z258 E258 F258_bytes F258_at F258_end G253 fq259 ne_b1_b253 (by decide) (by decide)) (hb hby at_75) (lenOf own_pd4 rfl) (by decide) (by decide) (by rw [hml]; rfl) (Nat.le_of_eq rfl) (by decide) (by decide)
      obtain ⟨hv261, M261, K261, E261, F261_bytes, F261_at, F261_end⟩ := Q261
      rw [show (own_R (2 : Int32) (2 : Int32) f9) = (-1 : Int32) from rfl] at hv261
      subst hv261
      rw [show (own_N (2 : Int32) (2 : Int32)) = (2 : Int32) from rfl] at F261_at
      have N261 := Fr.app N258 M261
      have fq262 := Ints.keep fq259 K261 (ninS ne_b1_b253 nin0)
      have fq263 := Exa.keep E258 K261
      have Z261 : n0 ≤ T261.heap.size := Nat.le_trans Z258 K261.1
      refine Run.back (g' := (mkF m 78 #[.val (.int p0), .val (.int p1), .val (.int p2), .val (.ref b1), .val (.int (2 : Int32)), .val (.int (0 : Int32)), .val (.ref b253), .val (.int (-1 : Int32)), .unset, .unset, .unset, .unset, .unset, .unset] [(.int (-1 : Int32))])) st261 ?_
      refine Run.istore (pc' := 80) X261 hx (l' := #[.val (.int p0), .val (.int p1), .val (.int p2), .val (.ref b1), .val (.int (2 : Int32)), .val (.int (0 : Int32)), .val (.ref b253), .val (.int (-1 : Int32)), .val (.int (-1 : Int32)), .unset, .unset, .unset, .unset, .unset]) (hb hby at_78) rfl rfl ?_
      refine Run.aload (pc' := 82) X261 hx (hb hby at_80) rfl rfl ?_
      obtain ⟨T264, L264, v264, X264, Q264, st264⟩ := callVirtual X261 hx (y := (⟨"com/example/tallyhold/tallyhold/ledger/ArrayInput", "read", "()I"⟩ : MethodName)) (z := (⟨"com/example/tallyhold/tallyhold/ledger/ArrayInput", "read", "()I"⟩ : MethodName)) (C := "com/example/tallyhold/tallyhold/ledger/ArrayInput") (a := b253) (Ls := #[.val (.int p0), .val (.int p1), .val (.int p2), .val (.ref b1), .val (.int (2 : Int32)), .val (.int (0 : Int32)), .val (.ref b253), .val (.int (-1 : Int32)), .val (.int (-1 : Int32)), .unset, .unset, .unset, .unset, .unset]) (rest := []) (W := 0) (argsL := []) hZ hown (hw _ (List.mem_of_getElem? (i := 30) rfl)) (hw _ (List.mem_of_getElem? (i := 31) rfl)) (notFace_of_selects (args := #[]) (mvT hZ (hw _ (List.mem_of_getElem? (i := 33) rfl)))) (hw _ (List.mem_of_getElem? (i := 33) rfl)) (hw _ (List.mem_of_getElem? (i := 32) rfl)) (hw _ (List.mem_of_getElem? (i := 4) rfl)) (hw _ (List.mem_of_getElem? (i := 34) rfl)) (by decide) rfl E261 (rm5 l Z a0 hw [] b253 b1 (2 : Int32) (2 : Int32) f9 T261.heap n0 Z261 E261 F261_bytes F261_at F261_end G253 fq262 ne_b1_b253 (by decide) (by decide)) (hb hby at_82) (lenOf own_pd4 rfl) (by decide) (by decide) (by rw [hml]; rfl) (Nat.le_of_eq rfl) (by decide) (by decide)
      obtain ⟨hv264, M264, K264, E264, F264_bytes, F264_at, F264_end⟩ := Q264
      rw [show (own_R (2 : Int32) (2 : Int32) f9) = (-1 : Int32) from rfl] at hv264
      subst hv264
      rw [show (own_N (2 : Int32) (2 : Int32)) = (2 : Int32) from rfl] at F264_at
      have N264 := Fr.app N261 M264
      have fq265 := Ints.keep fq262 K264 (ninS ne_b1_b253 nin0)
      have fq266 := Exa.keep E261 K264
      have Z264 : n0 ≤ T264.heap.size := Nat.le_trans Z261 K264.1
      refine Run.back (g' := (mkF m 85 #[.val (.int p0), .val (.int p1), .val (.int p2), .val (.ref b1), .val (.int (2 : Int32)), .val (.int (0 : Int32)), .val (.ref b253), .val (.int (-1 : Int32)), .val (.int (-1 : Int32)), .unset, .unset, .unset, .unset, .unset] [(.int (-1 : Int32))])) st264 ?_
      refine Run.istore (pc' := 87) X264 hx (l' := #[.val (.int p0), .val (.int p1), .val (.int p2), .val (.ref b1), .val (.int (2 : Int32)), .val (.int (0 : Int32)), .val (.ref b253), .val (.int (-1 : Int32)), .val (.int (-1 : Int32)), .val (.int (-1 : Int32)), .unset, .unset, .unset, .unset]) (hb hby at_85) rfl rfl ?_
      refine Run.aload (pc' := 89) X264 hx (hb hby at_87) rfl rfl ?_
      obtain ⟨T267, L267, v267, X267, Q267, st267⟩ := callVirtual X264 hx (y := (⟨"com/example/tallyhold/tallyhold/ledger/ArrayInput", "read", "()I"⟩ : MethodName)) (z := (⟨"com/example/tallyhold/tallyhold/ledger/ArrayInput", "read", "()I"⟩ : MethodName)) (C := "com/example/tallyhold/tallyhold/ledger/ArrayInput") (a := b253) (Ls := #[.val (.int p0), .val (.int p1), .val (.int p2), .val (.ref b1), .val (.int (2 : Int32)), .val (.int (0 : Int32)), .val (.ref b253), .val (.int (-1 : Int32)), .val (.int (-1 : Int32)), .val (.int (-1 : Int32)), .unset, .unset, .unset, .unset]) (rest := []) (W := 0) (argsL := []) hZ hown (hw _ (List.mem_of_getElem? (i := 30) rfl)) (hw _ (List.mem_of_getElem? (i := 31) rfl)) (notFace_of_selects (args := #[]) (mvT hZ (hw _ (List.mem_of_getElem? (i := 33) rfl)))) (hw _ (List.mem_of_getElem? (i := 33) rfl)) (hw _ (List.mem_of_getElem? (i := 32) rfl)) (hw _ (List.mem_of_getElem? (i := 4) rfl)) (hw _ (List.mem_of_getElem? (i := 34) rfl)) (by decide) rfl E264 (rm5 l Z a0 hw [] b253 b1 (2 : Int32) (2 : Int32) f9 T264.heap n0 Z264 E264 F264_bytes F264_at F264_end G253 fq265 ne_b1_b253 (by decide) (by decide)) (hb hby at_89) (lenOf own_pd4 rfl) (by decide) (by decide) (by rw [hml]; rfl) (Nat.le_of_eq rfl) (by decide) (by decide)
      obtain ⟨hv267, M267, K267, E267, F267_bytes, F267_at, F267_end⟩ := Q267
      rw [show (own_R (2 : Int32) (2 : Int32) f9) = (-1 : Int32) from rfl] at hv267
      subst hv267
      rw [show (own_N (2 : Int32) (2 : Int32)) = (2 : Int32) from rfl] at F267_at
      have N267 := Fr.app N264 M267
      have fq268 := Ints.keep fq265 K267 (ninS ne_b1_b253 nin0)
      have fq269 := Exa.keep E264 K267
      have Z267 : n0 ≤ T267.heap.size := Nat.le_trans Z264 K267.1
      refine Run.back (g' := (mkF m 92 #[.val (.int p0), .val (.int p1), .val (.int p2), .val (.ref b1), .val (.int (2 : Int32)), .val (.int (0 : Int32)), .val (.ref b253), .val (.int (-1 : Int32)), .val (.int (-1 : Int32)), .val (.int (-1 : Int32)), .unset, .unset, .unset, .unset] [(.int (-1 : Int32))])) st267 ?_
      refine Run.istore (pc' := 94) X267 hx (l' := #[.val (.int p0), .val (.int p1), .val (.int p2), .val (.ref b1), .val (.int (2 : Int32)), .val (.int (0 : Int32)), .val (.ref b253), .val (.int (-1 : Int32)), .val (.int (-1 : Int32)), .val (.int (-1 : Int32)), .val (.int (-1 : Int32)), .unset, .unset, .unset]) (hb hby at_92) rfl rfl ?_
      refine Run.aload (pc' := 96) X267 hx (hb hby at_94) rfl rfl ?_
      obtain ⟨T270, L270, v270, X270, Q270, st270⟩ := callVirtual X267 hx (y := (⟨"com/example/tallyhold/tallyhold/ledger/ArrayInput", "read", "()I"⟩ : MethodName)) (z := (⟨"com/example/tallyhold/tallyhold/ledger/ArrayInput", "read", "()I"⟩ : MethodName)) (C := "com/example/tallyhold/tallyhold/ledger/ArrayInput") (a := b253) (Ls := #[.val (.int p0), .val (.int p1), .val (.int p2), .val (.ref b1), .val (.int (2 : Int32)), .val (.int (0 : Int32)), .val (.ref b253), .val (.int (-1 : Int32)), .val (.int (-1 : Int32)), .val (.int (-1 : Int32)), .val (.int (-1 : Int32)), .unset, .unset, .unset]) (rest := []) (W := 0) (argsL := []) hZ hown (hw _ (List.mem_of_getElem? (i := 30) rfl)) (hw _ (List.mem_of_getElem? (i := 31) rfl)) (notFace_of_selects (args := #[]) (mvT hZ (hw _ (List.mem_of_getElem? (i := 33) rfl)))) (hw _ (List.mem_of_getElem? (i := 33) rfl)) (hw _ (List.mem_of_getElem? (i := 32) rfl)) (hw _ (List.mem_of_getElem? (i := 4) rfl)) (hw _ (List.mem_of_getElem? (i := 34) rfl)) (by decide) rfl E267 (rm5 l Z a0 hw [] b253 b1 (2 : Int32) (2 : Int32) f9 T267.heap n0 Z267 E267 F267_bytes F267_at F267_end G253 fq268 ne_b1_b253 (by decide) (by decide)) (hb hby at_96) (lenOf own_pd4 rfl) (by decide) (by decide) (by rw [hml]; rfl) (Nat.le_of_eq rfl) (by decide) (by decide)
      obtain ⟨hv270, M270, K270, E270, F270_bytes, F270_at, F270_end⟩ := Q270
      rw [show (own_R (2 : Int32) (2 : Int32) f9) = (-1 : Int32) from rfl] at hv270
      subst hv270
      rw [show (own_N (2 : Int32) (2 : Int32)) = (2 : Int32) from rfl] at F270_at
      have N270 := Fr.app N267 M270
      have fq271 := Ints.keep fq268 K270 (ninS ne_b1_b253 nin0)
      have fq272 := Exa.keep E267 K270
      have Z270 : n0 ≤ T270.heap.size := Nat.le_trans Z267 K270.1
      refine Run.back (g' := (mkF m 99 #[.val (.int p0), .val (.int p1), .val (.int p2), .val (.ref b1), .val (.int (2 : Int32)), .val (.int (0 : Int32)), .val (.ref b253), .val (.int (-1 : Int32)), .val (.int (-1 : Int32)), .val (.int (-1 : Int32)), .val (.int (-1 : Int32)), .unset, .unset, .unset] [(.int (-1 : Int32))])) st270 ?_
      refine Run.istore (pc' := 101) X270 hx (l' := #[.val (.int p0), .val (.int p1), .val (.int p2), .val (.ref b1), .val (.int (2 : Int32)), .val (.int (0 : Int32)), .val (.ref b253), .val (.int (-1 : Int32)), .val (.int (-1 : Int32)), .val (.int (-1 : Int32)), .val (.int (-1 : Int32)), .val (.int (-1 : Int32)), .unset, .unset]) (hb hby at_99) rfl rfl ?_
      refine Run.aload (pc' := 103) X270 hx (hb hby at_101) rfl rfl ?_
      obtain ⟨T273, L273, v273, X273, Q273, st273⟩ := callVirtual X270 hx (y := (⟨"com/example/tallyhold/tallyhold/ledger/ArrayInput", "position", "()I"⟩ : MethodName)) (z := (⟨"com/example/tallyhold/tallyhold/ledger/ArrayInput", "position", "()I"⟩ : MethodName)) (C := "com/example/tallyhold/tallyhold/ledger/ArrayInput") (a := b253) (Ls := #[.val (.int p0), .val (.int p1), .val (.int p2), .val (.ref b1), .val (.int (2 : Int32)), .val (.int (0 : Int32)), .val (.ref b253), .val (.int (-1 : Int32)), .val (.int (-1 : Int32)), .val (.int (-1 : Int32)), .val (.int (-1 : Int32)), .val (.int (-1 : Int32)), .unset, .unset]) (rest := []) (W := 0) (argsL := []) hZ hown (hw _ (List.mem_of_getElem? (i := 35) rfl)) (hw _ (List.mem_of_getElem? (i := 36) rfl)) (notFace_of_selects (args := #[]) (mvT hZ (hw _ (List.mem_of_getElem? (i := 38) rfl)))) (hw _ (List.mem_of_getElem? (i := 38) rfl)) (hw _ (List.mem_of_getElem? (i := 37) rfl)) (hw _ (List.mem_of_getElem? (i := 4) rfl)) (hw _ (List.mem_of_getElem? (i := 39) rfl)) (by decide) rfl E270 (rm6 l Z a0 hw [] b253 (2 : Int32) T270.heap n0 Z270 F270_at) (hb hby at_103) (lenOf own_pd4 rfl) (by decide) (by decide) (by rw [hml]; rfl) (Nat.le_of_eq rfl) (by decide) (by decide)
      obtain ⟨hv273, M273, e273⟩ := Q273
      rw [show (own_F6 b253 (2 : Int32)) = (2 : Int32) from rfl] at hv273
      subst hv273
      have N273 := Fr.app N270 M273
      refine Run.back (g' := (mkF m 106 #[.val (.int p0), .val (.int p1), .val (.int p2), .val (.ref b1), .val (.int (2 : Int32)), .val (.int (0 : Int32)), .val (.ref b253), .val (.int (-1 : Int32)), .val (.int (-1 : Int32)), .val (.int (-1 : Int32)), .val (.int (-1 : Int32)), .val (.int (-1 : Int32)), .unset, .unset] [(.int (2 : Int32))])) st273 ?_
      refine Run.istore (pc' := 108) X273 hx (l' := #[.val (.int p0), .val (.int p1), .val (.int p2), .val (.ref b1), .val (.int (2 : Int32)), .val (.int (0 : Int32)), .val (.ref b253), .val (.int (-1 : Int32)), .val (.int (-1 : Int32)), .val (.int (-1 : Int32)), .val (.int (-1 : Int32)), .val (.int (-1 : Int32)), .val (.int (2 : Int32)), .unset]) (hb hby at_106) rfl rfl ?_
      refine Run.aload (pc' := 110) X273 hx (hb hby at_108) rfl rfl ?_
      obtain ⟨T274, L274, v274, X274, Q274, st274⟩ := callVirtual X273 hx (y := (⟨"com/example/tallyhold/tallyhold/ledger/ArrayInput", "available", "()I"⟩ : MethodName)) (z := (⟨"com/example/tallyhold/tallyhold/ledger/ArrayInput", "available", "()I"⟩ : MethodName)) (C := "com/example/tallyhold/tallyhold/ledger/ArrayInput") (a := b253) (Ls := #[.val (.int p0), .val (.int p1), .val (.int p2), .val (.ref b1), .val (.int (2 : Int32)), .val (.int (0 : Int32)), .val (.ref b253), .val (.int (-1 : Int32)), .val (.int (-1 : Int32)), .val (.int (-1 : Int32)), .val (.int (-1 : Int32)), .val (.int (-1 : Int32)), .val (.int (2 : Int32)), .unset]) (rest := []) (W := 0) (argsL := []) hZ hown (hw _ (List.mem_of_getElem? (i := 40) rfl)) (hw _ (List.mem_of_getElem? (i := 41) rfl)) (notFace_of_selects (args := #[]) (mvT hZ (hw _ (List.mem_of_getElem? (i := 43) rfl)))) (hw _ (List.mem_of_getElem? (i := 43) rfl)) (hw _ (List.mem_of_getElem? (i := 42) rfl)) (hw _ (List.mem_of_getElem? (i := 4) rfl)) (hw _ (List.mem_of_getElem? (i := 44) rfl)) (by decide) e273 E270 (rm7 l Z a0 hw [] b253 (2 : Int32) (2 : Int32) T270.heap n0 Z270 F270_at F270_end) (hb hby at_110) (lenOf own_pd4 rfl) (by decide) (by decide) (by rw [hml]; rfl) (Nat.le_of_eq rfl) (by decide) (by decide)
      obtain ⟨hv274, M274, e274⟩ := Q274
      rw [show (own_F7 b253 (2 : Int32) (2 : Int32)) = (0 : Int32) from rfl] at hv274
      subst hv274
      have N274 := Fr.app N273 M274
      refine Run.back (g' := (mkF m 113 #[.val (.int p0), .val (.int p1), .val (.int p2), .val (.ref b1), .val (.int (2 : Int32)), .val (.int (0 : Int32)), .val (.ref b253), .val (.int (-1 : Int32)), .val (.int (-1 : Int32)), .val (.int (-1 : Int32)), .val (.int (-1 : Int32)), .val (.int (-1 : Int32)), .val (.int (2 : Int32)), .unset] [(.int (0 : Int32))])) st274 ?_
      refine Run.istore (pc' := 115) X274 hx (l' := #[.val (.int p0), .val (.int p1), .val (.int p2), .val (.ref b1), .val (.int (2 : Int32)), .val (.int (0 : Int32)), .val (.ref b253), .val (.int (-1 : Int32)), .val (.int (-1 : Int32)), .val (.int (-1 : Int32)), .val (.int (-1 : Int32)), .val (.int (-1 : Int32)), .val (.int (2 : Int32)), .val (.int (0 : Int32))]) (hb hby at_113) rfl rfl ?_
      refine Run.iload (pc' := 117) X274 hx (hb hby at_115) rfl rfl ?_
      refine Run.iloadN (pc' := 118) X274 hx (hb hby at_117) rfl rfl ?_
      refine Run.iload (pc' := 120) X274 hx (hb hby at_118) rfl rfl ?_
      refine Run.iload (pc' := 122) X274 hx (hb hby at_120) rfl rfl ?_
      refine Run.iconst (pc' := 123) (v := (0 : Int32)) X274 hx (hb hby at_122) rfl rfl ?_
      obtain ⟨T275, L275, v275, X275, Q275, st275⟩ := callStatic X274 hx (y := (⟨"com/example/tallyhold/tallyhold/ledger/ArrayInputReadPinLaw", "expected", "(IIII)I"⟩ : MethodName)) (Ls := #[.val (.int p0), .val (.int p1), .val (.int p2), .val (.ref b1), .val (.int (2 : Int32)), .val (.int (0 : Int32)), .val (.ref b253), .val (.int (-1 : Int32)), .val (.int (-1 : Int32)), .val (.int (-1 : Int32)), .val (.int (-1 : Int32)), .val (.int (-1 : Int32)), .val (.int (2 : Int32)), .val (.int (0 : Int32))]) (rest := [(.int (-1 : Int32))]) (W := 1) (argsL := [(.int p0), (.int (2 : Int32)), (.int (0 : Int32)), (.int (0 : Int32))]) hZ hown (hw _ (List.mem_of_getElem? (i := 45) rfl)) (hw _ (List.mem_of_getElem? (i := 46) rfl)) (hw _ (List.mem_of_getElem? (i := 47) rfl)) (hw _ (List.mem_of_getElem? (i := 48) rfl)) (by decide) e274 (rm8 l Z a0 hw [] p0 (2 : Int32) (0 : Int32) (0 : Int32)  T270.heap n0 Z270 ) (hb hby at_123) (lenOf own_pd5 rfl) (by decide) (by decide) (by rw [hml]; rfl) (Nat.le_of_eq rfl) (by decide) (by decide)
      obtain ⟨hv275, M275, e275⟩ := Q275
      rw [show (own_F8 p0 (2 : Int32) (0 : Int32) (0 : Int32)) = (-1 : Int32) from rfl] at hv275
      subst hv275
      have N275 := Fr.app N274 M275
      refine Run.back (g' := (mkF m 126 #[.val (.int p0), .val (.int p1), .val (.int p2), .val (.ref b1), .val (.int (2 : Int32)), .val (.int (0 : Int32)), .val (.ref b253), .val (.int (-1 : Int32)), .val (.int (-1 : Int32)), .val (.int (-1 : Int32)), .val (.int (-1 : Int32)), .val (.int (-1 : Int32)), .val (.int (2 : Int32)), .val (.int (0 : Int32))] [(.int (-1 : Int32)), (.int (-1 : Int32))])) st275 ?_
      refine Run.icmpNo (pc' := 129) X275 hx (hb hby at_126) (teq rfl).2 rfl ?_
      refine Run.iload (pc' := 131) X275 hx (hb hby at_129) rfl rfl ?_
      refine Run.iloadN (pc' := 132) X275 hx (hb hby at_131) rfl rfl ?_
      refine Run.iload (pc' := 134) X275 hx (hb hby at_132) rfl rfl ?_
      refine Run.iload (pc' := 136) X275 hx (hb hby at_134) rfl rfl ?_
      refine Run.iconst (pc' := 137) (v := (1 : Int32)) X275 hx (hb hby at_136) rfl rfl ?_
      obtain ⟨T276, L276, v276, X276, Q276, st276⟩ := callStatic X275 hx (y := (⟨"com/example/tallyhold/tallyhold/ledger/ArrayInputReadPinLaw", "expected", "(IIII)I"⟩ : MethodName)) (Ls := #[.val (.int p0), .val (.int p1), .val (.int p2), .val (.ref b1), .val (.int (2 : Int32)), .val (.int (0 : Int32)), .val (.ref b253), .val (.int (-1 : Int32)), .val (.int (-1 : Int32)), .val (.int (-1 : Int32)), .val (.int (-1 : Int32)), .val (.int (-1 : Int32)), .val (.int (2 : Int32)), .val (.int (0 : Int32))]) (rest := [(.int (-1 : Int32))]) (W := 1) (argsL := [(.int p0), (.int (2 : Int32)), (.int (0 : Int32)), (.int (1 : Int32))]) hZ hown (hw _ (List.mem_of_getElem? (i := 45) rfl)) (hw _ (List.mem_of_getElem? (i := 46) rfl)) (hw _ (List.mem_of_getElem? (i := 47) rfl)) (hw _ (List.mem_of_getElem? (i := 48) rfl)) (by decide) e275 (rm8 l Z a0 hw [] p0 (2 : Int32) (0 : Int32) (1 : Int32)  T270.heap n0 Z270 ) (hb hby at_137) (lenOf own_pd5 rfl) (by decide) (by decide) (by rw [hml]; rfl) (Nat.le_of_eq rfl) (by decide) (by decide)
      obtain ⟨hv276, M276, e276⟩ := Q276
      rw [show (own_F8 p0 (2 : Int32) (0 : Int32) (1 : Int32)) = (-1 : Int32) from rfl] at hv276
      subst hv276
      have N276 := Fr.app N275 M276
      refine Run.back (g' := (mkF m 140 #[.val (.int p0), .val (.int p1), .val (.int p2), .val (.ref b1), .val (.int (2 : Int32)), .val (.int (0 : Int32)), .val (.ref b253), .val (.int (-1 : Int32)), .val (.int (-1 : Int32)), .val (.int (-1 : Int32)), .val (.int (-1 : Int32)), .val (.int (-1 : Int32)), .val (.int (2 : Int32)), .val (.int (0 : Int32))] [(.int (-1 : Int32)), (.int (-1 : Int32))])) st276 ?_
      refine Run.icmpNo (pc' := 143) X276 hx (hb hby at_140) (teq rfl).2 rfl ?_
      refine Run.iload (pc' := 145) X276 hx (hb hby at_143) rfl rfl ?_
      refine Run.iloadN (pc' := 146) X276 hx (hb hby at_145) rfl rfl ?_
      refine Run.iload (pc' := 148) X276 hx (hb hby at_146) rfl rfl ?_
      refine Run.iload (pc' := 150) X276 hx (hb hby at_148) rfl rfl ?_
      refine Run.iconst (pc' := 151) (v := (2 : Int32)) X276 hx (hb hby at_150) rfl rfl ?_
      obtain ⟨T277, L277, v277, X277, Q277, st277⟩ := callStatic X276 hx (y := (⟨"com/example/tallyhold/tallyhold/ledger/ArrayInputReadPinLaw", "expected", "(IIII)I"⟩ : MethodName)) (Ls := #[.val (.int p0), .val (.int p1), .val (.int p2), .val (.ref b1), .val (.int (2 : Int32)), .val (.int (0 : Int32)), .val (.ref b253), .val (.int (-1 : Int32)), .val (.int (-1 : Int32)), .val (.int (-1 : Int32)), .val (.int (-1 : Int32)), .val (.int (-1 : Int32)), .val (.int (2 : Int32)), .val (.int (0 : Int32))]) (rest := [(.int (-1 : Int32))]) (W := 1) (argsL := [(.int p0), (.int (2 : Int32)), (.int (0 : Int32)), (.int (2 : Int32))]) hZ hown (hw _ (List.mem_of_getElem? (i := 45) rfl)) (hw _ (List.mem_of_getElem? (i := 46) rfl)) (hw _ (List.mem_of_getElem? (i := 47) rfl)) (hw _ (List.mem_of_getElem? (i := 48) rfl)) (by decide) e276 (rm8 l Z a0 hw [] p0 (2 : Int32) (0 : Int32) (2 : Int32)  T270.heap n0 Z270 ) (hb hby at_151) (lenOf own_pd5 rfl) (by decide) (by decide) (by rw [hml]; rfl) (Nat.le_of_eq rfl) (by decide) (by decide)
      obtain ⟨hv277, M277, e277⟩ := Q277
      rw [show (own_F8 p0 (2 : Int32) (0 : Int32) (2 : Int32)) = (-1 : Int32) from rfl] at hv277
      subst hv277
      have N277 := Fr.app N276 M277
      refine Run.back (g' := (mkF m 154 #[.val (.int p0), .val (.int p1), .val (.int p2), .val (.ref b1), .val (.int (2 : Int32)), .val (.int (0 : Int32)), .val (.ref b253), .val (.int (-1 : Int32)), .val (.int (-1 : Int32)), .val (.int (-1 : Int32)), .val (.int (-1 : Int32)), .val (.int (-1 : Int32)), .val (.int (2 : Int32)), .val (.int (0 : Int32))] [(.int (-1 : Int32)), (.int (-1 : Int32))])) st277 ?_
      refine Run.icmpNo (pc' := 157) X277 hx (hb hby at_154) (teq rfl).2 rfl ?_
      refine Run.iload (pc' := 159) X277 hx (hb hby at_157) rfl rfl ?_
      refine Run.iloadN (pc' := 160) X277 hx (hb hby at_159) rfl rfl ?_
      refine Run.iload (pc' := 162) X277 hx (hb hby at_160) rfl rfl ?_
      refine Run.iload (pc' := 164) X277 hx (hb hby at_162) rfl rfl ?_
      refine Run.iconst (pc' := 165) (v := (3 : Int32)) X277 hx (hb hby at_164) rfl rfl ?_
      obtain ⟨T278, L278, v278, X278, Q278, st278⟩ := callStatic X277 hx (y := (⟨"com/example/tallyhold/tallyhold/ledger/ArrayInputReadPinLaw", "expected", "(IIII)I"⟩ : MethodName)) (Ls := #[.val (.int p0), .val (.int p1), .val (.int p2), .val (.ref b1), .val (.int (2 : Int32)), .val (.int (0 : Int32)), .val (.ref b253), .val (.int (-1 : Int32)), .val (.int (-1 : Int32)), .val (.int (-1 : Int32)), .val (.int (-1 : Int32)), .val (.int (-1 : Int32)), .val (.int (2 : Int32)), .val (.int (0 : Int32))]) (rest := [(.int (-1 : Int32))]) (W := 1) (argsL := [(.int p0), (.int (2 : Int32)), (.int (0 : Int32)), (.int (3 : Int32))]) hZ hown (hw _ (List.mem_of_getElem? (i := 45) rfl)) (hw _ (List.mem_of_getElem? (i := 46) rfl)) (hw _ (List.mem_of_getElem? (i := 47) rfl)) (hw _ (List.mem_of_getElem? (i := 48) rfl)) (by decide) e277 (rm8 l Z a0 hw [] p0 (2 : Int32) (0 : Int32) (3 : Int32)  T270.heap n0 Z270 ) (hb hby at_165) (lenOf own_pd5 rfl) (by decide) (by decide) (by rw [hml]; rfl) (Nat.le_of_eq rfl) (by decide) (by decide)
      obtain ⟨hv278, M278, e278⟩ := Q278
      rw [show (own_F8 p0 (2 : Int32) (0 : Int32) (3 : Int32)) = (-1 : Int32) from rfl] at hv278
      subst hv278
      have N278 := Fr.app N277 M278
      refine Run.back (g' := (mkF m 168 #[.val (.int p0), .val (.int p1), .val (.int p2), .val (.ref b1), .val (.int (2 : Int32)), .val (.int (0 : Int32)), .val (.ref b253), .val (.int (-1 : Int32)), .val (.int (-1 : Int32)), .val (.int (-1 : Int32)), .val (.int (-1 : Int32)), .val (.int (-1 : Int32)), .val (.int (2 : Int32)), .val (.int (0 : Int32))] [(.int (-1 : Int32)), (.int (-1 : Int32))])) st278 ?_
      refine Run.icmpNo (pc' := 171) X278 hx (hb hby at_168) (teq rfl).2 rfl ?_
      refine Run.iload (pc' := 173) X278 hx (hb hby at_171) rfl rfl ?_
      refine Run.iloadN (pc' := 174) X278 hx (hb hby at_173) rfl rfl ?_
      refine Run.iload (pc' := 176) X278 hx (hb hby at_174) rfl rfl ?_
      refine Run.iload (pc' := 178) X278 hx (hb hby at_176) rfl rfl ?_
      refine Run.iconst (pc' := 179) (v := (4 : Int32)) X278 hx (hb hby at_178) rfl rfl ?_
      obtain ⟨T279, L279, v279, X279, Q279, st279⟩ := callStatic X278 hx (y := (⟨"com/example/tallyhold/tallyhold/ledger/ArrayInputReadPinLaw", "expected", "(IIII)I"⟩ : MethodName)) (Ls := #[.val (.int p0), .val (.int p1), .val (.int p2), .val (.ref b1), .val (.int (2 : Int32)), .val (.int (0 : Int32)), .val (.ref b253), .val (.int (-1 : Int32)), .val (.int (-1 : Int32)), .val (.int (-1 : Int32)), .val (.int (-1 : Int32)), .val (.int (-1 : Int32)), .val (.int (2 : Int32)), .val (.int (0 : Int32))]) (rest := [(.int (-1 : Int32))]) (W := 1) (argsL := [(.int p0), (.int (2 : Int32)), (.int (0 : Int32)), (.int (4 : Int32))]) hZ hown (hw _ (List.mem_of_getElem? (i := 45) rfl)) (hw _ (List.mem_of_getElem? (i := 46) rfl)) (hw _ (List.mem_of_getElem? (i := 47) rfl)) (hw _ (List.mem_of_getElem? (i := 48) rfl)) (by decide) e278 (rm8 l Z a0 hw [] p0 (2 : Int32) (0 : Int32) (4 : Int32)  T270.heap n0 Z270 ) (hb hby at_179) (lenOf own_pd5 rfl) (by decide) (by decide) (by rw [hml]; rfl) (Nat.le_of_eq rfl) (by decide) (by decide)
      obtain ⟨hv279, M279, e279⟩ := Q279
      rw [show (own_F8 p0 (2 : Int32) (0 : Int32) (4 : Int32)) = (-1 : Int32) from rfl] at hv279
      subst hv279
      have N279 := Fr.app N278 M279
      refine Run.back (g' := (mkF m 182 #[.val (.int p0), .val (.int p1), .val (.int p2), .val (.ref b1), .val (.int (2 : Int32)), .val (.int (0 : Int32)), .val (.ref b253), .val (.int (-1 : Int32)), .val (.int (-1 : Int32)), .val (.int (-1 : Int32)), .val (.int (-1 : Int32)), .val (.int (-1 : Int32)), .val (.int (2 : Int32)), .val (.int (0 : Int32))] [(.int (-1 : Int32)), (.int (-1 : Int32))])) st279 ?_
      refine Run.icmpNo (pc' := 185) X279 hx (hb hby at_182) (teq rfl).2 rfl ?_
      refine Run.iload (pc' := 187) X279 hx (hb hby at_185) rfl rfl ?_
      refine Run.iload (pc' := 189) X279 hx (hb hby at_187) rfl rfl ?_
      refine Run.iload (pc' := 191) X279 hx (hb hby at_189) rfl rfl ?_
      refine Run.iadd (pc' := 192) X279 hx (hb hby at_191) rfl ?_
      refine Run.icmpNo (pc' := 195) X279 hx (hb hby at_192) (teq (by decide : (2 : Int32) = ((2 : Int32) + (0 : Int32)))).2 rfl ?_
      refine Run.iload (pc' := 197) X279 hx (hb hby at_195) rfl rfl ?_
      refine Run.ifNo (pc' := 200) X279 hx (hb hby at_197) ((if0 _ _).trans (teq (by decide : (0 : Int32) = (0 : Int32))).2) rfl ?_
      refine Run.iconst (pc' := 201) (v := (1 : Int32)) X279 hx (hb hby at_200) rfl rfl ?_
      refine Run.goto (pc' := 205) X279 hx (hb hby at_201) (by decide) (by decide) ?_
      exact Run.retSmall X279 hx (t := .boolean) (z' := (1 : Int32)) Bd.notSynchronized Bd.returns (by simp) rfl (hb hby at_205) ⟨rfl, N279⟩ (by decide) (by decide)
    · rw [hl]
      obtain ⟨T280, h280, X280, e280, E280, A280, D280, -, st280⟩ := newO X8 hx hZ hown (hw _ (List.mem_of_getElem? (i := 2) rfl)) (hw _ (List.mem_of_getElem? (i := 3) rfl)) (hw _ (List.mem_of_getElem? (i := 4) rfl)) e8 (g := (mkF m 52 #[.val (.int p0), .val (.int p1), .val (.int p2), .val (.ref b1), .val (.int (2 : Int32)), .val (.int (1 : Int32)), .unset, .unset, .unset, .unset, .unset, .unset, .unset, .unset] [])) rfl (hb hby at_52) (by decide) (by decide)
      obtain ⟨b280, g280⟩ : ∃ z, z = h8.size := ⟨_, rfl⟩
      rw [← g280] at A280 D280 st280
      have ne_b1_b280 : b1 ≠ b280 := Nat.ne_of_lt (Nat.lt_of_lt_of_le (A8).lt (Nat.le_of_eq g280.symm))
      have G280 : n0 ≤ b280 := Nat.le_trans Z8 (Nat.le_of_eq g280.symm)
      have Z280 : n0 ≤ h280.size := Nat.le_trans Z8 E280.1
      have fq281 := Ints.ext E280 A8
      have F280_bytes : Fld Z h280 b280 "com/example/tallyhold/tallyhold/ledger/ArrayInput" "bytes" "[B" .null := D280 (Or.inr (hw _ (List.mem_of_getElem? (i := 25) rfl))) (ty := (.array .byte)) (by decide)
      have F280_at : Fld Z h280 b280 "com/example/tallyhold/tallyhold/ledger/ArrayInput" "at" "I" (.int (0 : Int32)) := D280 (Or.inl (hw _ (List.mem_of_getElem? (i := 27) rfl))) (ty := .int) (by decide)
      have F280_end : Fld Z h280 b280 "com/example/tallyhold/tallyhold/ledger/ArrayInput" "end" "I" (.int (0 : Int32)) := D280 (Or.inr (hw _ (List.mem_of_getElem? (i := 29) rfl))) (ty := .int) (by decide)
      refine Run.back (g' := (mkF m 55 #[.val (.int p0), .val (.int p1), .val (.int p2), .val (.ref b1), .val (.int (2 : Int32)), .val (.int (1 : Int32)), .unset, .unset, .unset, .unset, .unset, .unset, .unset, .unset] [(.ref b280)])) st280 ?_
      refine Run.dup (pc' := 56) X280 hx (hb hby at_55) rfl rfl ?_
      refine Run.aloadN (pc' := 57) X280 hx (hb hby at_56) rfl rfl ?_
      refine Run.iload (pc' := 59) X280 hx (hb hby at_57) rfl rfl ?_
      refine Run.iload (pc' := 61) X280 hx (hb hby at_59) rfl rfl ?_
      obtain ⟨T282, L282, v282, X282, Q282, st282⟩ := callSpecial X280 hx (y := (⟨"com/example/tallyhold/tallyhold/ledger/ArrayInput", "<init>", "([BII)V"⟩ : MethodName)) (a := b280) (Ls := #[.val (.int p0), .val (.int p1), .val (.int p2), .val (.ref b1), .val (.int (2 : Int32)), .val (.int (1 : Int32)), .unset, .unset, .unset, .unset, .unset, .unset, .unset, .unset]) (rest := [(.ref b280)]) (W := 1) (argsL := [(.ref b1), (.int (2 : Int32)), (.int (1 : Int32))]) rfl hZ hown (hw _ (List.mem_of_getElem? (i := 5) rfl)) (hw _ (List.mem_of_getElem? (i := 6) rfl)) (hw _ (List.mem_of_getElem? (i := 4) rfl)) (hw _ (List.mem_of_getElem? (i := 7) rfl)) (by decide) e280 (rm4 l Z a0 hw [] b280 b1 (2 : Int32) (1 : Int32) f9 h280 n0 Z280 A280 F280_bytes F280_at F280_end G280 fq281 ne_b1_b280 (by decide) (by decide)) (hb hby at_61) (lenOf own_pd3 rfl) (by decide) (by decide) (by rw [hml]; rfl) (Nat.le_of_eq rfl) (by decide) (by decide)
      obtain ⟨rfl, M282, K282, E282, F282_bytes, F282_at, F282_end⟩ := Q282
      rw [show ((2 : Int32) + (1 : Int32)) = (3 : Int32) from rfl] at F282_end
      have N282 := Fr.app N8 M282
      have fq283 := Ints.keep fq281 K282 (ninS ne_b1_b280 nin0)
      have fq284 := Exa.keep A280 K282
      have Z282 : n0 ≤ T282.heap.size := Nat.le_trans Z280 K282.1
      refine Run.back (g' := (mkF m 64 #[.val (.int p0), .val (.int p1), .val (.int p2), .val (.ref b1), .val (.int (2 : Int32)), .val (.int (1 : Int32)), .unset, .unset, .unset, .unset, .unset, .unset, .unset, .unset] [(.ref b280)])) st282 ?_
      refine Run.astore (pc' := 66) X282 hx (l' := #[.val (.int p0), .val (.int p1), .val (.int p2), .val (.ref b1), .val (.int (2 : Int32)), .val (.int (1 : Int32)), .val (.ref b280), .unset, .unset, .unset, .unset, .unset, .unset, .unset]) (hb hby at_64) rfl rfl ?_
      refine Run.aload (pc' := 68) X282 hx (hb hby at_66) rfl rfl ?_
      obtain ⟨T285, L285, v285, X285, Q285, st285⟩ := callVirtual X282 hx (y := (⟨"com/example/tallyhold/tallyhold/ledger/ArrayInput", "read", "()I"⟩ : MethodName)) (z := (⟨"com/example/tallyhold/tallyhold/ledger/ArrayInput", "read", "()I"⟩ : MethodName)) (C := "com/example/tallyhold/tallyhold/ledger/ArrayInput") (a := b280) (Ls := #[.val (.int p0), .val (.int p1), .val (.int p2), .val (.ref b1), .val (.int (2 : Int32)), .val (.int (1 : Int32)), .val (.ref b280), .unset, .unset, .unset, .unset, .unset, .unset, .unset]) (rest := []) (W := 0) (argsL := []) hZ hown (hw _ (List.mem_of_getElem? (i := 30) rfl)) (hw _ (List.mem_of_getElem? (i := 31) rfl)) (notFace_of_selects (args := #[]) (mvT hZ (hw _ (List.mem_of_getElem? (i := 33) rfl)))) (hw _ (List.mem_of_getElem? (i := 33) rfl)) (hw _ (List.mem_of_getElem? (i := 32) rfl)) (hw _ (List.mem_of_getElem? (i := 4) rfl)) (hw _ (List.mem_of_getElem? (i := 34) rfl)) (by decide) rfl E282 (rm5 l Z a0 hw [] b280 b1 (2 : Int32) (3 : Int32) f9 T282.heap n0 Z282 E282 F282_bytes F282_at F282_end G280 fq283 ne_b1_b280 (by decide) (by decide)) (hb hby at_68) (lenOf own_pd4 rfl) (by decide) (by decide) (by rw [hml]; rfl) (Nat.le_of_eq rfl) (by decide) (by decide)
      obtain ⟨hv285, M285, K285, E285, F285_bytes, F285_at, F285_end⟩ := Q285
      rw [show (own_R (2 : Int32) (3 : Int32) f9) = ((f9 (2 : Int32)) &&& (255 : Int32)) from rfl] at hv285
      subst hv285
      rw [show (own_N (2 : Int32) (3 : Int32)) = (3 : Int32) from rfl] at F285_at
      have N285 := Fr.app N282 M285
      have fq286 := Ints.keep fq283 K285 (ninS ne_b1_b280 nin0)
      have fq287 := Exa.keep E282 K285
      have Z285 : n0 ≤ T285.heap.size := Nat.le_trans Z282 K285.1
      refine Run.back (g' := (mkF m 71 #[.val (.int p0), .val (.int p1), .val (.int p2), .val (.ref b1), .val (.int (2 : Int32)), .val (.int (1 : Int32)), .val (.ref b280), .unset, .unset, .unset, .unset, .unset, .unset, .unset] [(.int ((f9 (2 : Int32)) &&& (255 : Int32)))])) st285 ?_
      refine Run.istore (pc' := 73) X285 hx (l' := #[.val (.int p0), .val (.int p1), .val (.int p2), .val (.ref b1), .val (.int (2 : Int32)), .val (.int (1 : Int32)), .val (.ref b280), .val (.int ((f9 (2 : Int32)) &&& (255 : Int32))), .unset, .unset, .unset, .unset, .unset, .unset]) (hb hby at_71) rfl rfl ?_
      refine Run.aload (pc' := 75) X285 hx (hb hby at_73) rfl rfl ?_
      obtain ⟨T288, L288, v288, X288, Q288, st288⟩ := callVirtual X285 hx (y := (⟨"com/example/tallyhold/tallyhold/ledger/ArrayInput", "read", "()I"⟩ : MethodName)) (z := (⟨"com/example/tallyhold/tallyhold/ledger/ArrayInput", "read", "()I"⟩ : MethodName)) (C := "com/example/tallyhold/tallyhold/ledger/ArrayInput") (a := b280) (Ls := #[.val (.int p0), .val (.int p1), .val (.int p2), .val (.ref b1), .val (.int (2 : Int32)), .val (.int (1 : Int32)), .val (.ref b280), .val (.int ((f9 (2 : Int32)) &&& (255 : Int32))), .unset, .unset, .unset, .unset, .unset, .unset]) (rest := []) (W := 0) (argsL := []) hZ hown (hw _ (List.mem_of_getElem? (i := 30) rfl)) (hw _ (List.mem_of_getElem? (i := 31) rfl)) (notFace_of_selects (args := #[]) (mvT hZ (hw _ (List.mem_of_getElem? (i := 33) rfl)))) (hw _ (List.mem_of_getElem? (i := 33) rfl)) (hw _ (List.mem_of_getElem? (i := 32) rfl)) (hw _ (List.mem_of_getElem? (i := 4) rfl)) (hw _ (List.mem_of_getElem? (i := 34) rfl)) (by decide) rfl E285 (rm5 l Z a0 hw [] b280 b1 (3 : Int32) (3 : Int32) f9 T285.heap n0 Z285 E285 F285_bytes F285_at F285_end G280 fq286 ne_b1_b280 (by decide) (by decide)) (hb hby at_75) (lenOf own_pd4 rfl) (by decide) (by decide) (by rw [hml]; rfl) (Nat.le_of_eq rfl) (by decide) (by decide)
      obtain ⟨hv288, M288, K288, E288, F288_bytes, F288_at, F288_end⟩ := Q288
      rw [show (own_R (3 : Int32) (3 : Int32) f9) = (-1 : Int32) from rfl] at hv288
      subst hv288
      rw [show (own_N (3 : Int32) (3 : Int32)) = (3 : Int32) from rfl] at F288_at
      have N288 := Fr.app N285 M288
      have fq289 := Ints.keep fq286 K288 (ninS ne_b1_b280 nin0)
      have fq290 := Exa.keep E285 K288
      have Z288 : n0 ≤ T288.heap.size := Nat.le_trans Z285 K288.1
      refine Run.back (g' := (mkF m 78 #[.val (.int p0), .val (.int p1), .val (.int p2), .val (.ref b1), .val (.int (2 : Int32)), .val (.int (1 : Int32)), .val (.ref b280), .val (.int ((f9 (2 : Int32)) &&& (255 : Int32))), .unset, .unset, .unset, .unset, .unset, .unset] [(.int (-1 : Int32))])) st288 ?_
      refine Run.istore (pc' := 80) X288 hx (l' := #[.val (.int p0), .val (.int p1), .val (.int p2), .val (.ref b1), .val (.int (2 : Int32)), .val (.int (1 : Int32)), .val (.ref b280), .val (.int ((f9 (2 : Int32)) &&& (255 : Int32))), .val (.int (-1 : Int32)), .unset, .unset, .unset, .unset, .unset]) (hb hby at_78) rfl rfl ?_
      refine Run.aload (pc' := 82) X288 hx (hb hby at_80) rfl rfl ?_
      obtain ⟨T291, L291, v291, X291, Q291, st291⟩ := callVirtual X288 hx (y := (⟨"com/example/tallyhold/tallyhold/ledger/ArrayInput", "read", "()I"⟩ : MethodName)) (z := (⟨"com/example/tallyhold/tallyhold/ledger/ArrayInput", "read", "()I"⟩ : MethodName)) (C := "com/example/tallyhold/tallyhold/ledger/ArrayInput") (a := b280) (Ls := #[.val (.int p0), .val (.int p1), .val (.int p2), .val (.ref b1), .val (.int (2 : Int32)), .val (.int (1 : Int32)), .val (.ref b280), .val (.int ((f9 (2 : Int32)) &&& (255 : Int32))), .val (.int (-1 : Int32)), .unset, .unset, .unset, .unset, .unset]) (rest := []) (W := 0) (argsL := []) hZ hown (hw _ (List.mem_of_getElem? (i := 30) rfl)) (hw _ (List.mem_of_getElem? (i := 31) rfl)) (notFace_of_selects (args := #[]) (mvT hZ (hw _ (List.mem_of_getElem? (i := 33) rfl)))) (hw _ (List.mem_of_getElem? (i := 33) rfl)) (hw _ (List.mem_of_getElem? (i := 32) rfl)) (hw _ (List.mem_of_getElem? (i := 4) rfl)) (hw _ (List.mem_of_getElem? (i := 34) rfl)) (by decide) rfl E288 (rm5 l Z a0 hw [] b280 b1 (3 : Int32) (3 : Int32) f9 T288.heap n0 Z288 E288 F288_bytes F288_at F288_end G280 fq289 ne_b1_b280 (by decide) (by decide)) (hb hby at_82) (lenOf own_pd4 rfl) (by decide) (by decide) (by rw [hml]; rfl) (Nat.le_of_eq rfl) (by decide) (by decide)
      obtain ⟨hv291, M291, K291, E291, F291_bytes, F291_at, F291_end⟩ := Q291
      rw [show (own_R (3 : Int32) (3 : Int32) f9) = (-1 : Int32) from rfl] at hv291
      subst hv291
      rw [show (own_N (3 : Int32) (3 : Int32)) = (3 : Int32) from rfl] at F291_at
      have N291 := Fr.app N288 M291
      have fq292 := Ints.keep fq289 K291 (ninS ne_b1_b280 nin0)
      have fq293 := Exa.keep E288 K291
      have Z291 : n0 ≤ T291.heap.size := Nat.le_trans Z288 K291.1
      refine Run.back (g' := (mkF m 85 #[.val (.int p0), .val (.int p1), .val (.int p2), .val (.ref b1), .val (.int (2 : Int32)), .val (.int (1 : Int32)), .val (.ref b280), .val (.int ((f9 (2 : Int32)) &&& (255 : Int32))), .val (.int (-1 : Int32)), .unset, .unset, .unset, .unset, .unset] [(.int (-1 : Int32))])) st291 ?_
      refine Run.istore (pc' := 87) X291 hx (l' := #[.val (.int p0), .val (.int p1), .val (.int p2), .val (.ref b1), .val (.int (2 : Int32)), .val (.int (1 : Int32)), .val (.ref b280), .val (.int ((f9 (2 : Int32)) &&& (255 : Int32))), .val (.int (-1 : Int32)), .val (.int (-1 : Int32)), .unset, .unset, .unset, .unset]) (hb hby at_85) rfl rfl ?_
      refine Run.aload (pc' := 89) X291 hx (hb hby at_87) rfl rfl ?_
      obtain ⟨T294, L294, v294, X294, Q294, st294⟩ := callVirtual X291 hx (y := (⟨"com/example/tallyhold/tallyhold/ledger/ArrayInput", "read", "()I"⟩ : MethodName)) (z := (⟨"com/example/tallyhold/tallyhold/ledger/ArrayInput", "read", "()I"⟩ : MethodName)) (C := "com/example/tallyhold/tallyhold/ledger/ArrayInput") (a := b280) (Ls := #[.val (.int p0), .val (.int p1), .val (.int p2), .val (.ref b1), .val (.int (2 : Int32)), .val (.int (1 : Int32)), .val (.ref b280), .val (.int ((f9 (2 : Int32)) &&& (255 : Int32))), .val (.int (-1 : Int32)), .val (.int (-1 : Int32)), .unset, .unset, .unset, .unset]) (rest := []) (W := 0) (argsL := []) hZ hown (hw _ (List.mem_of_getElem? (i := 30) rfl)) (hw _ (List.mem_of_getElem? (i := 31) rfl)) (notFace_of_selects (args := #[]) (mvT hZ (hw _ (List.mem_of_getElem? (i := 33) rfl)))) (hw _ (List.mem_of_getElem? (i := 33) rfl)) (hw _ (List.mem_of_getElem? (i := 32) rfl)) (hw _ (List.mem_of_getElem? (i := 4) rfl)) (hw _ (List.mem_of_getElem? (i := 34) rfl)) (by decide) rfl E291 (rm5 l Z a0 hw [] b280 b1 (3 : Int32) (3 : Int32) f9 T291.heap n0 Z291 E291 F291_bytes F291_at F291_end G280 fq292 ne_b1_b280 (by decide) (by decide)) (hb hby at_89) (lenOf own_pd4 rfl) (by decide) (by decide) (by rw [hml]; rfl) (Nat.le_of_eq rfl) (by decide) (by decide)
      obtain ⟨hv294, M294, K294, E294, F294_bytes, F294_at, F294_end⟩ := Q294
      rw [show (own_R (3 : Int32) (3 : Int32) f9) = (-1 : Int32) from rfl] at hv294
      subst hv294
      rw [show (own_N (3 : Int32) (3 : Int32)) = (3 : Int32) from rfl] at F294_at
      have N294 := Fr.app N291 M294
      have fq295 := Ints.keep fq292 K294 (ninS ne_b1_b280 nin0)
      have fq296 := Exa.keep E291 K294
      have Z294 : n0 ≤ T294.heap.size := Nat.le_trans Z291 K294.1
      refine Run.back (g' := (mkF m 92 #[.val (.int p0), .val (.int p1), .val (.int p2), .val (.ref b1), .val (.int (2 : Int32)), .val (.int (1 : Int32)), .val (.ref b280), .val (.int ((f9 (2 : Int32)) &&& (255 : Int32))), .val (.int (-1 : Int32)), .val (.int (-1 : Int32)), .unset, .unset, .unset, .unset] [(.int (-1 : Int32))])) st294 ?_
      refine Run.istore (pc' := 94) X294 hx (l' := #[.val (.int p0), .val (.int p1), .val (.int p2), .val (.ref b1), .val (.int (2 : Int32)), .val (.int (1 : Int32)), .val (.ref b280), .val (.int ((f9 (2 : Int32)) &&& (255 : Int32))), .val (.int (-1 : Int32)), .val (.int (-1 : Int32)), .val (.int (-1 : Int32)), .unset, .unset, .unset]) (hb hby at_92) rfl rfl ?_
      refine Run.aload (pc' := 96) X294 hx (hb hby at_94) rfl rfl ?_
      obtain ⟨T297, L297, v297, X297, Q297, st297⟩ := callVirtual X294 hx (y := (⟨"com/example/tallyhold/tallyhold/ledger/ArrayInput", "read", "()I"⟩ : MethodName)) (z := (⟨"com/example/tallyhold/tallyhold/ledger/ArrayInput", "read", "()I"⟩ : MethodName)) (C := "com/example/tallyhold/tallyhold/ledger/ArrayInput") (a := b280) (Ls := #[.val (.int p0), .val (.int p1), .val (.int p2), .val (.ref b1), .val (.int (2 : Int32)), .val (.int (1 : Int32)), .val (.ref b280), .val (.int ((f9 (2 : Int32)) &&& (255 : Int32))), .val (.int (-1 : Int32)), .val (.int (-1 : Int32)), .val (.int (-1 : Int32)), .unset, .unset, .unset]) (rest := []) (W := 0) (argsL := []) hZ hown (hw _ (List.mem_of_getElem? (i := 30) rfl)) (hw _ (List.mem_of_getElem? (i := 31) rfl)) (notFace_of_selects (args := #[]) (mvT hZ (hw _ (List.mem_of_getElem? (i := 33) rfl)))) (hw _ (List.mem_of_getElem? (i := 33) rfl)) (hw _ (List.mem_of_getElem? (i := 32) rfl)) (hw _ (List.mem_of_getElem? (i := 4) rfl)) (hw _ (List.mem_of_getElem? (i := 34) rfl)) (by decide) rfl E294 (rm5 l Z a0 hw [] b280 b1 (3 : Int32) (3 : Int32) f9 T294.heap n0 Z294 E294 F294_bytes F294_at F294_end G280 fq295 ne_b1_b280 (by decide) (by decide)) (hb hby at_96) (lenOf own_pd4 rfl) (by decide) (by decide) (by rw [hml]; rfl) (Nat.le_of_eq rfl) (by decide) (by decide)
      obtain ⟨hv297, M297, K297, E297, F297_bytes, F297_at, F297_end⟩ := Q297
      rw [show (own_R (3 : Int32) (3 : Int32) f9) = (-1 : Int32) from rfl] at hv297
      subst hv297
      rw [show (own_N (3 : Int32) (3 : Int32)) = (3 : Int32) from rfl] at F297_at
      have N297 := Fr.app N294 M297
      have fq298 := Ints.keep fq295 K297 (ninS ne_b1_b280 nin0)
      have fq299 := Exa.keep E294 K297
      have Z297 : n0 ≤ T297.heap.size := Nat.le_trans Z294 K297.1
      refine Run.back (g' := (mkF m 99 #[.val (.int p0), .val (.int p1), .val (.int p2), .val (.ref b1), .val (.int (2 : Int32)), .val (.int (1 : Int32)), .val (.ref b280), .val (.int ((f9 (2 : Int32)) &&& (255 : Int32))), .val (.int (-1 : Int32)), .val (.int (-1 : Int32)), .val (.int (-1 : Int32)), .unset, .unset, .unset] [(.int (-1 : Int32))])) st297 ?_
      refine Run.istore (pc' := 101) X297 hx (l' := #[.val (.int p0), .val (.int p1), .val (.int p2), .val (.ref b1), .val (.int (2 : Int32)), .val (.int (1 : Int32)), .val (.ref b280), .val (.int ((f9 (2 : Int32)) &&& (255 : Int32))), .val (.int (-1 : Int32)), .val (.int (-1 : Int32)), .val (.int (-1 : Int32)), .val (.int (-1 : Int32)), .unset, .unset]) (hb hby at_99) rfl rfl ?_
      refine Run.aload (pc' := 103) X297 hx (hb hby at_101) rfl rfl ?_
      obtain ⟨T300, L300, v300, X300, Q300, st300⟩ := callVirtual X297 hx (y := (⟨"com/example/tallyhold/tallyhold/ledger/ArrayInput", "position", "()I"⟩ : MethodName)) (z := (⟨"com/example/tallyhold/tallyhold/ledger/ArrayInput", "position", "()I"⟩ : MethodName)) (C := "com/example/tallyhold/tallyhold/ledger/ArrayInput") (a := b280) (Ls := #[.val (.int p0), .val (.int p1), .val (.int p2), .val (.ref b1), .val (.int (2 : Int32)), .val (.int (1 : Int32)), .val (.ref b280), .val (.int ((f9 (2 : Int32)) &&& (255 : Int32))), .val (.int (-1 : Int32)), .val (.int (-1 : Int32)), .val (.int (-1 : Int32)), .val (.int (-1 : Int32)), .unset, .unset]) (rest := []) (W := 0) (argsL := []) hZ hown (hw _ (List.mem_of_getElem? (i := 35) rfl)) (hw _ (List.mem_of_getElem? (i := 36) rfl)) (notFace_of_selects (args := #[]) (mvT hZ (hw _ (List.mem_of_getElem? (i := 38) rfl)))) (hw _ (List.mem_of_getElem? (i := 38) rfl)) (hw _ (List.mem_of_getElem? (i := 37) rfl)) (hw _ (List.mem_of_getElem? (i := 4) rfl)) (hw _ (List.mem_of_getElem? (i := 39) rfl)) (by decide) rfl E297 (rm6 l Z a0 hw [] b280 (3 : Int32) T297.heap n0 Z297 F297_at) (hb hby at_103) (lenOf own_pd4 rfl) (by decide) (by decide) (by rw [hml]; rfl) (Nat.le_of_eq rfl) (by decide) (by decide)
      obtain ⟨hv300, M300, e300⟩ := Q300
      rw [show (own_F6 b280 (3 : Int32)) = (3 : Int32) from rfl] at hv300
      subst hv300
      have N300 := Fr.app N297 M300
      refine Run.back (g' := (mkF m 106 #[.val (.int p0), .val (.int p1), .val (.int p2), .val (.ref b1), .val (.int (2 : Int32)), .val (.int (1 : Int32)), .val (.ref b280), .val (.int ((f9 (2 : Int32)) &&& (255 : Int32))), .val (.int (-1 : Int32)), .val (.int (-1 : Int32)), .val (.int (-1 : Int32)), .val (.int (-1 : Int32)), .unset, .unset] [(.int (3 : Int32))])) st300 ?_
      refine Run.istore (pc' := 108) X300 hx (l' := #[.val (.int p0), .val (.int p1), .val (.int p2), .val (.ref b1), .val (.int (2 : Int32)), .val (.int (1 : Int32)), .val (.ref b280), .val (.int ((f9 (2 : Int32)) &&& (255 : Int32))), .val (.int (-1 : Int32)), .val (.int (-1 : Int32)), .val (.int (-1 : Int32)), .val (.int (-1 : Int32)), .val (.int (3 : Int32)), .unset]) (hb hby at_106) rfl rfl ?_
      refine Run.aload (pc' := 110) X300 hx (hb hby at_108) rfl rfl ?_
      obtain ⟨T301, L301, v301, X301, Q301, st301⟩ := callVirtual X300 hx (y := (⟨"com/example/tallyhold/tallyhold/ledger/ArrayInput", "available", "()I"⟩ : MethodName)) (z := (⟨"com/example/tallyhold/tallyhold/ledger/ArrayInput", "available", "()I"⟩ : MethodName)) (C := "com/example/tallyhold/tallyhold/ledger/ArrayInput") (a := b280) (Ls := #[.val (.int p0), .val (.int p1), .val (.int p2), .val (.ref b1), .val (.int (2 : Int32)), .val (.int (1 : Int32)), .val (.ref b280), .val (.int ((f9 (2 : Int32)) &&& (255 : Int32))), .val (.int (-1 : Int32)), .val (.int (-1 : Int32)), .val (.int (-1 : Int32)), .val (.int (-1 : Int32)), .val (.int (3 : Int32)), .unset]) (rest := []) (W := 0) (argsL := []) hZ hown (hw _ (List.mem_of_getElem? (i := 40) rfl)) (hw _ (List.mem_of_getElem? (i := 41) rfl)) (notFace_of_selects (args := #[]) (mvT hZ (hw _ (List.mem_of_getElem? (i := 43) rfl)))) (hw _ (List.mem_of_getElem? (i := 43) rfl)) (hw _ (List.mem_of_getElem? (i := 42) rfl)) (hw _ (List.mem_of_getElem? (i := 4) rfl)) (hw _ (List.mem_of_getElem? (i := 44) rfl)) (by decide) e300 E297 (rm7 l Z a0 hw [] b280 (3 : Int32) (3 : Int32) T297.heap n0 Z297 F297_at F297_end) (hb hby at_110) (lenOf own_pd4 rfl) (by decide) (by decide) (by rw [hml]; rfl) (Nat.le_of_eq rfl) (by decide) (by decide)
      obtain ⟨hv301, M301, e301⟩ := Q301
      rw [show (own_F7 b280 (3 : Int32) (3 : Int32)) = (0 : Int32) from rfl] at hv301
      subst hv301
      have N301 := Fr.app N300 M301
      refine Run.back (g' := (mkF m 113 #[.val (.int p0), .val (.int p1), .val (.int p2), .val (.ref b1), .val (.int (2 : Int32)), .val (.int (1 : Int32)), .val (.ref b280), .val (.int ((f9 (2 : Int32)) &&& (255 : Int32))), .val (.int (-1 : Int32)), .val (.int (-1 : Int32)), .val (.int (-1 : Int32)), .val (.int (-1 : Int32)), .val (.int (3 : Int32)), .unset] [(.int (0 : Int32))])) st301 ?_
      refine Run.istore (pc' := 115) X301 hx (l' := #[.val (.int p0), .val (.int p1), .val (.int p2), .val (.ref b1), .val (.int (2 : Int32)), .val (.int (1 : Int32)), .val (.ref b280), .val (.int ((f9 (2 : Int32)) &&& (255 : Int32))), .val (.int (-1 : Int32)), .val (.int (-1 : Int32)), .val (.int (-1 : Int32)), .val (.int (-1 : Int32)), .val (.int (3 : Int32)), .val (.int (0 : Int32))]) (hb hby at_113) rfl rfl ?_
      refine Run.iload (pc' := 117) X301 hx (hb hby at_115) rfl rfl ?_
      refine Run.iloadN (pc' := 118) X301 hx (hb hby at_117) rfl rfl ?_
      refine Run.iload (pc' := 120) X301 hx (hb hby at_118) rfl rfl ?_
      refine Run.iload (pc' := 122) X301 hx (hb hby at_120) rfl rfl ?_
      refine Run.iconst (pc' := 123) (v := (0 : Int32)) X301 hx (hb hby at_122) rfl rfl ?_
      obtain ⟨T302, L302, v302, X302, Q302, st302⟩ := callStatic X301 hx (y := (⟨"com/example/tallyhold/tallyhold/ledger/ArrayInputReadPinLaw", "expected", "(IIII)I"⟩ : MethodName)) (Ls := #[.val (.int p0), .val (.int p1), .val (.int p2), .val (.ref b1), .val (.int (2 : Int32)), .val (.int (1 : Int32)), .val (.ref b280), .val (.int ((f9 (2 : Int32)) &&& (255 : Int32))), .val (.int (-1 : Int32)), .val (.int (-1 : Int32)), .val (.int (-1 : Int32)), .val (.int (-1 : Int32)), .val (.int (3 : Int32)), .val (.int (0 : Int32))]) (rest := [(.int ((f9 (2 : Int32)) &&& (255 : Int32)))]) (W := 1) (argsL := [(.int p0), (.int (2 : Int32)), (.int (1 : Int32)), (.int (0 : Int32))]) hZ hown (hw _ (List.mem_of_getElem? (i := 45) rfl)) (hw _ (List.mem_of_getElem? (i := 46) rfl)) (hw _ (List.mem_of_getElem? (i := 47) rfl)) (hw _ (List.mem_of_getElem? (i := 48) rfl)) (by decide) e301 (rm8 l Z a0 hw [] p0 (2 : Int32) (1 : Int32) (0 : Int32)  T297.heap n0 Z297 ) (hb hby at_123) (lenOf own_pd5 rfl) (by decide) (by decide) (by rw [hml]; rfl) (Nat.le_of_eq rfl) (by decide) (by decide)
      obtain ⟨hv302, M302, e302⟩ := Q302
      rw [show (own_F8 p0 (2 : Int32) (1 : Int32) (0 : Int32)) = (((p0.toUInt32 >>> ((16 : Int32) &&& 31).toUInt32).toInt32) &&& (255 : Int32)) from rfl] at hv302
      subst hv302
      have N302 := Fr.app N301 M302
      refine Run.back (g' := (mkF m 126 #[.val (.int p0), .val (.int p1), .val (.int p2), .val (.ref b1), .val (.int (2 : Int32)), .val (.int (1 : Int32)), .val (.ref b280), .val (.int ((f9 (2 : Int32)) &&& (255 : Int32))), .val (.int (-1 : Int32)), .val (.int (-1 : Int32)), .val (.int (-1 : Int32)), .val (.int (-1 : Int32)), .val (.int (3 : Int32)), .val (.int (0 : Int32))] [(.int (((p0.toUInt32 >>> ((16 : Int32) &&& 31).toUInt32).toInt32) &&& (255 : Int32))), (.int ((f9 (2 : Int32)) &&& (255 : Int32)))])) st302 ?_
      refine Run.icmpNo (pc' := 129) X302 hx (hb hby at_126) (teq (own_b2 g2)).2 rfl ?_
      refine Run.iload (pc' := 131) X302 hx (hb hby at_129) rfl rfl ?_
      refine Run.iloadN (pc' := 132) X302 hx (hb hby at_131) rfl rfl ?_
      refine Run.iload (pc' := 134) X302 hx (hb hby at_132) rfl rfl ?_
      refine Run.iload (pc' := 136) X302 hx (hb hby at_134) rfl rfl ?_
      refine Run.iconst (pc' := 137) (v := (1 : Int32)) X302 hx (hb hby at_136) rfl rfl ?_
      obtain ⟨T303, L303, v303, X303, Q303, st303⟩ := callStatic X302 hx (y := (⟨"com/example/tallyhold/tallyhold/ledger/ArrayInputReadPinLaw", "expected", "(IIII)I"⟩ : MethodName)) (Ls := #[.val (.int p0), .val (.int p1), .val (.int p2), .val (.ref b1), .val (.int (2 : Int32)), .val (.int (1 : Int32)), .val (.ref b280), .val (.int ((f9 (2 : Int32)) &&& (255 : Int32))), .val (.int (-1 : Int32)), .val (.int (-1 : Int32)), .val (.int (-1 : Int32)), .val (.int (-1 : Int32)), .val (.int (3 : Int32)), .val (.int (0 : Int32))]) (rest := [(.int (-1 : Int32))]) (W := 1) (argsL := [(.int p0), (.int (2 : Int32)), (.int (1 : Int32)), (.int (1 : Int32))]) hZ hown (hw _ (List.mem_of_getElem? (i := 45) rfl)) (hw _ (List.mem_of_getElem? (i := 46) rfl)) (hw _ (List.mem_of_getElem? (i := 47) rfl)) (hw _ (List.mem_of_getElem? (i := 48) rfl)) (by decide) e302 (rm8 l Z a0 hw [] p0 (2 : Int32) (1 : Int32) (1 : Int32)  T297.heap n0 Z297 ) (hb hby at_137) (lenOf own_pd5 rfl) (by decide) (by decide) (by rw [hml]; rfl) (Nat.le_of_eq rfl) (by decide) (by decide)
      obtain ⟨hv303, M303, e303⟩ := Q303
      rw [show (own_F8 p0 (2 : Int32) (1 : Int32) (1 : Int32)) = (-1 : Int32) from rfl] at hv303
      subst hv303
      have N303 := Fr.app N302 M303
      refine Run.back (g' := (mkF m 140 #[.val (.int p0), .val (.int p1), .val (.int p2), .val (.ref b1), .val (.int (2 : Int32)), .val (.int (1 : Int32)), .val (.ref b280), .val (.int ((f9 (2 : Int32)) &&& (255 : Int32))), .val (.int (-1 : Int32)), .val (.int (-1 : Int32)), .val (.int (-1 : Int32)), .val (.int (-1 : Int32)), .val (.int (3 : Int32)), .val (.int (0 : Int32))] [(.int (-1 : Int32)), (.int (-1 : Int32))])) st303 ?_
      refine Run.icmpNo (pc' := 143) X303 hx (hb hby at_140) (teq rfl).2 rfl ?_
      refine Run.iload (pc' := 145) X303 hx (hb hby at_143) rfl rfl ?_
      refine Run.iloadN (pc' := 146) X303 hx (hb hby at_145) rfl rfl ?_
      refine Run.iload (pc' := 148) X303 hx (hb hby at_146) rfl rfl ?_
      refine Run.iload (pc' := 150) X303 hx (hb hby at_148) rfl rfl ?_
      refine Run.iconst (pc' := 151) (v := (2 : Int32)) X303 hx (hb hby at_150) rfl rfl ?_
      obtain ⟨T304, L304, v304, X304, Q304, st304⟩ := callStatic X303 hx (y := (⟨"com/example/tallyhold/tallyhold/ledger/ArrayInputReadPinLaw", "expected", "(IIII)I"⟩ : MethodName)) (Ls := #[.val (.int p0), .val (.int p1), .val (.int p2), .val (.ref b1), .val (.int (2 : Int32)), .val (.int (1 : Int32)), .val (.ref b280), .val (.int ((f9 (2 : Int32)) &&& (255 : Int32))), .val (.int (-1 : Int32)), .val (.int (-1 : Int32)), .val (.int (-1 : Int32)), .val (.int (-1 : Int32)), .val (.int (3 : Int32)), .val (.int (0 : Int32))]) (rest := [(.int (-1 : Int32))]) (W := 1) (argsL := [(.int p0), (.int (2 : Int32)), (.int (1 : Int32)), (.int (2 : Int32))]) hZ hown (hw _ (List.mem_of_getElem? (i := 45) rfl)) (hw _ (List.mem_of_getElem? (i := 46) rfl)) (hw _ (List.mem_of_getElem? (i := 47) rfl)) (hw _ (List.mem_of_getElem? (i := 48) rfl)) (by decide) e303 (rm8 l Z a0 hw [] p0 (2 : Int32) (1 : Int32) (2 : Int32)  T297.heap n0 Z297 ) (hb hby at_151) (lenOf own_pd5 rfl) (by decide) (by decide) (by rw [hml]; rfl) (Nat.le_of_eq rfl) (by decide) (by decide)
      obtain ⟨hv304, M304, e304⟩ := Q304
      rw [show (own_F8 p0 (2 : Int32) (1 : Int32) (2 : Int32)) = (-1 : Int32) from rfl] at hv304
      subst hv304
      have N304 := Fr.app N303 M304
      refine Run.back (g' := (mkF m 154 #[.val (.int p0), .val (.int p1), .val (.int p2), .val (.ref b1), .val (.int (2 : Int32)), .val (.int (1 : Int32)), .val (.ref b280), .val (.int ((f9 (2 : Int32)) &&& (255 : Int32))), .val (.int (-1 : Int32)), .val (.int (-1 : Int32)), .val (.int (-1 : Int32)), .val (.int (-1 : Int32)), .val (.int (3 : Int32)), .val (.int (0 : Int32))] [(.int (-1 : Int32)), (.int (-1 : Int32))])) st304 ?_
      refine Run.icmpNo (pc' := 157) X304 hx (hb hby at_154) (teq rfl).2 rfl ?_
      refine Run.iload (pc' := 159) X304 hx (hb hby at_157) rfl rfl ?_
      refine Run.iloadN (pc' := 160) X304 hx (hb hby at_159) rfl rfl ?_
      refine Run.iload (pc' := 162) X304 hx (hb hby at_160) rfl rfl ?_
      refine Run.iload (pc' := 164) X304 hx (hb hby at_162) rfl rfl ?_
      refine Run.iconst (pc' := 165) (v := (3 : Int32)) X304 hx (hb hby at_164) rfl rfl ?_
      obtain ⟨T305, L305, v305, X305, Q305, st305⟩ := callStatic X304 hx (y := (⟨"com/example/tallyhold/tallyhold/ledger/ArrayInputReadPinLaw", "expected", "(IIII)I"⟩ : MethodName)) (Ls := #[.val (.int p0), .val (.int p1), .val (.int p2), .val (.ref b1), .val (.int (2 : Int32)), .val (.int (1 : Int32)), .val (.ref b280), .val (.int ((f9 (2 : Int32)) &&& (255 : Int32))), .val (.int (-1 : Int32)), .val (.int (-1 : Int32)), .val (.int (-1 : Int32)), .val (.int (-1 : Int32)), .val (.int (3 : Int32)), .val (.int (0 : Int32))]) (rest := [(.int (-1 : Int32))]) (W := 1) (argsL := [(.int p0), (.int (2 : Int32)), (.int (1 : Int32)), (.int (3 : Int32))]) hZ hown (hw _ (List.mem_of_getElem? (i := 45) rfl)) (hw _ (List.mem_of_getElem? (i := 46) rfl)) (hw _ (List.mem_of_getElem? (i := 47) rfl)) (hw _ (List.mem_of_getElem? (i := 48) rfl)) (by decide) e304 (rm8 l Z a0 hw [] p0 (2 : Int32) (1 : Int32) (3 : Int32)  T297.heap n0 Z297 ) (hb hby at_165) (lenOf own_pd5 rfl) (by decide) (by decide) (by rw [hml]; rfl) (Nat.le_of_eq rfl) (by decide) (by decide)
      obtain ⟨hv305, M305, e305⟩ := Q305
      rw [show (own_F8 p0 (2 : Int32) (1 : Int32) (3 : Int32)) = (-1 : Int32) from rfl] at hv305
      subst hv305
      have N305 := Fr.app N304 M305
      refine Run.back (g' := (mkF m 168 #[.val (.int p0), .val (.int p1), .val (.int p2), .val (.ref b1), .val (.int (2 : Int32)), .val (.int (1 : Int32)), .val (.ref b280), .val (.int ((f9 (2 : Int32)) &&& (255 : Int32))), .val (.int (-1 : Int32)), .val (.int (-1 : Int32)), .val (.int (-1 : Int32)), .val (.int (-1 : Int32)), .val (.int (3 : Int32)), .val (.int (0 : Int32))] [(.int (-1 : Int32)), (.int (-1 : Int32))])) st305 ?_
      refine Run.icmpNo (pc' := 171) X305 hx (hb hby at_168) (teq rfl).2 rfl ?_
      refine Run.iload (pc' := 173) X305 hx (hb hby at_171) rfl rfl ?_
      refine Run.iloadN (pc' := 174) X305 hx (hb hby at_173) rfl rfl ?_
      refine Run.iload (pc' := 176) X305 hx (hb hby at_174) rfl rfl ?_
      refine Run.iload (pc' := 178) X305 hx (hb hby at_176) rfl rfl ?_
      refine Run.iconst (pc' := 179) (v := (4 : Int32)) X305 hx (hb hby at_178) rfl rfl ?_
      obtain ⟨T306, L306, v306, X306, Q306, st306⟩ := callStatic X305 hx (y := (⟨"com/example/tallyhold/tallyhold/ledger/ArrayInputReadPinLaw", "expected", "(IIII)I"⟩ : MethodName)) (Ls := #[.val (.int p0), .val (.int p1), .val (.int p2), .val (.ref b1), .val (.int (2 : Int32)), .val (.int (1 : Int32)), .val (.ref b280), .val (.int ((f9 (2 : Int32)) &&& (255 : Int32))), .val (.int (-1 : Int32)), .val (.int (-1 : Int32)), .val (.int (-1 : Int32)), .val (.int (-1 : Int32)), .val (.int (3 : Int32)), .val (.int (0 : Int32))]) (rest := [(.int (-1 : Int32))]) (W := 1) (argsL := [(.int p0), (.int (2 : Int32)), (.int (1 : Int32)), (.int (4 : Int32))]) hZ hown (hw _ (List.mem_of_getElem? (i := 45) rfl)) (hw _ (List.mem_of_getElem? (i := 46) rfl)) (hw _ (List.mem_of_getElem? (i := 47) rfl)) (hw _ (List.mem_of_getElem? (i := 48) rfl)) (by decide) e305 (rm8 l Z a0 hw [] p0 (2 : Int32) (1 : Int32) (4 : Int32)  T297.heap n0 Z297 ) (hb hby at_179) (lenOf own_pd5 rfl) (by decide) (by decide) (by rw [hml]; rfl) (Nat.le_of_eq rfl) (by decide) (by decide)
      obtain ⟨hv306, M306, e306⟩ := Q306
      rw [show (own_F8 p0 (2 : Int32) (1 : Int32) (4 : Int32)) = (-1 : Int32) from rfl] at hv306
      subst hv306
      have N306 := Fr.app N305 M306
      refine Run.back (g' := (mkF m 182 #[.val (.int p0), .val (.int p1), .val (.int p2), .val (.ref b1), .val (.int (2 : Int32)), .val (.int (1 : Int32)), .val (.ref b280), .val (.int ((f9 (2 : Int32)) &&& (255 : Int32))), .val (.int (-1 : Int32)), .val (.int (-1 : Int32)), .val (.int (-1 : Int32)), .val (.int (-1 : Int32)), .val (.int (3 : Int32)), .val (.int (0 : Int32))] [(.int (-1 : Int32)), (.int (-1 : Int32))])) st306 ?_
      refine Run.icmpNo (pc' := 185) X306 hx (hb hby at_182) (teq rfl).2 rfl ?_
      refine Run.iload (pc' := 187) X306 hx (hb hby at_185) rfl rfl ?_
      refine Run.iload (pc' := 189) X306 hx (hb hby at_187) rfl rfl ?_
      refine Run.iload (pc' := 191) X306 hx (hb hby at_189) rfl rfl ?_
      refine Run.iadd (pc' := 192) X306 hx (hb hby at_191) rfl ?_
      refine Run.icmpNo (pc' := 195) X306 hx (hb hby at_192) (teq (by decide : (3 : Int32) = ((2 : Int32) + (1 : Int32)))).2 rfl ?_
      refine Run.iload (pc' := 197) X306 hx (hb hby at_195) rfl rfl ?_
      refine Run.ifNo (pc' := 200) X306 hx (hb hby at_197) ((if0 _ _).trans (teq (by decide : (0 : Int32) = (0 : Int32))).2) rfl ?_
      refine Run.iconst (pc' := 201) (v := (1 : Int32)) X306 hx (hb hby at_200) rfl rfl ?_
      refine Run.goto (pc' := 205) X306 hx (hb hby at_201) (by decide) (by decide) ?_
      exact Run.retSmall X306 hx (t := .boolean) (z' := (1 : Int32)) Bd.notSynchronized Bd.returns (by simp) rfl (hb hby at_205) ⟨rfl, N306⟩ (by decide) (by decide)
    · rw [hl]
      obtain ⟨T307, h307, X307, e307, E307, A307, D307, -, st307⟩ := newO X8 hx hZ hown (hw _ (List.mem_of_getElem? (i := 2) rfl)) (hw _ (List.mem_of_getElem? (i := 3) rfl)) (hw _ (List.mem_of_getElem? (i := 4) rfl)) e8 (g := (mkF m 52 #[.val (.int p0), .val (.int p1), .val (.int p2), .val (.ref b1), .val (.int (2 : Int32)), .val (.int (2 : Int32)), .unset, .unset, .unset, .unset, .unset, .unset, .unset, .unset] [])) rfl (hb hby at_52) (by decide) (by decide)
      obtain ⟨b307, g307⟩ : ∃ z, z = h8.size := ⟨_, rfl⟩
      rw [← g307] at A307 D307 st307
      have ne_b1_b307 : b1 ≠ b307 := Nat.ne_of_lt (Nat.lt_of_lt_of_le (A8).lt (Nat.le_of_eq g307.symm))
      have G307 : n0 ≤ b307 := Nat.le_trans Z8 (Nat.le_of_eq g307.symm)
      have Z307 : n0 ≤ h307.size := Nat.le_trans Z8 E307.1
      have fq308 := Ints.ext E307 A8
      have F307_bytes : Fld Z h307 b307 "com/example/tallyhold/tallyhold/ledger/ArrayInput" "bytes" "[B" .null := D307 (Or.inr (hw _ (List.mem_of_getElem? (i := 25) rfl))) (ty := (.array .byte)) (by decide)
      have F307_at : Fld Z h307 b307 "com/example/tallyhold/tallyhold/ledger/ArrayInput" "at" "I" (.int (0 : Int32)) := D307 (Or.inl (hw _ (List.mem_of_getElem? (i := 27) rfl))) (ty := .int) (by decide)
      have F307_end : Fld Z h307 b307 "com/example/tallyhold/tallyhold/ledger/ArrayInput" "end" "I" (.int (0 : Int32)) := D307 (Or.inr (hw _ (List.mem_of_getElem? (i := 29) rfl))) (ty := .int) (by decide)
      refine Run.back (g' := (mkF m 55 #[.val (.int p0), .val (.int p1), .val (.int p2), .val (.ref b1), .val (.int (2 : Int32)), .val (.int (2 : Int32)), .unset, .unset, .unset, .unset, .unset, .unset, .unset, .unset] [(.ref b307)])) st307 ?_
      refine Run.dup (pc' := 56) X307 hx (hb hby at_55) rfl rfl ?_
      refine Run.aloadN (pc' := 57) X307 hx (hb hby at_56) rfl rfl ?_
      refine Run.iload (pc' := 59) X307 hx (hb hby at_57) rfl rfl ?_
      refine Run.iload (pc' := 61) X307 hx (hb hby at_59) rfl rfl ?_
      obtain ⟨T309, L309, v309, X309, Q309, st309⟩ := callSpecial X307 hx (y := (⟨"com/example/tallyhold/tallyhold/ledger/ArrayInput", "<init>", "([BII)V"⟩ : MethodName)) (a := b307) (Ls := #[.val (.int p0), .val (.int p1), .val (.int p2), .val (.ref b1), .val (.int (2 : Int32)), .val (.int (2 : Int32)), .unset, .unset, .unset, .unset, .unset, .unset, .unset, .unset]) (rest := [(.ref b307)]) (W := 1) (argsL := [(.ref b1), (.int (2 : Int32)), (.int (2 : Int32))]) rfl hZ hown (hw _ (List.mem_of_getElem? (i := 5) rfl)) (hw _ (List.mem_of_getElem? (i := 6) rfl)) (hw _ (List.mem_of_getElem? (i := 4) rfl)) (hw _ (List.mem_of_getElem? (i := 7) rfl)) (by decide) e307 (rm4 l Z a0 hw [] b307 b1 (2 : Int32) (2 : Int32) f9 h307 n0 Z307 A307 F307_bytes F307_at F307_end G307 fq308 ne_b1_b307 (by decide) (by decide)) (hb hby at_61) (lenOf own_pd3 rfl) (by decide) (by decide) (by rw [hml]; rfl) (Nat.le_of_eq rfl) (by decide) (by decide)
      obtain ⟨rfl, M309, K309, E309, F309_bytes, F309_at, F309_end⟩ := Q309
      rw [show ((2 : Int32) + (2 : Int32)) = (4 : Int32) from rfl] at F309_end
      have N309 := Fr.app N8 M309
      have fq310 := Ints.keep fq308 K309 (ninS ne_b1_b307 nin0)
      have fq311 := Exa.keep A307 K309
      have Z309 : n0 ≤ T309.heap.size := Nat.le_trans Z307 K309.1
      refine Run.back (g' := (mkF m 64 #[.val (.int p0), .val (.int p1), .val (.int p2), .val (.ref b1), .val (.int (2 : Int32)), .val (.int (2 : Int32)), .unset, .unset, .unset, .unset, .unset, .unset, .unset, .unset] [(.ref b307)])) st309 ?_
      refine Run.astore (pc' := 66) X309 hx (l' := #[.val (.int p0), .val (.int p1), .val (.int p2), .val (.ref b1), .val (.int (2 : Int32)), .val (.int (2 : Int32)), .val (.ref b307), .unset, .unset, .unset, .unset, .unset, .unset, .unset]) (hb hby at_64) rfl rfl ?_
      refine Run.aload (pc' := 68) X309 hx (hb hby at_66) rfl rfl ?_
      obtain ⟨T312, L312, v312, X312, Q312, st312⟩ := callVirtual X309 hx (y := (⟨"com/example/tallyhold/tallyhold/ledger/ArrayInput", "read", "()I"⟩ : MethodName)) (z := (⟨"com/example/tallyhold/tallyhold/ledger/ArrayInput", "read", "()I"⟩ : MethodName)) (C := "com/example/tallyhold/tallyhold/ledger/ArrayInput") (a := b307) (Ls := #[.val (.int p0), .val (.int p1), .val (.int p2), .val (.ref b1), .val (.int (2 : Int32)), .val (.int (2 : Int32)), .val (.ref b307), .unset, .unset, .unset, .unset, .unset, .unset, .unset]) (rest := []) (W := 0) (argsL := []) hZ hown (hw _ (List.mem_of_getElem? (i := 30) rfl)) (hw _ (List.mem_of_getElem? (i := 31) rfl)) (notFace_of_selects (args := #[]) (mvT hZ (hw _ (List.mem_of_getElem? (i := 33) rfl)))) (hw _ (List.mem_of_getElem? (i := 33) rfl)) (hw _ (List.mem_of_getElem? (i := 32) rfl)) (hw _ (List.mem_of_getElem? (i := 4) rfl)) (hw _ (List.mem_of_getElem? (i := 34) rfl)) (by decide) rfl E309 (rm5 l Z a0 hw [] b307 b1 (2 : Int32) (4 : Int32) f9 T309.heap n0 Z309 E309 F309_bytes F309_at F309_end G307 fq310 ne_b1_b307 (by decide) (by decide)) (hb hby at_68) (lenOf own_pd4 rfl) (by decide) (by decide) (by rw [hml]; rfl) (Nat.le_of_eq rfl) (by decide) (by decide)
      obtain ⟨hv312, M312, K312, E312, F312_bytes, F312_at, F312_end⟩ := Q312
      rw [show (own_R (2 : Int32) (4 : Int32) f9) = ((f9 (2 : Int32)) &&& (255 : Int32)) from rfl] at hv312
      subst hv312
      rw [show (own_N (2 : Int32) (4 : Int32)) = (3 : Int32) from rfl] at F312_at
      have N312 := Fr.app N309 M312
      have fq313 := Ints.keep fq310 K312 (ninS ne_b1_b307 nin0)
      have fq314 := Exa.keep E309 K312
      have Z312 : n0 ≤ T312.heap.size := Nat.le_trans Z309 K312.1
      refine Run.back (g' := (mkF m 71 #[.val (.int p0), .val (.int p1), .val (.int p2), .val (.ref b1), .val (.int (2 : Int32)), .val (.int (2 : Int32)), .val (.ref b307), .unset, .unset, .unset, .unset, .unset, .unset, .unset] [(.int ((f9 (2 : Int32)) &&& (255 : Int32)))])) st312 ?_
      refine Run.istore (pc' := 73) X312 hx (l' := #[.val (.int p0), .val (.int p1), .val (.int p2), .val (.ref b1), .val (.int (2 : Int32)), .val (.int (2 : Int32)), .val (.ref b307), .val (.int ((f9 (2 : Int32)) &&& (255 : Int32))), .unset, .unset, .unset, .unset, .unset, .unset]) (hb hby at_71) rfl rfl ?_
      refine Run.aload (pc' := 75) X312 hx (hb hby at_73) rfl rfl ?_
      obtain ⟨T315, L315, v315, X315, Q315, st315⟩ := callVirtual X312 hx (y := (⟨"com/example/tallyhold/tallyhold/ledger/ArrayInput", "read", "()I"⟩ : MethodName)) (z := (⟨"com/example/tallyhold/tallyhold/ledger/ArrayInput", "read", "()I"⟩ : MethodName)) (C := "com/example/tallyhold/tallyhold/ledger/ArrayInput") (a := b307) (Ls := #[.val (.int p0), .val (.int p1), .val (.int p2), .val (.ref b1), .val (.int (2 : Int32)), .val (.int (2 : Int32)), .val (.ref b307), .val (.int ((f9 (2 : Int32)) &&& (255 : Int32))), .unset, .unset, .unset, .unset, .unset, .unset]) (rest := []) (W := 0) (argsL := []) hZ hown (hw _ (List.mem_of_getElem? (i := 30) rfl)) (hw _ (List.mem_of_getElem? (i := 31) rfl)) (notFace_of_selects (args := #[]) (mvT hZ (hw _ (List.mem_of_getElem? (i := 33) rfl)))) (hw _ (List.mem_of_getElem? (i := 33) rfl)) (hw _ (List.mem_of_getElem? (i := 32) rfl)) (hw _ (List.mem_of_getElem? (i := 4) rfl)) (hw _ (List.mem_of_getElem? (i := 34) rfl)) (by decide) rfl E312 (rm5 l Z a0 hw [] b307 b1 (3 : Int32) (4 : Int32) f9 T312.heap n0 Z312 E312 F312_bytes F312_at F312_end G307 fq313 ne_b1_b307 (by decide) (by decide)) (hb hby at_75) (lenOf own_pd4 rfl) (by decide) (by decide) (by rw [hml]; rfl) (Nat.le_of_eq rfl) (by decide) (by decide)
      obtain ⟨hv315, M315, K315, E315, F315_bytes, F315_at, F315_end⟩ := Q315
      rw [show (own_R (3 : Int32) (4 : Int32) f9) = ((f9 (3 : Int32)) &&& (255 : Int32)) from rfl] at hv315
      subst hv315
      rw [show (own_N (3 : Int32) (4 : Int32)) = (4 : Int32) from rfl] at F315_at
      have N315 := Fr.app N312 M315
      have fq316 := Ints.keep fq313 K315 (ninS ne_b1_b307 nin0)
      have fq317 := Exa.keep E312 K315
      have Z315 : n0 ≤ T315.heap.size := Nat.le_trans Z312 K315.1
      refine Run.back (g' := (mkF m 78 #[.val (.int p0), .val (.int p1), .val (.int p2), .val (.ref b1), .val (.int (2 : Int32)), .val (.int (2 : Int32)), .val (.ref b307), .val (.int ((f9 (2 : Int32)) &&& (255 : Int32))), .unset, .unset, .unset, .unset, .unset, .unset] [(.int ((f9 (3 : Int32)) &&& (255 : Int32)))])) st315 ?_
      refine Run.istore (pc' := 80) X315 hx (l' := #[.val (.int p0), .val (.int p1), .val (.int p2), .val (.ref b1), .val (.int (2 : Int32)), .val (.int (2 : Int32)), .val (.ref b307), .val (.int ((f9 (2 : Int32)) &&& (255 : Int32))), .val (.int ((f9 (3 : Int32)) &&& (255 : Int32))), .unset, .unset, .unset, .unset, .unset]) (hb hby at_78) rfl rfl ?_
      refine Run.aload (pc' := 82) X315 hx (hb hby at_80) rfl rfl ?_
      obtain ⟨T318, L318, v318, X318, Q318, st318⟩ := callVirtual X315 hx (y := (⟨"com/example/tallyhold/tallyhold/ledger/ArrayInput", "read", "()I"⟩ : MethodName)) (z := (⟨"com/example/tallyhold/tallyhold/ledger/ArrayInput", "read", "()I"⟩ : MethodName)) (C := "com/example/tallyhold/tallyhold/ledger/ArrayInput") (a := b307) (Ls := #[.val (.int p0), .val (.int p1), .val (.int p2), .val (.ref b1), .val (.int (2 : Int32)), .val (.int (2 : Int32)), .val (.ref b307), .val (.int ((f9 (2 : Int32)) &&& (255 : Int32))), .val (.int ((f9 (3 : Int32)) &&& (255 : Int32))), .unset, .unset, .unset, .unset, .unset]) (rest := []) (W := 0) (argsL := []) hZ hown (hw _ (List.mem_of_getElem? (i := 30) rfl)) (hw _ (List.mem_of_getElem? (i := 31) rfl)) (notFace_of_selects (args := #[]) (mvT hZ (hw _ (List.mem_of_getElem? (i := 33) rfl)))) (hw _ (List.mem_of_getElem? (i := 33) rfl)) (hw _ (List.mem_of_getElem? (i := 32) rfl)) (hw _ (List.mem_of_getElem? (i := 4) rfl)) (hw _ (List.mem_of_getElem? (i := 34) rfl)) (by decide) rfl E315 (rm5 l Z a0 hw [] b307 b1 (4 : Int32) (4 : Int32) f9 T315.heap n0 Z315 E315 F315_bytes F315_at F315_end G307 fq316 ne_b1_b307 (by decide) (by decide)) (hb hby at_82) (lenOf own_pd4 rfl) (by decide) (by decide) (by rw [hml]; rfl) (Nat.le_of_eq rfl) (by decide) (by decide)
      obtain ⟨hv318, M318, K318, E318, F318_bytes, F318_at, F318_end⟩ := Q318
      rw [show (own_R (4 : Int32) (4 : Int32) f9) = (-1 : Int32) from rfl] at hv318
      subst hv318
      rw [show (own_N (4 : Int32) (4 : Int32)) = (4 : Int32) from rfl] at F318_at
      have N318 := Fr.app N315 M318
      have fq319 := Ints.keep fq316 K318 (ninS ne_b1_b307 nin0)
      have fq320 := Exa.keep E315 K318
      have Z318 : n0 ≤ T318.heap.size := Nat.le_trans Z315 K318.1
      refine Run.back (g' := (mkF m 85 #[.val (.int p0), .val (.int p1), .val (.int p2), .val (.ref b1), .val (.int (2 : Int32)), .val (.int (2 : Int32)), .val (.ref b307), .val (.int ((f9 (2 : Int32)) &&& (255 : Int32))), .val (.int ((f9 (3 : Int32)) &&& (255 : Int32))), .unset, .unset, .unset, .unset, .unset] [(.int (-1 : Int32))])) st318 ?_
      refine Run.istore (pc' := 87) X318 hx (l' := #[.val (.int p0), .val (.int p1), .val (.int p2), .val (.ref b1), .val (.int (2 : Int32)), .val (.int (2 : Int32)), .val (.ref b307), .val (.int ((f9 (2 : Int32)) &&& (255 : Int32))), .val (.int ((f9 (3 : Int32)) &&& (255 : Int32))), .val (.int (-1 : Int32)), .unset, .unset, .unset, .unset]) (hb hby at_85) rfl rfl ?_
      refine Run.aload (pc' := 89) X318 hx (hb hby at_87) rfl rfl ?_
      obtain ⟨T321, L321, v321, X321, Q321, st321⟩ := callVirtual X318 hx (y := (⟨"com/example/tallyhold/tallyhold/ledger/ArrayInput", "read", "()I"⟩ : MethodName)) (z := (⟨"com/example/tallyhold/tallyhold/ledger/ArrayInput", "read", "()I"⟩ : MethodName)) (C := "com/example/tallyhold/tallyhold/ledger/ArrayInput") (a := b307) (Ls := #[.val (.int p0), .val (.int p1), .val (.int p2), .val (.ref b1), .val (.int (2 : Int32)), .val (.int (2 : Int32)), .val (.ref b307), .val (.int ((f9 (2 : Int32)) &&& (255 : Int32))), .val (.int ((f9 (3 : Int32)) &&& (255 : Int32))), .val (.int (-1 : Int32)), .unset, .unset, .unset, .unset]) (rest := []) (W := 0) (argsL := []) hZ hown (hw _ (List.mem_of_getElem? (i := 30) rfl)) (hw _ (List.mem_of_getElem? (i := 31) rfl)) (notFace_of_selects (args := #[]) (mvT hZ (hw _ (List.mem_of_getElem? (i := 33) rfl)))) (hw _ (List.mem_of_getElem? (i := 33) rfl)) (hw _ (List.mem_of_getElem? (i := 32) rfl)) (hw _ (List.mem_of_getElem? (i := 4) rfl)) (hw _ (List.mem_of_getElem? (i := 34) rfl)) (by decide) rfl E318 (rm5 l Z a0 hw [] b307 b1 (4 : Int32) (4 : Int32) f9 T318.heap n0 Z318 E318 F318_bytes F318_at F318_end G307 fq319 ne_b1_b307 (by decide) (by decide)) (hb hby at_89) (lenOf own_pd4 rfl) (by decide) (by decide) (by rw [hml]; rfl) (Nat.le_of_eq rfl) (by decide) (by decide)
      obtain ⟨hv321, M321, K321, E321, F321_bytes, F321_at, F321_end⟩ := Q321
      rw [show (own_R (4 : Int32) (4 : Int32) f9) = (-1 : Int32) from rfl] at hv321
      subst hv321
      rw [show (own_N (4 : Int32) (4 : Int32)) = (4 : Int32) from rfl] at F321_at
      have N321 := Fr.app N318 M321
      have fq322 := Ints.keep fq319 K321 (ninS ne_b1_b307 nin0)
      have fq323 := Exa.keep E318 K321
      have Z321 : n0 ≤ T321.heap.size := Nat.le_trans Z318 K321.1
      refine Run.back (g' := (mkF m 92 #[.val (.int p0), .val (.int p1), .val (.int p2), .val (.ref b1), .val (.int (2 : Int32)), .val (.int (2 : Int32)), .val (.ref b307), .val (.int ((f9 (2 : Int32)) &&& (255 : Int32))), .val (.int ((f9 (3 : Int32)) &&& (255 : Int32))), .val (.int (-1 : Int32)), .unset, .unset, .unset, .unset] [(.int (-1 : Int32))])) st321 ?_
      refine Run.istore (pc' := 94) X321 hx (l' := #[.val (.int p0), .val (.int p1), .val (.int p2), .val (.ref b1), .val (.int (2 : Int32)), .val (.int (2 : Int32)), .val (.ref b307), .val (.int ((f9 (2 : Int32)) &&& (255 : Int32))), .val (.int ((f9 (3 : Int32)) &&& (255 : Int32))), .val (.int (-1 : Int32)), .val (.int (-1 : Int32)), .unset, .unset, .unset]) (hb hby at_92) rfl rfl ?_
      refine Run.aload (pc' := 96) X321 hx (hb hby at_94) rfl rfl ?_
      obtain ⟨T324, L324, v324, X324, Q324, st324⟩ := callVirtual X321 hx (y := (⟨"com/example/tallyhold/tallyhold/ledger/ArrayInput", "read", "()I"⟩ : MethodName)) (z := (⟨"com/example/tallyhold/tallyhold/ledger/ArrayInput", "read", "()I"⟩ : MethodName)) (C := "com/example/tallyhold/tallyhold/ledger/ArrayInput") (a := b307) (Ls := #[.val (.int p0), .val (.int p1), .val (.int p2), .val (.ref b1), .val (.int (2 : Int32)), .val (.int (2 : Int32)), .val (.ref b307), .val (.int ((f9 (2 : Int32)) &&& (255 : Int32))), .val (.int ((f9 (3 : Int32)) &&& (255 : Int32))), .val (.int (-1 : Int32)), .val (.int (-1 : Int32)), .unset, .unset, .unset]) (rest := []) (W := 0) (argsL := []) hZ hown (hw _ (List.mem_of_getElem? (i := 30) rfl)) (hw _ (List.mem_of_getElem? (i := 31) rfl)) (notFace_of_selects (args := #[]) (mvT hZ (hw _ (List.mem_of_getElem? (i := 33) rfl)))) (hw _ (List.mem_of_getElem? (i := 33) rfl)) (hw _ (List.mem_of_getElem? (i := 32) rfl)) (hw _ (List.mem_of_getElem? (i := 4) rfl)) (hw _ (List.mem_of_getElem? (i := 34) rfl)) (by decide) rfl E321 (rm5 l Z a0 hw [] b307 b1 (4 : Int32) (4 : Int32) f9 T321.heap n0 Z321 E321 F321_bytes F321_at F321_end G307 fq322 ne_b1_b307 (by decide) (by decide)) (hb hby at_96) (lenOf own_pd4 rfl) (by decide) (by decide) (by rw [hml]; rfl) (Nat.le_of_eq rfl) (by decide) (by decide)
      obtain ⟨hv324, M324, K324, E324, F324_bytes, F324_at, F324_end⟩ := Q324
      rw [show (own_R (4 : Int32) (4 : Int32) f9) = (-1 : Int32) from rfl] at hv324
      subst hv324
      rw [show (own_N (4 : Int32) (4 : Int32)) = (4 : Int32) from rfl] at F324_at
      have N324 := Fr.app N321 M324
      have fq325 := Ints.keep fq322 K324 (ninS ne_b1_b307 nin0)
      have fq326 := Exa.keep E321 K324
      have Z324 : n0 ≤ T324.heap.size := Nat.le_trans Z321 K324.1
      refine Run.back (g' := (mkF m 99 #[.val (.int p0), .val (.int p1), .val (.int p2), .val (.ref b1), .val (.int (2 : Int32)), .val (.int (2 : Int32)), .val (.ref b307), .val (.int ((f9 (2 : Int32)) &&& (255 : Int32))), .val (.int ((f9 (3 : Int32)) &&& (255 : Int32))), .val (.int (-1 : Int32)), .val (.int (-1 : Int32)), .unset, .unset, .unset] [(.int (-1 : Int32))])) st324 ?_
      refine Run.istore (pc' := 101) X324 hx (l' := #[.val (.int p0), .val (.int p1), .val (.int p2), .val (.ref b1), .val (.int (2 : Int32)), .val (.int (2 : Int32)), .val (.ref b307), .val (.int ((f9 (2 : Int32)) &&& (255 : Int32))), .val (.int ((f9 (3 : Int32)) &&& (255 : Int32))), .val (.int (-1 : Int32)), .val (.int (-1 : Int32)), .val (.int (-1 : Int32)), .unset, .unset]) (hb hby at_99) rfl rfl ?_
      refine Run.aload (pc' := 103) X324 hx (hb hby at_101) rfl rfl ?_
      obtain ⟨T327, L327, v327, X327, Q327, st327⟩ := callVirtual X324 hx (y := (⟨"com/example/tallyhold/tallyhold/ledger/ArrayInput", "position", "()I"⟩ : MethodName)) (z := (⟨"com/example/tallyhold/tallyhold/ledger/ArrayInput", "position", "()I"⟩ : MethodName)) (C := "com/example/tallyhold/tallyhold/ledger/ArrayInput") (a := b307) (Ls := #[.val (.int p0), .val (.int p1), .val (.int p2), .val (.ref b1), .val (.int (2 : Int32)), .val (.int (2 : Int32)), .val (.ref b307), .val (.int ((f9 (2 : Int32)) &&& (255 : Int32))), .val (.int ((f9 (3 : Int32)) &&& (255 : Int32))), .val (.int (-1 : Int32)), .val (.int (-1 : Int32)), .val (.int (-1 : Int32)), .unset, .unset]) (rest := []) (W := 0) (argsL := []) hZ hown (hw _ (List.mem_of_getElem? (i := 35) rfl)) (hw _ (List.mem_of_getElem? (i := 36) rfl)) (notFace_of_selects (args := #[]) (mvT hZ (hw _ (List.mem_of_getElem? (i := 38) rfl)))) (hw _ (List.mem_of_getElem? (i := 38) rfl)) (hw _ (List.mem_of_getElem? (i := 37) rfl)) (hw _ (List.mem_of_getElem? (i := 4) rfl)) (hw _ (List.mem_of_getElem? (i := 39) rfl)) (by decide) rfl E324 (rm6 l Z a0 hw [] b307 (4 : Int32) T324.heap n0 Z324 F324_at) (hb hby at_103) (lenOf own_pd4 rfl) (by decide) (by decide) (by rw [hml]; rfl) (Nat.le_of_eq rfl) (by decide) (by decide)
      obtain ⟨hv327, M327, e327⟩ := Q327
      rw [show (own_F6 b307 (4 : Int32)) = (4 : Int32) from rfl] at hv327
      subst hv327
      have N327 := Fr.app N324 M327
      refine Run.back (g' := (mkF m 106 #[.val (.int p0), .val (.int p1), .val (.int p2), .val (.ref b1), .val (.int (2 : Int32)), .val (.int (2 : Int32)), .val (.ref b307), .val (.int ((f9 (2 : Int32)) &&& (255 : Int32))), .val (.int ((f9 (3 : Int32)) &&& (255 : Int32))), .val (.int (-1 : Int32)), .val (.int (-1 : Int32)), .val (.int (-1 : Int32)), .unset, .unset] [(.int (4 : Int32))])) st327 ?_
      refine Run.istore (pc' := 108) X327 hx (l' := #[.val (.int p0), .val (.int p1), .val (.int p2), .val (.ref b1), .val (.int (2 : Int32)), .val (.int (2 : Int32)), .val (.ref b307), .val (.int ((f9 (2 : Int32)) &&& (255 : Int32))), .val (.int ((f9 (3 : Int32)) &&& (255 : Int32))), .val (.int (-1 : Int32)), .val (.int (-1 : Int32)), .val (.int (-1 : Int32)), .val (.int (4 : Int32)), .unset]) (hb hby at_106) rfl rfl ?_
      refine Run.aload (pc' := 110) X327 hx (hb hby at_108) rfl rfl ?_
      obtain ⟨T328, L328, v328, X328, Q328, st328⟩ := callVirtual X327 hx (y := (⟨"com/example/tallyhold/tallyhold/ledger/ArrayInput", "available", "()I"⟩ : MethodName)) (z := (⟨"com/example/tallyhold/tallyhold/ledger/ArrayInput", "available", "()I"⟩ : MethodName)) (C := "com/example/tallyhold/tallyhold/ledger/ArrayInput") (a := b307) (Ls := #[.val (.int p0), .val (.int p1), .val (.int p2), .val (.ref b1), .val (.int (2 : Int32)), .val (.int (2 : Int32)), .val (.ref b307), .val (.int ((f9 (2 : Int32)) &&& (255 : Int32))), .val (.int ((f9 (3 : Int32)) &&& (255 : Int32))), .val (.int (-1 : Int32)), .val (.int (-1 : Int32)), .val (.int (-1 : Int32)), .val (.int (4 : Int32)), .unset]) (rest := []) (W := 0) (argsL := []) hZ hown (hw _ (List.mem_of_getElem? (i := 40) rfl)) (hw _ (List.mem_of_getElem? (i := 41) rfl)) (notFace_of_selects (args := #[]) (mvT hZ (hw _ (List.mem_of_getElem? (i := 43) rfl)))) (hw _ (List.mem_of_getElem? (i := 43) rfl)) (hw _ (List.mem_of_getElem? (i := 42) rfl)) (hw _ (List.mem_of_getElem? (i := 4) rfl)) (hw _ (List.mem_of_getElem? (i := 44) rfl)) (by decide) e327 E324 (rm7 l Z a0 hw [] b307 (4 : Int32) (4 : Int32) T324.heap n0 Z324 F324_at F324_end) (hb hby at_110) (lenOf own_pd4 rfl) (by decide) (by decide) (by rw [hml]; rfl) (Nat.le_of_eq rfl) (by decide) (by decide)
      obtain ⟨hv328, M328, e328⟩ := Q328
      rw [show (own_F7 b307 (4 : Int32) (4 : Int32)) = (0 : Int32) from rfl] at hv328
      subst hv328
      have N328 := Fr.app N327 M328
      refine Run.back (g' := (mkF m 113 #[.val (.int p0), .val (.int p1), .val (.int p2), .val (.ref b1), .val (.int (2 : Int32)), .val (.int (2 : Int32)), .val (.ref b307), .val (.int ((f9 (2 : Int32)) &&& (255 : Int32))), .val (.int ((f9 (3 : Int32)) &&& (255 : Int32))), .val (.int (-1 : Int32)), .val (.int (-1 : Int32)), .val (.int (-1 : Int32)), .val (.int (4 : Int32)), .unset] [(.int (0 : Int32))])) st328 ?_
      refine Run.istore (pc' := 115) X328 hx (l' := #[.val (.int p0), .val (.int p1), .val (.int p2), .val (.ref b1), .val (.int (2 : Int32)), .val (.int (2 : Int32)), .val (.ref b307), .val (.int ((f9 (2 : Int32)) &&& (255 : Int32))), .val (.int ((f9 (3 : Int32)) &&& (255 : Int32))), .val (.int (-1 : Int32)), .val (.int (-1 : Int32)), .val (.int (-1 : Int32)), .val (.int (4 : Int32)), .val (.int (0 : Int32))]) (hb hby at_113) rfl rfl ?_
      refine Run.iload (pc' := 117) X328 hx (hb hby at_115) rfl rfl ?_
      refine Run.iloadN (pc' := 118) X328 hx (hb hby at_117) rfl rfl ?_
      refine Run.iload (pc' := 120) X328 hx (hb hby at_118) rfl rfl ?_
      refine Run.iload (pc' := 122) X328 hx (hb hby at_120) rfl rfl ?_
      refine Run.iconst (pc' := 123) (v := (0 : Int32)) X328 hx (hb hby at_122) rfl rfl ?_
      obtain ⟨T329, L329, v329, X329, Q329, st329⟩ := callStatic X328 hx (y := (⟨"com/example/tallyhold/tallyhold/ledger/ArrayInputReadPinLaw", "expected", "(IIII)I"⟩ : MethodName)) (Ls := #[.val (.int p0), .val (.int p1), .val (.int p2), .val (.ref b1), .val (.int (2 : Int32)), .val (.int (2 : Int32)), .val (.ref b307), .val (.int ((f9 (2 : Int32)) &&& (255 : Int32))), .val (.int ((f9 (3 : Int32)) &&& (255 : Int32))), .val (.int (-1 : Int32)), .val (.int (-1 : Int32)), .val (.int (-1 : Int32)), .val (.int (4 : Int32)), .val (.int (0 : Int32))]) (rest := [(.int ((f9 (2 : Int32)) &&& (255 : Int32)))]) (W := 1) (argsL := [(.int p0), (.int (2 : Int32)), (.int (2 : Int32)), (.int (0 : Int32))]) hZ hown (hw _ (List.mem_of_getElem? (i := 45) rfl)) (hw _ (List.mem_of_getElem? (i := 46) rfl)) (hw _ (List.mem_of_getElem? (i := 47) rfl)) (hw _ (List.mem_of_getElem? (i := 48) rfl)) (by decide) e328 (rm8 l Z a0 hw [] p0 (2 : Int32) (2 : Int32) (0 : Int32)  T324.heap n0 Z324 ) (hb hby at_123) (lenOf own_pd5 rfl) (by decide) (by decide) (by rw [hml]; rfl) (Nat.le_of_eq rfl) (by decide) (by decide)
      obtain ⟨hv329, M329, e329⟩ := Q329
      rw [show (own_F8 p0 (2 : Int32) (2 : Int32) (0 : Int32)) = (((p0.toUInt32 >>> ((16 : Int32) &&& 31).toUInt32).toInt32) &&& (255 : Int32)) from rfl] at hv329
      subst hv329
      have N329 := Fr.app N328 M329
      refine Run.back (g' := (mkF m 126 #[.val (.int p0), .val (.int p1), .val (.int p2), .val (.ref b1), .val (.int (2 : Int32)), .val (.int (2 : Int32)), .val (.ref b307), .val (.int ((f9 (2 : Int32)) &&& (255 : Int32))), .val (.int ((f9 (3 : Int32)) &&& (255 : Int32))), .val (.int (-1 : Int32)), .val (.int (-1 : Int32)), .val (.int (-1 : Int32)), .val (.int (4 : Int32)), .val (.int (0 : Int32))] [(.int (((p0.toUInt32 >>> ((16 : Int32) &&& 31).toUInt32).toInt32) &&& (255 : Int32))), (.int ((f9 (2 : Int32)) &&& (255 : Int32)))])) st329 ?_
      refine Run.icmpNo (pc' := 129) X329 hx (hb hby at_126) (teq (own_b2 g2)).2 rfl ?_
      refine Run.iload (pc' := 131) X329 hx (hb hby at_129) rfl rfl ?_
      refine Run.iloadN (pc' := 132) X329 hx (hb hby at_131) rfl rfl ?_
      refine Run.iload (pc' := 134) X329 hx (hb hby at_132) rfl rfl ?_
      refine Run.iload (pc' := 136) X329 hx (hb hby at_134) rfl rfl ?_
      refine Run.iconst (pc' := 137) (v := (1 : Int32)) X329 hx (hb hby at_136) rfl rfl ?_
      obtain ⟨T330, L330, v330, X330, Q330, st330⟩ := callStatic X329 hx (y := (⟨"com/example/tallyhold/tallyhold/ledger/ArrayInputReadPinLaw", "expected", "(IIII)I"⟩ : MethodName)) (Ls := #[.val (.int p0), .val (.int p1), .val (.int p2), .val (.ref b1), .val (.int (2 : Int32)), .val (.int (2 : Int32)), .val (.ref b307), .val (.int ((f9 (2 : Int32)) &&& (255 : Int32))), .val (.int ((f9 (3 : Int32)) &&& (255 : Int32))), .val (.int (-1 : Int32)), .val (.int (-1 : Int32)), .val (.int (-1 : Int32)), .val (.int (4 : Int32)), .val (.int (0 : Int32))]) (rest := [(.int ((f9 (3 : Int32)) &&& (255 : Int32)))]) (W := 1) (argsL := [(.int p0), (.int (2 : Int32)), (.int (2 : Int32)), (.int (1 : Int32))]) hZ hown (hw _ (List.mem_of_getElem? (i := 45) rfl)) (hw _ (List.mem_of_getElem? (i := 46) rfl)) (hw _ (List.mem_of_getElem? (i := 47) rfl)) (hw _ (List.mem_of_getElem? (i := 48) rfl)) (by decide) e329 (rm8 l Z a0 hw [] p0 (2 : Int32) (2 : Int32) (1 : Int32)  T324.heap n0 Z324 ) (hb hby at_137) (lenOf own_pd5 rfl) (by decide) (by decide) (by rw [hml]; rfl) (Nat.le_of_eq rfl) (by decide) (by decide)
      obtain ⟨hv330, M330, e330⟩ := Q330
      rw [show (own_F8 p0 (2 : Int32) (2 : Int32) (1 : Int32)) = (((p0.toUInt32 >>> ((24 : Int32) &&& 31).toUInt32).toInt32) &&& (255 : Int32)) from rfl] at hv330
      subst hv330
      have N330 := Fr.app N329 M330
      refine Run.back (g' := (mkF m 140 #[.val (.int p0), .val (.int p1), .val (.int p2), .val (.ref b1), .val (.int (2 : Int32)), .val (.int (2 : Int32)), .val (.ref b307), .val (.int ((f9 (2 : Int32)) &&& (255 : Int32))), .val (.int ((f9 (3 : Int32)) &&& (255 : Int32))), .val (.int (-1 : Int32)), .val (.int (-1 : Int32)), .val (.int (-1 : Int32)), .val (.int (4 : Int32)), .val (.int (0 : Int32))] [(.int (((p0.toUInt32 >>> ((24 : Int32) &&& 31).toUInt32).toInt32) &&& (255 : Int32))), (.int ((f9 (3 : Int32)) &&& (255 : Int32)))])) st330 ?_
      refine Run.icmpNo (pc' := 143) X330 hx (hb hby at_140) (teq (own_b3 g3)).2 rfl ?_
      refine Run.iload (pc' := 145) X330 hx (hb hby at_143) rfl rfl ?_
      refine Run.iloadN (pc' := 146) X330 hx (hb hby at_145) rfl rfl ?_
      refine Run.iload (pc' := 148) X330 hx (hb hby at_146) rfl rfl ?_
      refine Run.iload (pc' := 150) X330 hx (hb hby at_148) rfl rfl ?_
      refine Run.iconst (pc' := 151) (v := (2 : Int32)) X330 hx (hb hby at_150) rfl rfl ?_
      obtain ⟨T331, L331, v331, X331, Q331, st331⟩ := callStatic X330 hx (y := (⟨"com/example/tallyhold/tallyhold/ledger/ArrayInputReadPinLaw", "expected", "(IIII)I"⟩ : MethodName)) (Ls := #[.val (.int p0), .val (.int p1), .val (.int p2), .val (.ref b1), .val (.int (2 : Int32)), .val (.int (2 : Int32)), .val (.ref b307), .val (.int ((f9 (2 : Int32)) &&& (255 : Int32))), .val (.int ((f9 (3 : Int32)) &&& (255 : Int32))), .val (.int (-1 : Int32)), .val (.int (-1 : Int32)), .val (.int (-1 : Int32)), .val (.int (4 : Int32)), .val (.int (0 : Int32))]) (rest := [(.int (-1 : Int32))]) (W := 1) (argsL := [(.int p0), (.int (2 : Int32)), (.int (2 : Int32)), (.int (2 : Int32))]) hZ hown (hw _ (List.mem_of_getElem? (i := 45) rfl)) (hw _ (List.mem_of_getElem? (i := 46) rfl)) (hw _ (List.mem_of_getElem? (i := 47) rfl)) (hw _ (List.mem_of_getElem? (i := 48) rfl)) (by decide) e330 (rm8 l Z a0 hw [] p0 (2 : Int32) (2 : Int32) (2 : Int32)  T324.heap n0 Z324 ) (hb hby at_151) (lenOf own_pd5 rfl) (by decide) (by decide) (by rw [hml]; rfl) (Nat.le_of_eq rfl) (by decide) (by decide)
      obtain ⟨hv331, M331, e331⟩ := Q331
      rw [show (own_F8 p0 (2 : Int32) (2 : Int32) (2 : Int32)) = (-1 : Int32) from rfl] at hv331
      subst hv331
      have N331 := Fr.app N330 M331
      refine Run.back (g' := (mkF m 154 #[.val (.int p0), .val (.int p1), .val (.int p2), .val (.ref b1), .val (.int (2 : Int32)), .val (.int (2 : Int32)), .val (.ref b307), .val (.int ((f9 (2 : Int32)) &&& (255 : Int32))), .val (.int ((f9 (3 : Int32)) &&& (255 : Int32))), .val (.int (-1 : Int32)), .val (.int (-1 : Int32)), .val (.int (-1 : Int32)), .val (.int (4 : Int32)), .val (.int (0 : Int32))] [(.int (-1 : Int32)), (.int (-1 : Int32))])) st331 ?_
      refine Run.icmpNo (pc' := 157) X331 hx (hb hby at_154) (teq rfl).2 rfl ?_
      refine Run.iload (pc' := 159) X331 hx (hb hby at_157) rfl rfl ?_
      refine Run.iloadN (pc' := 160) X331 hx (hb hby at_159) rfl rfl ?_
      refine Run.iload (pc' := 162) X331 hx (hb hby at_160) rfl rfl ?_
      refine Run.iload (pc' := 164) X331 hx (hb hby at_162) rfl rfl ?_
      refine Run.iconst (pc' := 165) (v := (3 : Int32)) X331 hx (hb hby at_164) rfl rfl ?_
      obtain ⟨T332, L332, v332, X332, Q332, st332⟩ := callStatic X331 hx (y := (⟨"com/example/tallyhold/tallyhold/ledger/ArrayInputReadPinLaw", "expected", "(IIII)I"⟩ : MethodName)) (Ls := #[.val (.int p0), .val (.int p1), .val (.int p2), .val (.ref b1), .val (.int (2 : Int32)), .val (.int (2 : Int32)), .val (.ref b307), .val (.int ((f9 (2 : Int32)) &&& (255 : Int32))), .val (.int ((f9 (3 : Int32)) &&& (255 : Int32))), .val (.int (-1 : Int32)), .val (.int (-1 : Int32)), .val (.int (-1 : Int32)), .val (.int (4 : Int32)), .val (.int (0 : Int32))]) (rest := [(.int (-1 : Int32))]) (W := 1) (argsL := [(.int p0), (.int (2 : Int32)), (.int (2 : Int32)), (.int (3 : Int32))]) hZ hown (hw _ (List.mem_of_getElem? (i := 45) rfl)) (hw _ (List.mem_of_getElem? (i := 46) rfl)) (hw _ (List.mem_of_getElem? (i := 47) rfl)) (hw _ (List.mem_of_getElem? (i := 48) rfl)) (by decide) e331 (rm8 l Z a0 hw [] p0 (2 : Int32) (2 : Int32) (3 : Int32)  T324.heap n0 Z324 ) (hb hby at_165) (lenOf own_pd5 rfl) (by decide) (by decide) (by rw [hml]; rfl) (Nat.le_of_eq rfl) (by decide) (by decide)
      obtain ⟨hv332, M332, e332⟩ := Q332
      rw [show (own_F8 p0 (2 : Int32) (2 : Int32) (3 : Int32)) = (-1 : Int32) from rfl] at hv332
      subst hv332
      have N332 := Fr.app N331 M332
      refine Run.back (g' := (mkF m 168 #[.val (.int p0), .val (.int p1), .val (.int p2), .val (.ref b1), .val (.int (2 : Int32)), .val (.int (2 : Int32)), .val (.ref b307), .val (.int ((f9 (2 : Int32)) &&& (255 : Int32))), .val (.int ((f9 (3 : Int32)) &&& (255 : Int32))), .val (.int (-1 : Int32)), .val (.int (-1 : Int32)), .val (.int (-1 : Int32)), .val (.int (4 : Int32)), .val (.int (0 : Int32))] [(.int (-1 : Int32)), (.int (-1 : Int32))])) st332 ?_
      refine Run.icmpNo (pc' := 171) X332 hx (hb hby at_168) (teq rfl).2 rfl ?_
      refine Run.iload (pc' := 173) X332 hx (hb hby at_171) rfl rfl ?_
      refine Run.iloadN (pc' := 174) X332 hx (hb hby at_173) rfl rfl ?_
      refine Run.iload (pc' := 176) X332 hx (hb hby at_174) rfl rfl ?_
      refine Run.iload (pc' := 178) X332 hx (hb hby at_176) rfl rfl ?_
      refine Run.iconst (pc' := 179) (v := (4 : Int32)) X332 hx (hb hby at_178) rfl rfl ?_
      obtain ⟨T333, L333, v333, X333, Q333, st333⟩ := callStatic X332 hx (y := (⟨"com/example/tallyhold/tallyhold/ledger/ArrayInputReadPinLaw", "expected", "(IIII)I"⟩ : MethodName)) (Ls := #[.val (.int p0), .val (.int p1), .val (.int p2), .val (.ref b1), .val (.int (2 : Int32)), .val (.int (2 : Int32)), .val (.ref b307), .val (.int ((f9 (2 : Int32)) &&& (255 : Int32))), .val (.int ((f9 (3 : Int32)) &&& (255 : Int32))), .val (.int (-1 : Int32)), .val (.int (-1 : Int32)), .val (.int (-1 : Int32)), .val (.int (4 : Int32)), .val (.int (0 : Int32))]) (rest := [(.int (-1 : Int32))]) (W := 1) (argsL := [(.int p0), (.int (2 : Int32)), (.int (2 : Int32)), (.int (4 : Int32))]) hZ hown (hw _ (List.mem_of_getElem? (i := 45) rfl)) (hw _ (List.mem_of_getElem? (i := 46) rfl)) (hw _ (List.mem_of_getElem? (i := 47) rfl)) (hw _ (List.mem_of_getElem? (i := 48) rfl)) (by decide) e332 (rm8 l Z a0 hw [] p0 (2 : Int32) (2 : Int32) (4 : Int32)  T324.heap n0 Z324 ) (hb hby at_179) (lenOf own_pd5 rfl) (by decide) (by decide) (by rw [hml]; rfl) (Nat.le_of_eq rfl) (by decide) (by decide)
      obtain ⟨hv333, M333, e333⟩ := Q333
      rw [show (own_F8 p0 (2 : Int32) (2 : Int32) (4 : Int32)) = (-1 : Int32) from rfl] at hv333
      subst hv333
      have N333 := Fr.app N332 M333
      refine Run.back (g' := (mkF m 182 #[.val (.int p0), .val (.int p1), .val (.int p2), .val (.ref b1), .val (.int (2 : Int32)), .val (.int (2 : Int32)), .val (.ref b307), .val (.int ((f9 (2 : Int32)) &&& (255 : Int32))), .val (.int ((f9 (3 : Int32)) &&& (255 : Int32))), .val (.int (-1 : Int32)), .val (.int (-1 : Int32)), .val (.int (-1 : Int32)), .val (.int (4 : Int32)), .val (.int (0 : Int32))] [(.int (-1 : Int32)), (.int (-1 : Int32))])) st333 ?_
      refine Run.icmpNo (pc' := 185) X333 hx (hb hby at_182) (teq rfl).2 rfl ?_
      refine Run.iload (pc' := 187) X333 hx (hb hby at_185) rfl rfl ?_
      refine Run.iload (pc' := 189) X333 hx (hb hby at_187) rfl rfl ?_
      refine Run.iload (pc' := 191) X333 hx (hb hby at_189) rfl rfl ?_
      refine Run.iadd (pc' := 192) X333 hx (hb hby at_191) rfl ?_
      refine Run.icmpNo (pc' := 195) X333 hx (hb hby at_192) (teq (by decide : (4 : Int32) = ((2 : Int32) + (2 : Int32)))).2 rfl ?_
      refine Run.iload (pc' := 197) X333 hx (hb hby at_195) rfl rfl ?_
      refine Run.ifNo (pc' := 200) X333 hx (hb hby at_197) ((if0 _ _).trans (teq (by decide : (0 : Int32) = (0 : Int32))).2) rfl ?_
      refine Run.iconst (pc' := 201) (v := (1 : Int32)) X333 hx (hb hby at_200) rfl rfl ?_
      refine Run.goto (pc' := 205) X333 hx (hb hby at_201) (by decide) (by decide) ?_
      exact Run.retSmall X333 hx (t := .boolean) (z' := (1 : Int32)) Bd.notSynchronized Bd.returns (by simp) rfl (hb hby at_205) ⟨rfl, N333⟩ (by decide) (by decide)
  · rw [ho]
    refine Run.iloadN (pc' := 42) X8 hx (hb hby at_41) rfl rfl ?_
    refine Run.ldcInt (pc' := 44) (v := (2147483647 : Int32)) X8 hx hown (mvT hZ (hw _ (List.mem_of_getElem? (i := 1) rfl))) (hb hby at_42) rfl ?_
    refine Run.iand (pc' := 45) X8 hx (hb hby at_44) rfl ?_
    refine Run.iconst (pc' := 46) (v := (5 : Int32)) X8 hx (hb hby at_45) rfl rfl ?_
    refine Run.iload (pc' := 48) X8 hx (hb hby at_46) rfl rfl ?_
    refine Run.isub (pc' := 49) X8 hx (hb hby at_48) rfl ?_
    refine Run.irem (pc' := 50) X8 hx (hb hby at_49) (by decide) rfl ?_
    refine Run.istore (pc' := 52) X8 hx (l' := #[.val (.int p0), .val (.int p1), .val (.int p2), .val (.ref b1), .val (.int (3 : Int32)), .val (.int ((p2 &&& (2147483647 : Int32)) % ((5 : Int32) - (3 : Int32)))), .unset, .unset, .unset, .unset, .unset, .unset, .unset, .unset]) (hb hby at_50) rfl rfl ?_
    rcases own_l3 p2 with hl | hl
    · rw [hl]
      obtain ⟨T334, h334, X334, e334, E334, A334, D334, -, st334⟩ := newO X8 hx hZ hown (hw _ (List.mem_of_getElem? (i := 2) rfl)) (hw _ (List.mem_of_getElem? (i := 3) rfl)) (hw _ (List.mem_of_getElem? (i := 4) rfl)) e8 (g := (mkF m 52 #[.val (.int p0), .val (.int p1), .val (.int p2), .val (.ref b1), .val (.int (3 : Int32)), .val (.int (0 : Int32)), .unset, .unset, .unset, .unset, .unset, .unset, .unset, .unset] [])) rfl (hb hby at_52) (by decide) (by decide)
      obtain ⟨b334, g334⟩ : ∃ z, z = h8.size := ⟨_, rfl⟩
      rw [← g334] at A334 D334 st334
      have ne_b1_b334 : b1 ≠ b334 := Nat.ne_of_lt (Nat.lt_of_lt_of_le (A8).lt (Nat.le_of_eq g334.symm))
      have G334 : n0 ≤ b334 := Nat.le_trans Z8 (Nat.le_of_eq g334.symm)
      have Z334 : n0 ≤ h334.size := Nat.le_trans Z8 E334.1
      have fq335 := Ints.ext E334 A8
      have F334_bytes : Fld Z h334 b334 "com/example/tallyhold/tallyhold/ledger/ArrayInput" "bytes" "[B" .null := D334 (Or.inr (hw _ (List.mem_of_getElem? (i := 25) rfl))) (ty := (.array .byte)) (by decide)
      have F334_at : Fld Z h334 b334 "com/example/tallyhold/tallyhold/ledger/ArrayInput" "at" "I" (.int (0 : Int32)) := D334 (Or.inl (hw _ (List.mem_of_getElem? (i := 27) rfl))) (ty := .int) (by decide)
      have F334_end : Fld Z h334 b334 "com/example/tallyhold/tallyhold/ledger/ArrayInput" "end" "I" (.int (0 : Int32)) := D334 (Or.inr (hw _ (List.mem_of_getElem? (i := 29) rfl))) (ty := .int) (by decide)
      refine Run.back (g' := (mkF m 55 #[.val (.int p0), .val (.int p1), .val (.int p2), .val (.ref b1), .val (.int (3 : Int32)), .val (.int (0 : Int32)), .unset, .unset, .unset, .unset, .unset, .unset, .unset, .unset] [(.ref b334)])) st334 ?_
      refine Run.dup (pc' := 56) X334 hx (hb hby at_55) rfl rfl ?_
      refine Run.aloadN (pc' := 57) X334 hx (hb hby at_56) rfl rfl ?_
      refine Run.iload (pc' := 59) X334 hx (hb hby at_57) rfl rfl ?_
      refine Run.iload (pc' := 61) X334 hx (hb hby at_59) rfl rfl ?_
      obtain ⟨T336, L336, v336, X336, Q336, st336⟩ := callSpecial X334 hx (y := (⟨"com/example/tallyhold/tallyhold/ledger/ArrayInput", "<init>", "([BII)V"⟩ : MethodName)) (a := b334) (Ls := #[.val (.int p0), .val (.int p1), .val (.int p2), .val (.ref b1), .val (.int (3 : Int32)), .val (.int (0 : Int32)), .unset, .unset, .unset, .unset, .unset, .unset, .unset, .unset]) (rest := [(.ref b334)]) (W := 1) (argsL := [(.ref b1), (.int (3 : Int32)), (.int (0 : Int32))]) rfl hZ hown (hw _ (List.mem_of_getElem? (i := 5) rfl)) (hw _ (List.mem_of_getElem? (i := 6) rfl)) (hw _ (List.mem_of_getElem? (i := 4) rfl)) (hw _ (List.mem_of_getElem? (i := 7) rfl)) (by decide) e334 (rm4 l Z a0 hw [] b334 b1 (3 : Int32) (0 : Int32) f9 h334 n0 Z334 A334 F334_bytes F334_at F334_end G334 fq335 ne_b1_b334 (by decide) (by decide)) (hb hby at_61) (lenOf own_pd3 rfl) (by decide) (by decide) (by rw [hml]; rfl) (Nat.le_of_eq rfl) (by decide) (by decide)
      obtain ⟨rfl, M336, K336, E336, F336_bytes, F336_at, F336_end⟩ := Q336
      rw [show ((3 : Int32) + (0 : Int32)) = (3 : Int32) from rfl] at F336_end
      have N336 := Fr.app N8 M336
      have fq337 := Ints.keep fq335 K336 (ninS ne_b1_b334 nin0)
      have fq338 := Exa.keep A334 K336
      have Z336 : n0 ≤ T336.heap.size := Nat.le_trans Z334 K336.1
      refine Run.back (g' := (mkF m 64 #[.val (.int p0), .val (.int p1), .val (.int p2), .val (.ref b1), .val (.int (3 : Int32)), .val (.int (0 : Int32)), .unset, .unset, .unset, .unset, .unset, .unset, .unset, .unset] [(.ref b334)])) st336 ?_
      refine Run.astore (pc' := 66) X336 hx (l' := #[.val (.int p0), .val (.int p1), .val (.int p2), .val (.ref b1), .val (.int (3 : Int32)), .val (.int (0 : Int32)), .val (.ref b334), .unset, .unset, .unset, .unset, .unset, .unset, .unset]) (hb hby at_64) rfl rfl ?_
      refine Run.aload (pc' := 68) X336 hx (hb hby at_66) rfl rfl ?_
      obtain ⟨T339, L339, v339, X339, Q339, st339⟩ := callVirtual X336 hx (y := (⟨"com/example/tallyhold/tallyhold/ledger/ArrayInput", "read", "()I"⟩ : MethodName)) (z := (⟨"com/example/tallyhold/tallyhold/ledger/ArrayInput", "read", "()I"⟩ : MethodName)) (C := "com/example/tallyhold/tallyhold/ledger/ArrayInput") (a := b334) (Ls := #[.val (.int p0), .val (.int p1), .val (.int p2), .val (.ref b1), .val (.int (3 : Int32)), .val (.int (0 : Int32)), .val (.ref b334), .unset, .unset, .unset, .unset, .unset, .unset, .unset]) (rest := []) (W := 0) (argsL := []) hZ hown (hw _ (List.mem_of_getElem? (i := 30) rfl)) (hw _ (List.mem_of_getElem? (i := 31) rfl)) (notFace_of_selects (args := #[]) (mvT hZ (hw _ (List.mem_of_getElem? (i := 33) rfl)))) (hw _ (List.mem_of_getElem? (i := 33) rfl)) (hw _ (List.mem_of_getElem? (i := 32) rfl)) (hw _ (List.mem_of_getElem? (i := 4) rfl)) (hw _ (List.mem_of_getElem? (i := 34) rfl)) (by decide) rfl E336 (rm5 l Z a0 hw [] b334 b1 (3 : Int32) (3 : Int32) f9 T336.heap n0 Z336 E336 F336_bytes F336_at F336_end G334 fq337 ne_b1_b334 (by decide) (by decide)) (hb hby at_68) (lenOf own_pd4 rfl) (by decide) (by decide) (by rw [hml]; rfl) (Nat.le_of_eq rfl) (by decide) (by decide)
      obtain ⟨hv339, M339, K339, E339, F339_bytes, F339_at, F339_end⟩ := Q339
      rw [show (own_R (3 : Int32) (3 : Int32) f9) = (-1 : Int32) from rfl] at hv339
      subst hv339
      rw [show (own_N (3 : Int32) (3 : Int32)) = (3 : Int32) from rfl] at F339_at
      have N339 := Fr.app N336 M339
      have fq340 := Ints.keep fq337 K339 (ninS ne_b1_b334 nin0)
      have fq341 := Exa.keep E336 K339
      have Z339 : n0 ≤ T339.heap.size := Nat.le_trans Z336 K339.1
      refine Run.back (g' := (mkF m 71 #[.val (.int p0), .val (.int p1), .val (.int p2), .val (.ref b1), .val (.int (3 : Int32)), .val (.int (0 : Int32)), .val (.ref b334), .unset, .unset, .unset, .unset, .unset, .unset, .unset] [(.int (-1 : Int32))])) st339 ?_
      refine Run.istore (pc' := 73) X339 hx (l' := #[.val (.int p0), .val (.int p1), .val (.int p2), .val (.ref b1), .val (.int (3 : Int32)), .val (.int (0 : Int32)), .val (.ref b334), .val (.int (-1 : Int32)), .unset, .unset, .unset, .unset, .unset, .unset]) (hb hby at_71) rfl rfl ?_
      refine Run.aload (pc' := 75) X339 hx (hb hby at_73) rfl rfl ?_
      obtain ⟨T342, L342, v342, X342, Q342, st342⟩ := callVirtual X339 hx (y := (⟨"com/example/tallyhold/tallyhold/ledger/ArrayInput", "read", "()I"⟩ : MethodName)) (z := (⟨"com/example/tallyhold/tallyhold/ledger/ArrayInput", "read", "()I"⟩ : MethodName)) (C := "com/example/tallyhold/tallyhold/ledger/ArrayInput") (a := b334) (Ls := #[.val (.int p0), .val (.int p1), .val (.int p2), .val (.ref b1), .val (.int (3 : Int32)), .val (.int (0 : Int32)), .val (.ref b334), .val (.int (-1 : Int32)), .unset, .unset, .unset, .unset, .unset, .unset]) (rest := []) (W := 0) (argsL := []) hZ hown (hw _ (List.mem_of_getElem? (i := 30) rfl)) (hw _ (List.mem_of_getElem? (i := 31) rfl)) (notFace_of_selects (args := #[]) (mvT hZ (hw _ (List.mem_of_getElem? (i := 33) rfl)))) (hw _ (List.mem_of_getElem? (i := 33) rfl)) (hw _ (List.mem_of_getElem? (i := 32) rfl)) (hw _ (List.mem_of_getElem? (i := 4) rfl)) (hw _ (List.mem_of_getElem? (i := 34) rfl)) (by decide) rfl E339 (rm5 l Z a0 hw [] b334 b1 (3 : Int32) (3 : Int32) f9 T339.heap n0 Z339 E339 F339_bytes F339_at F339_end G334 fq340 ne_b1_b334 (by decide) (by decide)) (hb hby at_75) (lenOf own_pd4 rfl) (by decide) (by decide) (by rw [hml]; rfl) (Nat.le_of_eq rfl) (by decide) (by decide)
      obtain ⟨hv342, M342, K342, E342, F342_bytes, F342_at, F342_end⟩ := Q342
      rw [show (own_R (3 : Int32) (3 : Int32) f9) = (-1 : Int32) from rfl] at hv342
      subst hv342
      rw [show (own_N (3 : Int32) (3 : Int32)) = (3 : Int32) from rfl] at F342_at
      have N342 := Fr.app N339 M342
      have fq343 := Ints.keep fq340 K342 (ninS ne_b1_b334 nin0)
      have fq344 := Exa.keep E339 K342
      have Z342 : n0 ≤ T342.heap.size := Nat.le_trans Z339 K342.1
      refine Run.back (g' := (mkF m 78 #[.val (.int p0), .val (.int p1), .val (.int p2), .val (.ref b1), .val (.int (3 : Int32)), .val (.int (0 : Int32)), .val (.ref b334), .val (.int (-1 : Int32)), .unset, .unset, .unset, .unset, .unset, .unset] [(.int (-1 : Int32))])) st342 ?_
      refine Run.istore (pc' := 80) X342 hx (l' := #[.val (.int p0), .val (.int p1), .val (.int p2), .val (.ref b1), .val (.int (3 : Int32)), .val (.int (0 : Int32)), .val (.ref b334), .val (.int (-1 : Int32)), .val (.int (-1 : Int32)), .unset, .unset, .unset, .unset, .unset]) (hb hby at_78) rfl rfl ?_
      refine Run.aload (pc' := 82) X342 hx (hb hby at_80) rfl rfl ?_
      obtain ⟨T345, L345, v345, X345, Q345, st345⟩ := callVirtual X342 hx (y := (⟨"com/example/tallyhold/tallyhold/ledger/ArrayInput", "read", "()I"⟩ : MethodName)) (z := (⟨"com/example/tallyhold/tallyhold/ledger/ArrayInput", "read", "()I"⟩ : MethodName)) (C := "com/example/tallyhold/tallyhold/ledger/ArrayInput") (a := b334) (Ls := #[.val (.int p0), .val (.int p1), .val (.int p2), .val (.ref b1), .val (.int (3 : Int32)), .val (.int (0 : Int32)), .val (.ref b334), .val (.int (-1 : Int32)), .val (.int (-1 : Int32)), .unset, .unset, .unset, .unset, .unset]) (rest := []) (W := 0) (argsL := []) hZ hown (hw _ (List.mem_of_getElem? (i := 30) rfl)) (hw _ (List.mem_of_getElem? (i := 31) rfl)) (notFace_of_selects (args := #[]) (mvT hZ (hw _ (List.mem_of_getElem? (i := 33) rfl)))) (hw _ (List.mem_of_getElem? (i := 33) rfl)) (hw _ (List.mem_of_getElem? (i := 32) rfl)) (hw _ (List.mem_of_getElem? (i := 4) rfl)) (hw _ (List.mem_of_getElem? (i := 34) rfl)) (by decide) rfl E342 (rm5 l Z a0 hw [] b334 b1 (3 : Int32) (3 : Int32) f9 T342.heap n0 Z342 E342 F342_bytes F342_at F342_end G334 fq343 ne_b1_b334 (by decide) (by decide)) (hb hby at_82) (lenOf own_pd4 rfl) (by decide) (by decide) (by rw [hml]; rfl) (Nat.le_of_eq rfl) (by decide) (by decide)
      obtain ⟨hv345, M345, K345, E345, F345_bytes, F345_at, F345_end⟩ := Q345
      rw [show (own_R (3 : Int32) (3 : Int32) f9) = (-1 : Int32) from rfl] at hv345
      subst hv345
      rw [show (own_N (3 : Int32) (3 : Int32)) = (3 : Int32) from rfl] at F345_at
      have N345 := Fr.app N342 M345
      have fq346 := Ints.keep fq343 K345 (ninS ne_b1_b334 nin0)
      have fq347 := Exa.keep E342 K345
      have Z345 : n0 ≤ T345.heap.size := Nat.le_trans Z342 K345.1
      refine Run.back (g' := (mkF m 85 #[.val (.int p0), .val (.int p1), .val (.int p2), .val (.ref b1), .val (.int (3 : Int32)), .val (.int (0 : Int32)), .val (.ref b334), .val (.int (-1 : Int32)), .val (.int (-1 : Int32)), .unset, .unset, .unset, .unset, .unset] [(.int (-1 : Int32))])) st345 ?_
      refine Run.istore (pc' := 87) X345 hx (l' := #[.val (.int p0), .val (.int p1), .val (.int p2), .val (.ref b1), .val (.int (3 : Int32)), .val (.int (0 : Int32)), .val (.ref b334), .val (.int (-1 : Int32)), .val (.int (-1 : Int32)), .val (.int (-1 : Int32)), .unset, .unset, .unset, .unset]) (hb hby at_85) rfl rfl ?_
      refine Run.aload (pc' := 89) X345 hx (hb hby at_87) rfl rfl ?_
      obtain ⟨T348, L348, v348, X348, Q348, st348⟩ := callVirtual X345 hx (y := (⟨"com/example/tallyhold/tallyhold/ledger/ArrayInput", "read", "()I"⟩ : MethodName)) (z := (⟨"com/example/tallyhold/tallyhold/ledger/ArrayInput", "read", "()I"⟩ : MethodName)) (C := "com/example/tallyhold/tallyhold/ledger/ArrayInput") (a := b334) (Ls := #[.val (.int p0), .val (.int p1), .val (.int p2), .val (.ref b1), .val (.int (3 : Int32)), .val (.int (0 : Int32)), .val (.ref b334), .val (.int (-1 : Int32)), .val (.int (-1 : Int32)), .val (.int (-1 : Int32)), .unset, .unset, .unset, .unset]) (rest := []) (W := 0) (argsL := []) hZ hown (hw _ (List.mem_of_getElem? (i := 30) rfl)) (hw _ (List.mem_of_getElem? (i := 31) rfl)) (notFace_of_selects (args := #[]) (mvT hZ (hw _ (List.mem_of_getElem? (i := 33) rfl)))) (hw _ (List.mem_of_getElem? (i := 33) rfl)) (hw _ (List.mem_of_getElem? (i := 32) rfl)) (hw _ (List.mem_of_getElem? (i := 4) rfl)) (hw _ (List.mem_of_getElem? (i := 34) rfl)) (by decide) rfl E345 (rm5 l Z a0 hw [] b334 b1 (3 : Int32) (3 : Int32) f9 T345.heap n0 Z345 E345 F345_bytes F345_at F345_end G334 fq346 ne_b1_b334 (by decide) (by decide)) (hb hby at_89) (lenOf own_pd4 rfl) (by decide) (by decide) (by rw [hml]; rfl) (Nat.le_of_eq rfl) (by decide) (by decide)
      obtain ⟨hv348, M348, K348, E348, F348_bytes, F348_at, F348_end⟩ := Q348
      rw [show (own_R (3 : Int32) (3 : Int32) f9) = (-1 : Int32) from rfl] at hv348
      subst hv348
      rw [show (own_N (3 : Int32) (3 : Int32)) = (3 : Int32) from rfl] at F348_at
      have N348 := Fr.app N345 M348
      have fq349 := Ints.keep fq346 K348 (ninS ne_b1_b334 nin0)
      have fq350 := Exa.keep E345 K348
      have Z348 : n0 ≤ T348.heap.size := Nat.le_trans Z345 K348.1
      refine Run.back (g' := (mkF m 92 #[.val (.int p0), .val (.int p1), .val (.int p2), .val (.ref b1), .val (.int (3 : Int32)), .val (.int (0 : Int32)), .val (.ref b334), .val (.int (-1 : Int32)), .val (.int (-1 : Int32)), .val (.int (-1 : Int32)), .unset, .unset, .unset, .unset] [(.int (-1 : Int32))])) st348 ?_
      refine Run.istore (pc' := 94) X348 hx (l' := #[.val (.int p0), .val (.int p1), .val (.int p2), .val (.ref b1), .val (.int (3 : Int32)), .val (.int (0 : Int32)), .val (.ref b334), .val (.int (-1 : Int32)), .val (.int (-1 : Int32)), .val (.int (-1 : Int32)), .val (.int (-1 : Int32)), .unset, .unset, .unset]) (hb hby at_92) rfl rfl ?_
      refine Run.aload (pc' := 96) X348 hx (hb hby at_94) rfl rfl ?_
      obtain ⟨T351, L351, v351, X351, Q351, st351⟩ := callVirtual X348 hx (y := (⟨"com/example/tallyhold/tallyhold/ledger/ArrayInput", "read", "()I"⟩ : MethodName)) (z := (⟨"com/example/tallyhold/tallyhold/ledger/ArrayInput", "read", "()I"⟩ : MethodName)) (C := "com/example/tallyhold/tallyhold/ledger/ArrayInput") (a := b334) (Ls := #[.val (.int p0), .val (.int p1), .val (.int p2), .val (.ref b1), .val (.int (3 : Int32)), .val (.int (0 : Int32)), .val (.ref b334), .val (.int (-1 : Int32)), .val (.int (-1 : Int32)), .val (.int (-1 : Int32)), .val (.int (-1 : Int32)), .unset, .unset, .unset]) (rest := []) (W := 0) (argsL := []) hZ hown (hw _ (List.mem_of_getElem? (i := 30) rfl)) (hw _ (List.mem_of_getElem? (i := 31) rfl)) (notFace_of_selects (args := #[]) (mvT hZ (hw _ (List.mem_of_getElem? (i := 33) rfl)))) (hw _ (List.mem_of_getElem? (i := 33) rfl)) (hw _ (List.mem_of_getElem? (i := 32) rfl)) (hw _ (List.mem_of_getElem? (i := 4) rfl)) (hw _ (List.mem_of_getElem? (i := 34) rfl)) (by decide) rfl E348 (rm5 l Z a0 hw [] b334 b1 (3 : Int32) (3 : Int32) f9 T348.heap n0 Z348 E348 F348_bytes F348_at F348_end G334 fq349 ne_b1_b334 (by decide) (by decide)) (hb hby at_96) (lenOf own_pd4 rfl) (by decide) (by decide) (by rw [hml]; rfl) (Nat.le_of_eq rfl) (by decide) (by decide)
      obtain ⟨hv351, M351, K351, E351, F351_bytes, F351_at, F351_end⟩ := Q351
      rw [show (own_R (3 : Int32) (3 : Int32) f9) = (-1 : Int32) from rfl] at hv351
      subst hv351
      rw [show (own_N (3 : Int32) (3 : Int32)) = (3 : Int32) from rfl] at F351_at
      have N351 := Fr.app N348 M351
      have fq352 := Ints.keep fq349 K351 (ninS ne_b1_b334 nin0)
      have fq353 := Exa.keep E348 K351
      have Z351 : n0 ≤ T351.heap.size := Nat.le_trans Z348 K351.1
      refine Run.back (g' := (mkF m 99 #[.val (.int p0), .val (.int p1), .val (.int p2), .val (.ref b1), .val (.int (3 : Int32)), .val (.int (0 : Int32)), .val (.ref b334), .val (.int (-1 : Int32)), .val (.int (-1 : Int32)), .val (.int (-1 : Int32)), .val (.int (-1 : Int32)), .unset, .unset, .unset] [(.int (-1 : Int32))])) st351 ?_
      refine Run.istore (pc' := 101) X351 hx (l' := #[.val (.int p0), .val (.int p1), .val (.int p2), .val (.ref b1), .val (.int (3 : Int32)), .val (.int (0 : Int32)), .val (.ref b334), .val (.int (-1 : Int32)), .val (.int (-1 : Int32)), .val (.int (-1 : Int32)), .val (.int (-1 : Int32)), .val (.int (-1 : Int32)), .unset, .unset]) (hb hby at_99) rfl rfl ?_
      refine Run.aload (pc' := 103) X351 hx (hb hby at_101) rfl rfl ?_
      obtain ⟨T354, L354, v354, X354, Q354, st354⟩ := callVirtual X351 hx (y := (⟨"com/example/tallyhold/tallyhold/ledger/ArrayInput", "position", "()I"⟩ : MethodName)) (z := (⟨"com/example/tallyhold/tallyhold/ledger/ArrayInput", "position", "()I"⟩ : MethodName)) (C := "com/example/tallyhold/tallyhold/ledger/ArrayInput") (a := b334) (Ls := #[.val (.int p0), .val (.int p1), .val (.int p2), .val (.ref b1), .val (.int (3 : Int32)), .val (.int (0 : Int32)), .val (.ref b334), .val (.int (-1 : Int32)), .val (.int (-1 : Int32)), .val (.int (-1 : Int32)), .val (.int (-1 : Int32)), .val (.int (-1 : Int32)), .unset, .unset]) (rest := []) (W := 0) (argsL := []) hZ hown (hw _ (List.mem_of_getElem? (i := 35) rfl)) (hw _ (List.mem_of_getElem? (i := 36) rfl)) (notFace_of_selects (args := #[]) (mvT hZ (hw _ (List.mem_of_getElem? (i := 38) rfl)))) (hw _ (List.mem_of_getElem? (i := 38) rfl)) (hw _ (List.mem_of_getElem? (i := 37) rfl)) (hw _ (List.mem_of_getElem? (i := 4) rfl)) (hw _ (List.mem_of_getElem? (i := 39) rfl)) (by decide) rfl E351 (rm6 l Z a0 hw [] b334 (3 : Int32) T351.heap n0 Z351 F351_at) (hb hby at_103) (lenOf own_pd4 rfl) (by decide) (by decide) (by rw [hml]; rfl) (Nat.le_of_eq rfl) (by decide) (by decide)
      obtain ⟨hv354, M354, e354⟩ := Q354
      rw [show (own_F6 b334 (3 : Int32)) = (3 : Int32) from rfl] at hv354
      subst hv354
      have N354 := Fr.app N351 M354
      refine Run.back (g' := (mkF m 106 #[.val (.int p0), .val (.int p1), .val (.int p2), .val (.ref b1), .val (.int (3 : Int32)), .val (.int (0 : Int32)), .val (.ref b334), .val (.int (-1 : Int32)), .val (.int (-1 : Int32)), .val (.int (-1 : Int32)), .val (.int (-1 : Int32)), .val (.int (-1 : Int32)), .unset, .unset] [(.int (3 : Int32))])) st354 ?_
      refine Run.istore (pc' := 108) X354 hx (l' := #[.val (.int p0), .val (.int p1), .val (.int p2), .val (.ref b1), .val (.int (3 : Int32)), .val (.int (0 : Int32)), .val (.ref b334), .val (.int (-1 : Int32)), .val (.int (-1 : Int32)), .val (.int (-1 : Int32)), .val (.int (-1 : Int32)), .val (.int (-1 : Int32)), .val (.int (3 : Int32)), .unset]) (hb hby at_106) rfl rfl ?_
      refine Run.aload (pc' := 110) X354 hx (hb hby at_108) rfl rfl ?_
      obtain ⟨T355, L355, v355, X355, Q355, st355⟩ := callVirtual X354 hx (y := (⟨"com/example/tallyhold/tallyhold/ledger/ArrayInput", "available", "()I"⟩ : MethodName)) (z := (⟨"com/example/tallyhold/tallyhold/ledger/ArrayInput", "available", "()I"⟩ : MethodName)) (C := "com/example/tallyhold/tallyhold/ledger/ArrayInput") (a := b334) (Ls := #[.val (.int p0), .val (.int p1), .val (.int p2), .val (.ref b1), .val (.int (3 : Int32)), .val (.int (0 : Int32)), .val (.ref b334), .val (.int (-1 : Int32)), .val (.int (-1 : Int32)), .val (.int (-1 : Int32)), .val (.int (-1 : Int32)), .val (.int (-1 : Int32)), .val (.int (3 : Int32)), .unset]) (rest := []) (W := 0) (argsL := []) hZ hown (hw _ (List.mem_of_getElem? (i := 40) rfl)) (hw _ (List.mem_of_getElem? (i := 41) rfl)) (notFace_of_selects (args := #[]) (mvT hZ (hw _ (List.mem_of_getElem? (i := 43) rfl)))) (hw _ (List.mem_of_getElem? (i := 43) rfl)) (hw _ (List.mem_of_getElem? (i := 42) rfl)) (hw _ (List.mem_of_getElem? (i := 4) rfl)) (hw _ (List.mem_of_getElem? (i := 44) rfl)) (by decide) e354 E351 (rm7 l Z a0 hw [] b334 (3 : Int32) (3 : Int32) T351.heap n0 Z351 F351_at F351_end) (hb hby at_110) (lenOf own_pd4 rfl) (by decide) (by decide) (by rw [hml]; rfl) (Nat.le_of_eq rfl) (by decide) (by decide)
      obtain ⟨hv355, M355, e355⟩ := Q355
      rw [show (own_F7 b334 (3 : Int32) (3 : Int32)) = (0 : Int32) from rfl] at hv355
      subst hv355
      have N355 := Fr.app N354 M355
      refine Run.back (g' := (mkF m 113 #[.val (.int p0), .val (.int p1), .val (.int p2), .val (.ref b1), .val (.int (3 : Int32)), .val (.int (0 : Int32)), .val (.ref b334), .val (.int (-1 : Int32)), .val (.int (-1 : Int32)), .val (.int (-1 : Int32)), .val (.int (-1 : Int32)), .val (.int (-1 : Int32)), .val (.int (3 : Int32)), .unset] [(.int (0 : Int32))])) st355 ?_
      refine Run.istore (pc' := 115) X355 hx (l' := #[.val (.int p0), .val (.int p1), .val (.int p2), .val (.ref b1), .val (.int (3 : Int32)), .val (.int (0 : Int32)), .val (.ref b334), .val (.int (-1 : Int32)), .val (.int (-1 : Int32)), .val (.int (-1 : Int32)), .val (.int (-1 : Int32)), .val (.int (-1 : Int32)), .val (.int (3 : Int32)), .val (.int (0 : Int32))]) (hb hby at_113) rfl rfl ?_
      refine Run.iload (pc' := 117) X355 hx (hb hby at_115) rfl rfl ?_
      refine Run.iloadN (pc' := 118) X355 hx (hb hby at_117) rfl rfl ?_
      refine Run.iload (pc' := 120) X355 hx (hb hby at_118) rfl rfl ?_
      refine Run.iload (pc' := 122) X355 hx (hb hby at_120) rfl rfl ?_
      refine Run.iconst (pc' := 123) (v := (0 : Int32)) X355 hx (hb hby at_122) rfl rfl ?_
      obtain ⟨T356, L356, v356, X356, Q356, st356⟩ := callStatic X355 hx (y := (⟨"com/example/tallyhold/tallyhold/ledger/ArrayInputReadPinLaw", "expected", "(IIII)I"⟩ : MethodName)) (Ls := #[.val (.int p0), .val (.int p1), .val (.int p2), .val (.ref b1), .val (.int (3 : Int32)), .val (.int (0 : Int32)), .val (.ref b334), .val (.int (-1 : Int32)), .val (.int (-1 : Int32)), .val (.int (-1 : Int32)), .val (.int (-1 : Int32)), .val (.int (-1 : Int32)), .val (.int (3 : Int32)), .val (.int (0 : Int32))]) (rest := [(.int (-1 : Int32))]) (W := 1) (argsL := [(.int p0), (.int (3 : Int32)), (.int (0 : Int32)), (.int (0 : Int32))]) hZ hown (hw _ (List.mem_of_getElem? (i := 45) rfl)) (hw _ (List.mem_of_getElem? (i := 46) rfl)) (hw _ (List.mem_of_getElem? (i := 47) rfl)) (hw _ (List.mem_of_getElem? (i := 48) rfl)) (by decide) e355 (rm8 l Z a0 hw [] p0 (3 : Int32) (0 : Int32) (0 : Int32)  T351.heap n0 Z351 ) (hb hby at_123) (lenOf own_pd5 rfl) (by decide) (by decide) (by rw [hml]; rfl) (Nat.le_of_eq rfl) (by decide) (by decide)
      obtain ⟨hv356, M356, e356⟩ := Q356
      rw [show (own_F8 p0 (3 : Int32) (0 : Int32) (0 : Int32)) = (-1 : Int32) from rfl] at hv356
      subst hv356
      have N356 := Fr.app N355 M356
      refine Run.back (g' := (mkF m 126 #[.val (.int p0), .val (.int p1), .val (.int p2), .val (.ref b1), .val (.int (3 : Int32)), .val (.int (0 : Int32)), .val (.ref b334), .val (.int (-1 : Int32)), .val (.int (-1 : Int32)), .val (.int (-1 : Int32)), .val (.int (-1 : Int32)), .val (.int (-1 : Int32)), .val (.int (3 : Int32)), .val (.int (0 : Int32))] [(.int (-1 : Int32)), (.int (-1 : Int32))])) st356 ?_
      refine Run.icmpNo (pc' := 129) X356 hx (hb hby at_126) (teq rfl).2 rfl ?_
      refine Run.iload (pc' := 131) X356 hx (hb hby at_129) rfl rfl ?_
      refine Run.iloadN (pc' := 132) X356 hx (hb hby at_131) rfl rfl ?_
      refine Run.iload (pc' := 134) X356 hx (hb hby at_132) rfl rfl ?_
      refine Run.iload (pc' := 136) X356 hx (hb hby at_134) rfl rfl ?_
      refine Run.iconst (pc' := 137) (v := (1 : Int32)) X356 hx (hb hby at_136) rfl rfl ?_
      obtain ⟨T357, L357, v357, X357, Q357, st357⟩ := callStatic X356 hx (y := (⟨"com/example/tallyhold/tallyhold/ledger/ArrayInputReadPinLaw", "expected", "(IIII)I"⟩ : MethodName)) (Ls := #[.val (.int p0), .val (.int p1), .val (.int p2), .val (.ref b1), .val (.int (3 : Int32)), .val (.int (0 : Int32)), .val (.ref b334), .val (.int (-1 : Int32)), .val (.int (-1 : Int32)), .val (.int (-1 : Int32)), .val (.int (-1 : Int32)), .val (.int (-1 : Int32)), .val (.int (3 : Int32)), .val (.int (0 : Int32))]) (rest := [(.int (-1 : Int32))]) (W := 1) (argsL := [(.int p0), (.int (3 : Int32)), (.int (0 : Int32)), (.int (1 : Int32))]) hZ hown (hw _ (List.mem_of_getElem? (i := 45) rfl)) (hw _ (List.mem_of_getElem? (i := 46) rfl)) (hw _ (List.mem_of_getElem? (i := 47) rfl)) (hw _ (List.mem_of_getElem? (i := 48) rfl)) (by decide) e356 (rm8 l Z a0 hw [] p0 (3 : Int32) (0 : Int32) (1 : Int32)  T351.heap n0 Z351 ) (hb hby at_137) (lenOf own_pd5 rfl) (by decide) (by decide) (by rw [hml]; rfl) (Nat.le_of_eq rfl) (by decide) (by decide)
      obtain ⟨hv357, M357, e357⟩ := Q357
      rw [show (own_F8 p0 (3 : Int32) (0 : Int32) (1 : Int32)) = (-1 : Int32) from rfl] at hv357
      subst hv357
      have N357 := Fr.app N356 M357
      refine Run.back (g' := (mkF m 140 #[.val (.int p0), .val (.int p1), .val (.int p2), .val (.ref b1), .val (.int (3 : Int32)), .val (.int (0 : Int32)), .val (.ref b334), .val (.int (-1 : Int32)), .val (.int (-1 : Int32)), .val (.int (-1 : Int32)), .val (.int (-1 : Int32)), .val (.int (-1 : Int32)), .val (.int (3 : Int32)), .val (.int (0 : Int32))] [(.int (-1 : Int32)), (.int (-1 : Int32))])) st357 ?_
      refine Run.icmpNo (pc' := 143) X357 hx (hb hby at_140) (teq rfl).2 rfl ?_
      refine Run.iload (pc' := 145) X357 hx (hb hby at_143) rfl rfl ?_
      refine Run.iloadN (pc' := 146) X357 hx (hb hby at_145) rfl rfl ?_
      refine Run.iload (pc' := 148) X357 hx (hb hby at_146) rfl rfl ?_
      refine Run.iload (pc' := 150) X357 hx (hb hby at_148) rfl rfl ?_
      refine Run.iconst (pc' := 151) (v := (2 : Int32)) X357 hx (hb hby at_150) rfl rfl ?_
      obtain ⟨T358, L358, v358, X358, Q358, st358⟩ := callStatic X357 hx (y := (⟨"com/example/tallyhold/tallyhold/ledger/ArrayInputReadPinLaw", "expected", "(IIII)I"⟩ : MethodName)) (Ls := #[.val (.int p0), .val (.int p1), .val (.int p2), .val (.ref b1), .val (.int (3 : Int32)), .val (.int (0 : Int32)), .val (.ref b334), .val (.int (-1 : Int32)), .val (.int (-1 : Int32)), .val (.int (-1 : Int32)), .val (.int (-1 : Int32)), .val (.int (-1 : Int32)), .val (.int (3 : Int32)), .val (.int (0 : Int32))]) (rest := [(.int (-1 : Int32))]) (W := 1) (argsL := [(.int p0), (.int (3 : Int32)), (.int (0 : Int32)), (.int (2 : Int32))]) hZ hown (hw _ (List.mem_of_getElem? (i := 45) rfl)) (hw _ (List.mem_of_getElem? (i := 46) rfl)) (hw _ (List.mem_of_getElem? (i := 47) rfl)) (hw _ (List.mem_of_getElem? (i := 48) rfl)) (by decide) e357 (rm8 l Z a0 hw [] p0 (3 : Int32) (0 : Int32) (2 : Int32)  T351.heap n0 Z351 ) (hb hby at_151) (lenOf own_pd5 rfl) (by decide) (by decide) (by rw [hml]; rfl) (Nat.le_of_eq rfl) (by decide) (by decide)
      obtain ⟨hv358, M358, e358⟩ := Q358
      rw [show (own_F8 p0 (3 : Int32) (0 : Int32) (2 : Int32)) = (-1 : Int32) from rfl] at hv358
      subst hv358
      have N358 := Fr.app N357 M358
      refine Run.back (g' := (mkF m 154 #[.val (.int p0), .val (.int p1), .val (.int p2), .val (.ref b1), .val (.int (3 : Int32)), .val (.int (0 : Int32)), .val (.ref b334), .val (.int (-1 : Int32)), .val (.int (-1 : Int32)), .val (.int (-1 : Int32)), .val (.int (-1 : Int32)), .val (.int (-1 : Int32)), .val (.int (3 : Int32)), .val (.int (0 : Int32))] [(.int (-1 : Int32)), (.int (-1 : Int32))])) st358 ?_
      refine Run.icmpNo (pc' := 157) X358 hx (hb hby at_154) (teq rfl).2 rfl ?_
      refine Run.iload (pc' := 159) X358 hx (hb hby at_157) rfl rfl ?_
      refine Run.iloadN (pc' := 160) X358 hx (hb hby at_159) rfl rfl ?_
      refine Run.iload (pc' := 162) X358 hx (hb hby at_160) rfl rfl ?_
      refine Run.iload (pc' := 164) X358 hx (hb hby at_162) rfl rfl ?_
      refine Run.iconst (pc' := 165) (v := (3 : Int32)) X358 hx (hb hby at_164) rfl rfl ?_
      obtain ⟨T359, L359, v359, X359, Q359, st359⟩ := callStatic X358 hx (y := (⟨"com/example/tallyhold/tallyhold/ledger/ArrayInputReadPinLaw", "expected", "(IIII)I"⟩ : MethodName)) (Ls := #[.val (.int p0), .val (.int p1), .val (.int p2), .val (.ref b1), .val (.int (3 : Int32)), .val (.int (0 : Int32)), .val (.ref b334), .val (.int (-1 : Int32)), .val (.int (-1 : Int32)), .val (.int (-1 : Int32)), .val (.int (-1 : Int32)), .val (.int (-1 : Int32)), .val (.int (3 : Int32)), .val (.int (0 : Int32))]) (rest := [(.int (-1 : Int32))]) (W := 1) (argsL := [(.int p0), (.int (3 : Int32)), (.int (0 : Int32)), (.int (3 : Int32))]) hZ hown (hw _ (List.mem_of_getElem? (i := 45) rfl)) (hw _ (List.mem_of_getElem? (i := 46) rfl)) (hw _ (List.mem_of_getElem? (i := 47) rfl)) (hw _ (List.mem_of_getElem? (i := 48) rfl)) (by decide) e358 (rm8 l Z a0 hw [] p0 (3 : Int32) (0 : Int32) (3 : Int32)  T351.heap n0 Z351 ) (hb hby at_165) (lenOf own_pd5 rfl) (by decide) (by decide) (by rw [hml]; rfl) (Nat.le_of_eq rfl) (by decide) (by decide)
      obtain ⟨hv359, M359, e359⟩ := Q359
      rw [show (own_F8 p0 (3 : Int32) (0 : Int32) (3 : Int32)) = (-1 : Int32) from rfl] at hv359
      subst hv359
      have N359 := Fr.app N358 M359
      refine Run.back (g' := (mkF m 168 #[.val (.int p0), .val (.int p1), .val (.int p2), .val (.ref b1), .val (.int (3 : Int32)), .val (.int (0 : Int32)), .val (.ref b334), .val (.int (-1 : Int32)), .val (.int (-1 : Int32)), .val (.int (-1 : Int32)), .val (.int (-1 : Int32)), .val (.int (-1 : Int32)), .val (.int (3 : Int32)), .val (.int (0 : Int32))] [(.int (-1 : Int32)), (.int (-1 : Int32))])) st359 ?_
      refine Run.icmpNo (pc' := 171) X359 hx (hb hby at_168) (teq rfl).2 rfl ?_
      refine Run.iload (pc' := 173) X359 hx (hb hby at_171) rfl rfl ?_
      refine Run.iloadN (pc' := 174) X359 hx (hb hby at_173) rfl rfl ?_
      refine Run.iload (pc' := 176) X359 hx (hb hby at_174) rfl rfl ?_
      refine Run.iload (pc' := 178) X359 hx (hb hby at_176) rfl rfl ?_
      refine Run.iconst (pc' := 179) (v := (4 : Int32)) X359 hx (hb hby at_178) rfl rfl ?_
      obtain ⟨T360, L360, v360, X360, Q360, st360⟩ := callStatic X359 hx (y := (⟨"com/example/tallyhold/tallyhold/ledger/ArrayInputReadPinLaw", "expected", "(IIII)I"⟩ : MethodName)) (Ls := #[.val (.int p0), .val (.int p1), .val (.int p2), .val (.ref b1), .val (.int (3 : Int32)), .val (.int (0 : Int32)), .val (.ref b334), .val (.int (-1 : Int32)), .val (.int (-1 : Int32)), .val (.int (-1 : Int32)), .val (.int (-1 : Int32)), .val (.int (-1 : Int32)), .val (.int (3 : Int32)), .val (.int (0 : Int32))]) (rest := [(.int (-1 : Int32))]) (W := 1) (argsL := [(.int p0), (.int (3 : Int32)), (.int (0 : Int32)), (.int (4 : Int32))]) hZ hown (hw _ (List.mem_of_getElem? (i := 45) rfl)) (hw _ (List.mem_of_getElem? (i := 46) rfl)) (hw _ (List.mem_of_getElem? (i := 47) rfl)) (hw _ (List.mem_of_getElem? (i := 48) rfl)) (by decide) e359 (rm8 l Z a0 hw [] p0 (3 : Int32) (0 : Int32) (4 : Int32)  T351.heap n0 Z351 ) (hb hby at_179) (lenOf own_pd5 rfl) (by decide) (by decide) (by rw [hml]; rfl) (Nat.le_of_eq rfl) (by decide) (by decide)
      obtain ⟨hv360, M360, e360⟩ := Q360
      rw [show (own_F8 p0 (3 : Int32) (0 : Int32) (4 : Int32)) = (-1 : Int32) from rfl] at hv360
      subst hv360
      have N360 := Fr.app N359 M360
      refine Run.back (g' := (mkF m 182 #[.val (.int p0), .val (.int p1), .val (.int p2), .val (.ref b1), .val (.int (3 : Int32)), .val (.int (0 : Int32)), .val (.ref b334), .val (.int (-1 : Int32)), .val (.int (-1 : Int32)), .val (.int (-1 : Int32)), .val (.int (-1 : Int32)), .val (.int (-1 : Int32)), .val (.int (3 : Int32)), .val (.int (0 : Int32))] [(.int (-1 : Int32)), (.int (-1 : Int32))])) st360 ?_
      refine Run.icmpNo (pc' := 185) X360 hx (hb hby at_182) (teq rfl).2 rfl ?_
      refine Run.iload (pc' := 187) X360 hx (hb hby at_185) rfl rfl ?_
      refine Run.iload (pc' := 189) X360 hx (hb hby at_187) rfl rfl ?_
      refine Run.iload (pc' := 191) X360 hx (hb hby at_189) rfl rfl ?_
      refine Run.iadd (pc' := 192) X360 hx (hb hby at_191) rfl ?_
      refine Run.icmpNo (pc' := 195) X360 hx (hb hby at_192) (teq (by decide : (3 : Int32) = ((3 : Int32) + (0 : Int32)))).2 rfl ?_
      refine Run.iload (pc' := 197) X360 hx (hb hby at_195) rfl rfl ?_
      refine Run.ifNo (pc' := 200) X360 hx (hb hby at_197) ((if0 _ _).trans (teq (by decide : (0 : Int32) = (0 : Int32))).2) rfl ?_
      refine Run.iconst (pc' := 201) (v := (1 : Int32)) X360 hx (hb hby at_200) rfl rfl ?_
      refine Run.goto (pc' := 205) X360 hx (hb hby at_201) (by decide) (by decide) ?_
      exact Run.retSmall X360 hx (t := .boolean) (z' := (1 : Int32)) Bd.notSynchronized Bd.returns (by simp) rfl (hb hby at_205) ⟨rfl, N360⟩ (by decide) (by decide)
    · rw [hl]
      obtain ⟨T361, h361, X361, e361, E361, A361, D361, -, st361⟩ := newO X8 hx hZ hown (hw _ (List.mem_of_getElem? (i := 2) rfl)) (hw _ (List.mem_of_getElem? (i := 3) rfl)) (hw _ (List.mem_of_getElem? (i := 4) rfl)) e8 (g := (mkF m 52 #[.val (.int p0), .val (.int p1), .val (.int p2), .val (.ref b1), .val (.int (3 : Int32)), .val (.int (1 : Int32)), .unset, .unset, .unset, .unset, .unset, .unset, .unset, .unset] [])) rfl (hb hby at_52) (by decide) (by decide)
      obtain ⟨b361, g361⟩ : ∃ z, z = h8.size := ⟨_, rfl⟩
      rw [← g361] at A361 D361 st361
      have ne_b1_b361 : b1 ≠ b361 := Nat.ne_of_lt (Nat.lt_of_lt_of_le (A8).lt (Nat.le_of_eq g361.symm))
      have G361 : n0 ≤ b361 := Nat.le_trans Z8 (Nat.le_of_eq g361.symm)
      have Z361 : n0 ≤ h361.size := Nat.le_trans Z8 E361.1
      have fq362 := Ints.ext E361 A8
      have F361_bytes : Fld Z h361 b361 "com/example/tallyhold/tallyhold/ledger/ArrayInput" "bytes" "[B" .null := D361 (Or.inr (hw _ (List.mem_of_getElem? (i := 25) rfl))) (ty := (.array .byte)) (by decide)
      have F361_at : Fld Z h361 b361 "com/example/tallyhold/tallyhold/ledger/ArrayInput" "at" "I" (.int (0 : Int32)) := D361 (Or.inl (hw _ (List.mem_of_getElem? (i := 27) rfl))) (ty := .int) (by decide)
      have F361_end : Fld Z h361 b361 "com/example/tallyhold/tallyhold/ledger/ArrayInput" "end" "I" (.int (0 : Int32)) := D361 (Or.inr (hw _ (List.mem_of_getElem? (i := 29) rfl))) (ty := .int) (by decide)
      refine Run.back (g' := (mkF m 55 #[.val (.int p0), .val (.int p1), .val (.int p2), .val (.ref b1), .val (.int (3 : Int32)), .val (.int (1 : Int32)), .unset, .unset, .unset, .unset, .unset, .unset, .unset, .unset] [(.ref b361)])) st361 ?_
      refine Run.dup (pc' := 56) X361 hx (hb hby at_55) rfl rfl ?_
      refine Run.aloadN (pc' := 57) X361 hx (hb hby at_56) rfl rfl ?_
      refine Run.iload (pc' := 59) X361 hx (hb hby at_57) rfl rfl ?_
      refine Run.iload (pc' := 61) X361 hx (hb hby at_59) rfl rfl ?_
      obtain ⟨T363, L363, v363, X363, Q363, st363⟩ := callSpecial X361 hx (y := (⟨"com/example/tallyhold/tallyhold/ledger/ArrayInput", "<init>", "([BII)V"⟩ : MethodName)) (a := b361) (Ls := #[.val (.int p0), .val (.int p1), .val (.int p2), .val (.ref b1), .val (.int (3 : Int32)), .val (.int (1 : Int32)), .unset, .unset, .unset, .unset, .unset, .unset, .unset, .unset]) (rest := [(.ref b361)]) (W := 1) (argsL := [(.ref b1), (.int (3 : Int32)), (.int (1 : Int32))]) rfl hZ hown (hw _ (List.mem_of_getElem? (i := 5) rfl)) (hw _ (List.mem_of_getElem? (i := 6) rfl)) (hw _ (List.mem_of_getElem? (i := 4) rfl)) (hw _ (List.mem_of_getElem? (i := 7) rfl)) (by decide) e361 (rm4 l Z a0 hw [] b361 b1 (3 : Int32) (1 : Int32) f9 h361 n0 Z361 A361 F361_bytes F361_at F361_end G361 fq362 ne_b1_b361 (by decide) (by decide)) (hb hby at_61) (lenOf own_pd3 rfl) (by decide) (by decide) (by rw [hml]; rfl) (Nat.le_of_eq rfl) (by decide) (by decide)
      obtain ⟨rfl, M363, K363, E363, F363_bytes, F363_at, F363_end⟩ := Q363
      rw [show ((3 : Int32) + (1 : Int32)) = (4 : Int32) from rfl] at F363_end
      have N363 := Fr.app N8 M363
      have fq364 := Ints.keep fq362 K363 (ninS ne_b1_b361 nin0)
      have fq365 := Exa.keep A361 K363
      have Z363 : n0 ≤ T363.heap.size := Nat.le_trans Z361 K363.1
      refine Run.back (g' := (mkF m 64 #[.val (.int p0), .val (.int p1), .val (.int p2), .val (.ref b1), .val (.int (3 : Int32)), .val (.int (1 : Int32)), .unset, .unset, .unset, .unset, .unset, .unset, .unset, .unset] [(.ref b361)])) st363 ?_
      refine Run.astore (pc' := 66) X363 hx (l' := #[.val (.int p0), .val (.int p1), .val (.int p2), .val (.ref b1), .val (.int (3 : Int32)), .val (.int (1 : Int32)), .val (.ref b361), .unset, .unset, .unset, .unset, .unset, .unset, .unset]) (hb hby at_64) rfl rfl ?_
      refine Run.aload (pc' := 68) X363 hx (hb hby at_66) rfl rfl ?_
      obtain ⟨T366, L366, v366, X366, Q366, st366⟩ := callVirtual X363 hx (y := (⟨"com/example/tallyhold/tallyhold/ledger/ArrayInput", "read", "()I"⟩ : MethodName)) (z := (⟨"com/example/tallyhold/tallyhold/ledger/ArrayInput", "read", "()I"⟩ : MethodName)) (C := "com/example/tallyhold/tallyhold/ledger/ArrayInput") (a := b361) (Ls := #[.val (.int p0), .val (.int p1), .val (.int p2), .val (.ref b1), .val (.int (3 : Int32)), .val (.int (1 : Int32)), .val (.ref b361), .unset, .unset, .unset, .unset, .unset, .unset, .unset]) (rest := []) (W := 0) (argsL := []) hZ hown (hw _ (List.mem_of_getElem? (i := 30) rfl)) (hw _ (List.mem_of_getElem? (i := 31) rfl)) (notFace_of_selects (args := #[]) (mvT hZ (hw _ (List.mem_of_getElem? (i := 33) rfl)))) (hw _ (List.mem_of_getElem? (i := 33) rfl)) (hw _ (List.mem_of_getElem? (i := 32) rfl)) (hw _ (List.mem_of_getElem? (i := 4) rfl)) (hw _ (List.mem_of_getElem? (i := 34) rfl)) (by decide) rfl E363 (rm5 l Z a0 hw [] b361 b1 (3 : Int32) (4 : Int32) f9 T363.heap n0 Z363 E363 F363_bytes F363_at F363_end G361 fq364 ne_b1_b361 (by decide) (by decide)) (hb hby at_68) (lenOf own_pd4 rfl) (by decide) (by decide) (by rw [hml]; rfl) (Nat.le_of_eq rfl) (by decide) (by decide)
      obtain ⟨hv366, M366, K366, E366, F366_bytes, F366_at, F366_end⟩ := Q366
      rw [show (own_R (3 : Int32) (4 : Int32) f9) = ((f9 (3 : Int32)) &&& (255 : Int32)) from rfl] at hv366
      subst hv366
      rw [show (own_N (3 : Int32) (4 : Int32)) = (4 : Int32) from rfl] at F366_at
      have N366 := Fr.app N363 M366
      have fq367 := Ints.keep fq364 K366 (ninS ne_b1_b361 nin0)
      have fq368 := Exa.keep E363 K366
      have Z366 : n0 ≤ T366.heap.size := Nat.le_trans Z363 K366.1
      refine Run.back (g' := (mkF m 71 #[.val (.int p0), .val (.int p1), .val (.int p2), .val (.ref b1), .val (.int (3 : Int32)), .val (.int (1 : Int32)), .val (.ref b361), .unset, .unset, .unset, .unset, .unset, .unset, .unset] [(.int ((f9 (3 : Int32)) &&& (255 : Int32)))])) st366 ?_
      refine Run.istore (pc' := 73) X366 hx (l' := #[.val (.int p0), .val (.int p1), .val (.int p2), .val (.ref b1), .val (.int (3 : Int32)), .val (.int (1 : Int32)), .val (.ref b361), .val (.int ((f9 (3 : Int32)) &&& (255 : Int32))), .unset, .unset, .unset, .unset, .unset, .unset]) (hb hby at_71) rfl rfl ?_
      refine Run.aload (pc' := 75) X366 hx (hb hby at_73) rfl rfl ?_
      obtain ⟨T369, L369, v369, X369, Q369, st369⟩ := callVirtual X366 hx (y := (⟨"com/example/tallyhold/tallyhold/ledger/ArrayInput", "read", "()I"⟩ : MethodName)) (z := (⟨"com/example/tallyhold/tallyhold/ledger/ArrayInput", "read", "()I"⟩ : MethodName)) (C := "com/example/tallyhold/tallyhold/ledger/ArrayInput") (a := b361) (Ls := #[.val (.int p0), .val (.int p1), .val (.int p2), .val (.ref b1), .val (.int (3 : Int32)), .val (.int (1 : Int32)), .val (.ref b361), .val (.int ((f9 (3 : Int32)) &&& (255 : Int32))), .unset, .unset, .unset, .unset, .unset, .unset]) (rest := []) (W := 0) (argsL := []) hZ hown (hw _ (List.mem_of_getElem? (i := 30) rfl)) (hw _ (List.mem_of_getElem? (i := 31) rfl)) (notFace_of_selects (args := #[]) (mvT hZ (hw _ (List.mem_of_getElem? (i := 33) rfl)))) (hw _ (List.mem_of_getElem? (i := 33) rfl)) (hw _ (List.mem_of_getElem? (i := 32) rfl)) (hw _ (List.mem_of_getElem? (i := 4) rfl)) (hw _ (List.mem_of_getElem? (i := 34) rfl)) (by decide) rfl E366 (rm5 l Z a0 hw [] b361 b1 (4 : Int32) (4 : Int32) f9 T366.heap n0 Z366 E366 F366_bytes F366_at F366_end G361 fq367 ne_b1_b361 (by decide) (by decide)) (hb hby at_75) (lenOf own_pd4 rfl) (by decide) (by decide) (by rw [hml]; rfl) (Nat.le_of_eq rfl) (by decide) (by decide)
      obtain ⟨hv369, M369, K369, E369, F369_bytes, F369_at, F369_end⟩ := Q369
      rw [show (own_R (4 : Int32) (4 : Int32) f9) = (-1 : Int32) from rfl] at hv369
      subst hv369
      rw [show (own_N (4 : Int32) (4 : Int32)) = (4 : Int32) from rfl] at F369_at
      have N369 := Fr.app N366 M369
      have fq370 := Ints.keep fq367 K369 (ninS ne_b1_b361 nin0)
      have fq371 := Exa.keep E366 K369
      have Z369 : n0 ≤ T369.heap.size := Nat.le_trans Z366 K369.1
      refine Run.back (g' := (mkF m 78 #[.val (.int p0), .val (.int p1), .val (.int p2), .val (.ref b1), .val (.int (3 : Int32)), .val (.int (1 : Int32)), .val (.ref b361), .val (.int ((f9 (3 : Int32)) &&& (255 : Int32))), .unset, .unset, .unset, .unset, .unset, .unset] [(.int (-1 : Int32))])) st369 ?_
      refine Run.istore (pc' := 80) X369 hx (l' := #[.val (.int p0), .val (.int p1), .val (.int p2), .val (.ref b1), .val (.int (3 : Int32)), .val (.int (1 : Int32)), .val (.ref b361), .val (.int ((f9 (3 : Int32)) &&& (255 : Int32))), .val (.int (-1 : Int32)), .unset, .unset, .unset, .unset, .unset]) (hb hby at_78) rfl rfl ?_
      refine Run.aload (pc' := 82) X369 hx (hb hby at_80) rfl rfl ?_
      obtain ⟨T372, L372, v372, X372, Q372, st372⟩ := callVirtual X369 hx (y := (⟨"com/example/tallyhold/tallyhold/ledger/ArrayInput", "read", "()I"⟩ : MethodName)) (z := (⟨"com/example/tallyhold/tallyhold/ledger/ArrayInput", "read", "()I"⟩ : MethodName)) (C := "com/example/tallyhold/tallyhold/ledger/ArrayInput") (a := b361) (Ls := #[.val (.int p0), .val (.int p1), .val (.int p2), .val (.ref b1), .val (.int (3 : Int32)), .val (.int (1 : Int32)), .val (.ref b361), .val (.int ((f9 (3 : Int32)) &&& (255 : Int32))), .val (.int (-1 : Int32)), .unset, .unset, .unset, .unset, .unset]) (rest := []) (W := 0) (argsL := []) hZ hown (hw _ (List.mem_of_getElem? (i := 30) rfl)) (hw _ (List.mem_of_getElem? (i := 31) rfl)) (notFace_of_selects (args := #[]) (mvT hZ (hw _ (List.mem_of_getElem? (i := 33) rfl)))) (hw _ (List.mem_of_getElem? (i := 33) rfl)) (hw _ (List.mem_of_getElem? (i := 32) rfl)) (hw _ (List.mem_of_getElem? (i := 4) rfl)) (hw _ (List.mem_of_getElem? (i := 34) rfl)) (by decide) rfl E369 (rm5 l Z a0 hw [] b361 b1 (4 : Int32) (4 : Int32) f9 T369.heap n0 Z369 E369 F369_bytes F369_at F369_end G361 fq370 ne_b1_b361 (by decide) (by decide)) (hb hby at_82) (lenOf own_pd4 rfl) (by decide) (by decide) (by rw [hml]; rfl) (Nat.le_of_eq rfl) (by decide) (by decide)
      obtain ⟨hv372, M372, K372, E372, F372_bytes, F372_at, F372_end⟩ := Q372
      rw [show (own_R (4 : Int32) (4 : Int32) f9) = (-1 : Int32) from rfl] at hv372
      subst hv372
      rw [show (own_N (4 : Int32) (4 : Int32)) = (4 : Int32) from rfl] at F372_at
      have N372 := Fr.app N369 M372
      have fq373 := Ints.keep fq370 K372 (ninS ne_b1_b361 nin0)
      have fq374 := Exa.keep E369 K372
      have Z372 : n0 ≤ T372.heap.size := Nat.le_trans Z369 K372.1
      refine Run.back (g' := (mkF m 85 #[.val (.int p0), .val (.int p1), .val (.int p2), .val (.ref b1), .val (.int (3 : Int32)), .val (.int (1 : Int32)), .val (.ref b361), .val (.int ((f9 (3 : Int32)) &&& (255 : Int32))), .val (.int (-1 : Int32)), .unset, .unset, .unset, .unset, .unset] [(.int (-1 : Int32))])) st372 ?_
      refine Run.istore (pc' := 87) X372 hx (l' := #[.val (.int p0), .val (.int p1), .val (.int p2), .val (.ref b1), .val (.int (3 : Int32)), .val (.int (1 : Int32)), .val (.ref b361), .val (.int ((f9 (3 : Int32)) &&& (255 : Int32))), .val (.int (-1 : Int32)), .val (.int (-1 : Int32)), .unset, .unset, .unset, .unset]) (hb hby at_85) rfl rfl ?_
      refine Run.aload (pc' := 89) X372 hx (hb hby at_87) rfl rfl ?_
      obtain ⟨T375, L375, v375, X375, Q375, st375⟩ := callVirtual X372 hx (y := (⟨"com/example/tallyhold/tallyhold/ledger/ArrayInput", "read", "()I"⟩ : MethodName)) (z := (⟨"com/example/tallyhold/tallyhold/ledger/ArrayInput", "read", "()I"⟩ : MethodName)) (C := "com/example/tallyhold/tallyhold/ledger/ArrayInput") (a := b361) (Ls := #[.val (.int p0), .val (.int p1), .val (.int p2), .val (.ref b1), .val (.int (3 : Int32)), .val (.int (1 : Int32)), .val (.ref b361), .val (.int ((f9 (3 : Int32)) &&& (255 : Int32))), .val (.int (-1 : Int32)), .val (.int (-1 : Int32)), .unset, .unset, .unset, .unset]) (rest := []) (W := 0) (argsL := []) hZ hown (hw _ (List.mem_of_getElem? (i := 30) rfl)) (hw _ (List.mem_of_getElem? (i := 31) rfl)) (notFace_of_selects (args := #[]) (mvT hZ (hw _ (List.mem_of_getElem? (i := 33) rfl)))) (hw _ (List.mem_of_getElem? (i := 33) rfl)) (hw _ (List.mem_of_getElem? (i := 32) rfl)) (hw _ (List.mem_of_getElem? (i := 4) rfl)) (hw _ (List.mem_of_getElem? (i := 34) rfl)) (by decide) rfl E372 (rm5 l Z a0 hw [] b361 b1 (4 : Int32) (4 : Int32) f9 T372.heap n0 Z372 E372 F372_bytes F372_at F372_end G361 fq373 ne_b1_b361 (by decide) (by decide)) (hb hby at_89) (lenOf own_pd4 rfl) (by decide) (by decide) (by rw [hml]; rfl) (Nat.le_of_eq rfl) (by decide) (by decide)
      obtain ⟨hv375, M375, K375, E375, F375_bytes, F375_at, F375_end⟩ := Q375
      rw [show (own_R (4 : Int32) (4 : Int32) f9) = (-1 : Int32) from rfl] at hv375
      subst hv375
      rw [show (own_N (4 : Int32) (4 : Int32)) = (4 : Int32) from rfl] at F375_at
      have N375 := Fr.app N372 M375
      have fq376 := Ints.keep fq373 K375 (ninS ne_b1_b361 nin0)
      have fq377 := Exa.keep E372 K375
      have Z375 : n0 ≤ T375.heap.size := Nat.le_trans Z372 K375.1
      refine Run.back (g' := (mkF m 92 #[.val (.int p0), .val (.int p1), .val (.int p2), .val (.ref b1), .val (.int (3 : Int32)), .val (.int (1 : Int32)), .val (.ref b361), .val (.int ((f9 (3 : Int32)) &&& (255 : Int32))), .val (.int (-1 : Int32)), .val (.int (-1 : Int32)), .unset, .unset, .unset, .unset] [(.int (-1 : Int32))])) st375 ?_
      refine Run.istore (pc' := 94) X375 hx (l' := #[.val (.int p0), .val (.int p1), .val (.int p2), .val (.ref b1), .val (.int (3 : Int32)), .val (.int (1 : Int32)), .val (.ref b361), .val (.int ((f9 (3 : Int32)) &&& (255 : Int32))), .val (.int (-1 : Int32)), .val (.int (-1 : Int32)), .val (.int (-1 : Int32)), .unset, .unset, .unset]) (hb hby at_92) rfl rfl ?_
      refine Run.aload (pc' := 96) X375 hx (hb hby at_94) rfl rfl ?_
      obtain ⟨T378, L378, v378, X378, Q378, st378⟩ := callVirtual X375 hx (y := (⟨"com/example/tallyhold/tallyhold/ledger/ArrayInput", "read", "()I"⟩ : MethodName)) (z := (⟨"com/example/tallyhold/tallyhold/ledger/ArrayInput", "read", "()I"⟩ : MethodName)) (C := "com/example/tallyhold/tallyhold/ledger/ArrayInput") (a := b361) (Ls := #[.val (.int p0), .val (.int p1), .val (.int p2), .val (.ref b1), .val (.int (3 : Int32)), .val (.int (1 : Int32)), .val (.ref b361), .val (.int ((f9 (3 : Int32)) &&& (255 : Int32))), .val (.int (-1 : Int32)), .val (.int (-1 : Int32)), .val (.int (-1 : Int32)), .unset, .unset, .unset]) (rest := []) (W := 0) (argsL := []) hZ hown (hw _ (List.mem_of_getElem? (i := 30) rfl)) (hw _ (List.mem_of_getElem? (i := 31) rfl)) (notFace_of_selects (args := #[]) (mvT hZ (hw _ (List.mem_of_getElem? (i := 33) rfl)))) (hw _ (List.mem_of_getElem? (i := 33) rfl)) (hw _ (List.mem_of_getElem? (i := 32) rfl)) (hw _ (List.mem_of_getElem? (i := 4) rfl)) (hw _ (List.mem_of_getElem? (i := 34) rfl)) (by decide) rfl E375 (rm5 l Z a0 hw [] b361 b1 (4 : Int32) (4 : Int32) f9 T375.heap n0 Z375 E375 F375_bytes F375_at F375_end G361 fq376 ne_b1_b361 (by decide) (by decide)) (hb hby at_96) (lenOf own_pd4 rfl) (by decide) (by decide) (by rw [hml]; rfl) (Nat.le_of_eq rfl) (by decide) (by decide)
      obtain ⟨hv378, M378, K378, E378, F378_bytes, F378_at, F378_end⟩ := Q378
      rw [show (own_R (4 : Int32) (4 : Int32) f9) = (-1 : Int32) from rfl] at hv378
      subst hv378
      rw [show (own_N (4 : Int32) (4 : Int32)) = (4 : Int32) from rfl] at F378_at
      have N378 := Fr.app N375 M378
      have fq379 := Ints.keep fq376 K378 (ninS ne_b1_b361 nin0)
      have fq380 := Exa.keep E375 K378
      have Z378 : n0 ≤ T378.heap.size := Nat.le_trans Z375 K378.1
      refine Run.back (g' := (mkF m 99 #[.val (.int p0), .val (.int p1), .val (.int p2), .val (.ref b1), .val (.int (3 : Int32)), .val (.int (1 : Int32)), .val (.ref b361), .val (.int ((f9 (3 : Int32)) &&& (255 : Int32))), .val (.int (-1 : Int32)), .val (.int (-1 : Int32)), .val (.int (-1 : Int32)), .unset, .unset, .unset] [(.int (-1 : Int32))])) st378 ?_
      refine Run.istore (pc' := 101) X378 hx (l' := #[.val (.int p0), .val (.int p1), .val (.int p2), .val (.ref b1), .val (.int (3 : Int32)), .val (.int (1 : Int32)), .val (.ref b361), .val (.int ((f9 (3 : Int32)) &&& (255 : Int32))), .val (.int (-1 : Int32)), .val (.int (-1 : Int32)), .val (.int (-1 : Int32)), .val (.int (-1 : Int32)), .unset, .unset]) (hb hby at_99) rfl rfl ?_
      refine Run.aload (pc' := 103) X378 hx (hb hby at_101) rfl rfl ?_
      obtain ⟨T381, L381, v381, X381, Q381, st381⟩ := callVirtual X378 hx (y := (⟨"com/example/tallyhold/tallyhold/ledger/ArrayInput", "position", "()I"⟩ : MethodName)) (z := (⟨"com/example/tallyhold/tallyhold/ledger/ArrayInput", "position", "()I"⟩ : MethodName)) (C := "com/example/tallyhold/tallyhold/ledger/ArrayInput") (a := b361) (Ls := #[.val (.int p0), .val (.int p1), .val (.int p2), .val (.ref b1), .val (.int (3 : Int32)), .val (.int (1 : Int32)), .val (.ref b361), .val (.int ((f9 (3 : Int32)) &&& (255 : Int32))), .val (.int (-1 : Int32)), .val (.int (-1 : Int32)), .val (.int (-1 : Int32)), .val (.int (-1 : Int32)), .unset, .unset]) (rest := []) (W := 0) (argsL := []) hZ hown (hw _ (List.mem_of_getElem? (i := 35) rfl)) (hw _ (List.mem_of_getElem? (i := 36) rfl)) (notFace_of_selects (args := #[]) (mvT hZ (hw _ (List.mem_of_getElem? (i := 38) rfl)))) (hw _ (List.mem_of_getElem? (i := 38) rfl)) (hw _ (List.mem_of_getElem? (i := 37) rfl)) (hw _ (List.mem_of_getElem? (i := 4) rfl)) (hw _ (List.mem_of_getElem? (i := 39) rfl)) (by decide) rfl E378 (rm6 l Z a0 hw [] b361 (4 : Int32) T378.heap n0 Z378 F378_at) (hb hby at_103) (lenOf own_pd4 rfl) (by decide) (by decide) (by rw [hml]; rfl) (Nat.le_of_eq rfl) (by decide) (by decide)
      obtain ⟨hv381, M381, e381⟩ := Q381
      rw [show (own_F6 b361 (4 : Int32)) = (4 : Int32) from rfl] at hv381
      subst hv381
      have N381 := Fr.app N378 M381
      refine Run.back (g' := (mkF m 106 #[.val (.int p0), .val (.int p1), .val (.int p2), .val (.ref b1), .val (.int (3 : Int32)), .val (.int (1 : Int32)), .val (.ref b361), .val (.int ((f9 (3 : Int32)) &&& (255 : Int32))), .val (.int (-1 : Int32)), .val (.int (-1 : Int32)), .val (.int (-1 : Int32)), .val (.int (-1 : Int32)), .unset, .unset] [(.int (4 : Int32))])) st381 ?_
      refine Run.istore (pc' := 108) X381 hx (l' := #[.val (.int p0), .val (.int p1), .val (.int p2), .val (.ref b1), .val (.int (3 : Int32)), .val (.int (1 : Int32)), .val (.ref b361), .val (.int ((f9 (3 : Int32)) &&& (255 : Int32))), .val (.int (-1 : Int32)), .val (.int (-1 : Int32)), .val (.int (-1 : Int32)), .val (.int (-1 : Int32)), .val (.int (4 : Int32)), .unset]) (hb hby at_106) rfl rfl ?_
      refine Run.aload (pc' := 110) X381 hx (hb hby at_108) rfl rfl ?_
      obtain ⟨T382, L382, v382, X382, Q382, st382⟩ := callVirtual X381 hx (y := (⟨"com/example/tallyhold/tallyhold/ledger/ArrayInput", "available", "()I"⟩ : MethodName)) (z := (⟨"com/example/tallyhold/tallyhold/ledger/ArrayInput", "available", "()I"⟩ : MethodName)) (C := "com/example/tallyhold/tallyhold/ledger/ArrayInput") (a := b361) (Ls := #[.val (.int p0), .val (.int p1), .val (.int p2), .val (.ref b1), .val (.int (3 : Int32)), .val (.int (1 : Int32)), .val (.ref b361), .val (.int ((f9 (3 : Int32)) &&& (255 : Int32))), .val (.int (-1 : Int32)), .val (.int (-1 : Int32)), .val (.int (-1 : Int32)), .val (.int (-1 : Int32)), .val (.int (4 : Int32)), .unset]) (rest := []) (W := 0) (argsL := []) hZ hown (hw _ (List.mem_of_getElem? (i := 40) rfl)) (hw _ (List.mem_of_getElem? (i := 41) rfl)) (notFace_of_selects (args := #[]) (mvT hZ (hw _ (List.mem_of_getElem? (i := 43) rfl)))) (hw _ (List.mem_of_getElem? (i := 43) rfl)) (hw _ (List.mem_of_getElem? (i := 42) rfl)) (hw _ (List.mem_of_getElem? (i := 4) rfl)) (hw _ (List.mem_of_getElem? (i := 44) rfl)) (by decide) e381 E378 (rm7 l Z a0 hw [] b361 (4 : Int32) (4 : Int32) T378.heap n0 Z378 F378_at F378_end) (hb hby at_110) (lenOf own_pd4 rfl) (by decide) (by decide) (by rw [hml]; rfl) (Nat.le_of_eq rfl) (by decide) (by decide)
      obtain ⟨hv382, M382, e382⟩ := Q382
      rw [show (own_F7 b361 (4 : Int32) (4 : Int32)) = (0 : Int32) from rfl] at hv382
      subst hv382
      have N382 := Fr.app N381 M382
      refine Run.back (g' := (mkF m 113 #[.val (.int p0), .val (.int p1), .val (.int p2), .val (.ref b1), .val (.int (3 : Int32)), .val (.int (1 : Int32)), .val (.ref b361), .val (.int ((f9 (3 : Int32)) &&& (255 : Int32))), .val (.int (-1 : Int32)), .val (.int (-1 : Int32)), .val (.int (-1 : Int32)), .val (.int (-1 : Int32)), .val (.int (4 : Int32)), .unset] [(.int (0 : Int32))])) st382 ?_
      refine Run.istore (pc' := 115) X382 hx (l' := #[.val (.int p0), .val (.int p1), .val (.int p2), .val (.ref b1), .val (.int (3 : Int32)), .val (.int (1 : Int32)), .val (.ref b361), .val (.int ((f9 (3 : Int32)) &&& (255 : Int32))), .val (.int (-1 : Int32)), .val (.int (-1 : Int32)), .val (.int (-1 : Int32)), .val (.int (-1 : Int32)), .val (.int (4 : Int32)), .val (.int (0 : Int32))]) (hb hby at_113) rfl rfl ?_
      refine Run.iload (pc' := 117) X382 hx (hb hby at_115) rfl rfl ?_
      refine Run.iloadN (pc' := 118) X382 hx (hb hby at_117) rfl rfl ?_
      refine Run.iload (pc' := 120) X382 hx (hb hby at_118) rfl rfl ?_
      refine Run.iload (pc' := 122) X382 hx (hb hby at_120) rfl rfl ?_
      refine Run.iconst (pc' := 123) (v := (0 : Int32)) X382 hx (hb hby at_122) rfl rfl ?_
      obtain ⟨T383, L383, v383, X383, Q383, st383⟩ := callStatic X382 hx (y := (⟨"com/example/tallyhold/tallyhold/ledger/ArrayInputReadPinLaw", "expected", "(IIII)I"⟩ : MethodName)) (Ls := #[.val (.int p0), .val (.int p1), .val (.int p2), .val (.ref b1), .val (.int (3 : Int32)), .val (.int (1 : Int32)), .val (.ref b361), .val (.int ((f9 (3 : Int32)) &&& (255 : Int32))), .val (.int (-1 : Int32)), .val (.int (-1 : Int32)), .val (.int (-1 : Int32)), .val (.int (-1 : Int32)), .val (.int (4 : Int32)), .val (.int (0 : Int32))]) (rest := [(.int ((f9 (3 : Int32)) &&& (255 : Int32)))]) (W := 1) (argsL := [(.int p0), (.int (3 : Int32)), (.int (1 : Int32)), (.int (0 : Int32))]) hZ hown (hw _ (List.mem_of_getElem? (i := 45) rfl)) (hw _ (List.mem_of_getElem? (i := 46) rfl)) (hw _ (List.mem_of_getElem? (i := 47) rfl)) (hw _ (List.mem_of_getElem? (i := 48) rfl)) (by decide) e382 (rm8 l Z a0 hw [] p0 (3 : Int32) (1 : Int32) (0 : Int32)  T378.heap n0 Z378 ) (hb hby at_123) (lenOf own_pd5 rfl) (by decide) (by decide) (by rw [hml]; rfl) (Nat.le_of_eq rfl) (by decide) (by decide)
      obtain ⟨hv383, M383, e383⟩ := Q383
      rw [show (own_F8 p0 (3 : Int32) (1 : Int32) (0 : Int32)) = (((p0.toUInt32 >>> ((24 : Int32) &&& 31).toUInt32).toInt32) &&& (255 : Int32)) from rfl] at hv383
      subst hv383
      have N383 := Fr.app N382 M383
      refine Run.back (g' := (mkF m 126 #[.val (.int p0), .val (.int p1), .val (.int p2), .val (.ref b1), .val (.int (3 : Int32)), .val (.int (1 : Int32)), .val (.ref b361), .val (.int ((f9 (3 : Int32)) &&& (255 : Int32))), .val (.int (-1 : Int32)), .val (.int (-1 : Int32)), .val (.int (-1 : Int32)), .val (.int (-1 : Int32)), .val (.int (4 : Int32)), .val (.int (0 : Int32))] [(.int (((p0.toUInt32 >>> ((24 : Int32) &&& 31).toUInt32).toInt32) &&& (255 : Int32))), (.int ((f9 (3 : Int32)) &&& (255 : Int32)))])) st383 ?_
      refine Run.icmpNo (pc' := 129) X383 hx (hb hby at_126) (teq (own_b3 g3)).2 rfl ?_
      refine Run.iload (pc' := 131) X383 hx (hb hby at_129) rfl rfl ?_
      refine Run.iloadN (pc' := 132) X383 hx (hb hby at_131) rfl rfl ?_
      refine Run.iload (pc' := 134) X383 hx (hb hby at_132) rfl rfl ?_
      refine Run.iload (pc' := 136) X383 hx (hb hby at_134) rfl rfl ?_
      refine Run.iconst (pc' := 137) (v := (1 : Int32)) X383 hx (hb hby at_136) rfl rfl ?_
      obtain ⟨T384, L384, v384, X384, Q384, st384⟩ := callStatic X383 hx (y := (⟨"com/example/tallyhold/tallyhold/ledger/ArrayInputReadPinLaw", "expected", "(IIII)I"⟩ : MethodName)) (Ls := #[.val (.int p0), .val (.int p1), .val (.int p2), .val (.ref b1), .val (.int (3 : Int32)), .val (.int (1 : Int32)), .val (.ref b361), .val (.int ((f9 (3 : Int32)) &&& (255 : Int32))), .val (.int (-1 : Int32)), .val (.int (-1 : Int32)), .val (.int (-1 : Int32)), .val (.int (-1 : Int32)), .val (.int (4 : Int32)), .val (.int (0 : Int32))]) (rest := [(.int (-1 : Int32))]) (W := 1) (argsL := [(.int p0), (.int (3 : Int32)), (.int (1 : Int32)), (.int (1 : Int32))]) hZ hown (hw _ (List.mem_of_getElem? (i := 45) rfl)) (hw _ (List.mem_of_getElem? (i := 46) rfl)) (hw _ (List.mem_of_getElem? (i := 47) rfl)) (hw _ (List.mem_of_getElem? (i := 48) rfl)) (by decide) e383 (rm8 l Z a0 hw [] p0 (3 : Int32) (1 : Int32) (1 : Int32)  T378.heap n0 Z378 ) (hb hby at_137) (lenOf own_pd5 rfl) (by decide) (by decide) (by rw [hml]; rfl) (Nat.le_of_eq rfl) (by decide) (by decide)
      obtain ⟨hv384, M384, e384⟩ := Q384
      rw [show (own_F8 p0 (3 : Int32) (1 : Int32) (1 : Int32)) = (-1 : Int32) from rfl] at hv384
      subst hv384
      have N384 := Fr.app N383 M384
      refine Run.back (g' := (mkF m 140 #[.val (.int p0), .val (.int p1), .val (.int p2), .val (.ref b1), .val (.int (3 : Int32)), .val (.int (1 : Int32)), .val (.ref b361), .val (.int ((f9 (3 : Int32)) &&& (255 : Int32))), .val (.int (-1 : Int32)), .val (.int (-1 : Int32)), .val (.int (-1 : Int32)), .val (.int (-1 : Int32)), .val (.int (4 : Int32)), .val (.int (0 : Int32))] [(.int (-1 : Int32)), (.int (-1 : Int32))])) st384 ?_
      refine Run.icmpNo (pc' := 143) X384 hx (hb hby at_140) (teq rfl).2 rfl ?_
      refine Run.iload (pc' := 145) X384 hx (hb hby at_143) rfl rfl ?_
      refine Run.iloadN (pc' := 146) X384 hx (hb hby at_145) rfl rfl ?_
      refine Run.iload (pc' := 148) X384 hx (hb hby at_146) rfl rfl ?_
      refine Run.iload (pc' := 150) X384 hx (hb hby at_148) rfl rfl ?_
      refine Run.iconst (pc' := 151) (v := (2 : Int32)) X384 hx (hb hby at_150) rfl rfl ?_
      obtain ⟨T385, L385, v385, X385, Q385, st385⟩ := callStatic X384 hx (y := (⟨"com/example/tallyhold/tallyhold/ledger/ArrayInputReadPinLaw", "expected", "(IIII)I"⟩ : MethodName)) (Ls := #[.val (.int p0), .val (.int p1), .val (.int p2), .val (.ref b1), .val (.int (3 : Int32)), .val (.int (1 : Int32)), .val (.ref b361), .val (.int ((f9 (3 : Int32)) &&& (255 : Int32))), .val (.int (-1 : Int32)), .val (.int (-1 : Int32)), .val (.int (-1 : Int32)), .val (.int (-1 : Int32)), .val (.int (4 : Int32)), .val (.int (0 : Int32))]) (rest := [(.int (-1 : Int32))]) (W := 1) (argsL := [(.int p0), (.int (3 : Int32)), (.int (1 : Int32)), (.int (2 : Int32))]) hZ hown (hw _ (List.mem_of_getElem? (i := 45) rfl)) (hw _ (List.mem_of_getElem? (i := 46) rfl)) (hw _ (List.mem_of_getElem? (i := 47) rfl)) (hw _ (List.mem_of_getElem? (i := 48) rfl)) (by decide) e384 (rm8 l Z a0 hw [] p0 (3 : Int32) (1 : Int32) (2 : Int32)  T378.heap n0 Z378 ) (hb hby at_151) (lenOf own_pd5 rfl) (by decide) (by decide) (by rw [hml]; rfl) (Nat.le_of_eq rfl) (by decide) (by decide)
      obtain ⟨hv385, M385, e385⟩ := Q385
      rw [show (own_F8 p0 (3 : Int32) (1 : Int32) (2 : Int32)) = (-1 : Int32) from rfl] at hv385
      subst hv385
      have N385 := Fr.app N384 M385
      refine Run.back (g' := (mkF m 154 #[.val (.int p0), .val (.int p1), .val (.int p2), .val (.ref b1), .val (.int (3 : Int32)), .val (.int (1 : Int32)), .val (.ref b361), .val (.int ((f9 (3 : Int32)) &&& (255 : Int32))), .val (.int (-1 : Int32)), .val (.int (-1 : Int32)), .val (.int (-1 : Int32)), .val (.int (-1 : Int32)), .val (.int (4 : Int32)), .val (.int (0 : Int32))] [(.int (-1 : Int32)), (.int (-1 : Int32))])) st385 ?_
      refine Run.icmpNo (pc' := 157) X385 hx (hb hby at_154) (teq rfl).2 rfl ?_
      refine Run.iload (pc' := 159) X385 hx (hb hby at_157) rfl rfl ?_
      refine Run.iloadN (pc' := 160) X385 hx (hb hby at_159) rfl rfl ?_
      refine Run.iload (pc' := 162) X385 hx (hb hby at_160) rfl rfl ?_
      refine Run.iload (pc' := 164) X385 hx (hb hby at_162) rfl rfl ?_
      refine Run.iconst (pc' := 165) (v := (3 : Int32)) X385 hx (hb hby at_164) rfl rfl ?_
      obtain ⟨T386, L386, v386, X386, Q386, st386⟩ := callStatic X385 hx (y := (⟨"com/example/tallyhold/tallyhold/ledger/ArrayInputReadPinLaw", "expected", "(IIII)I"⟩ : MethodName)) (Ls := #[.val (.int p0), .val (.int p1), .val (.int p2), .val (.ref b1), .val (.int (3 : Int32)), .val (.int (1 : Int32)), .val (.ref b361), .val (.int ((f9 (3 : Int32)) &&& (255 : Int32))), .val (.int (-1 : Int32)), .val (.int (-1 : Int32)), .val (.int (-1 : Int32)), .val (.int (-1 : Int32)), .val (.int (4 : Int32)), .val (.int (0 : Int32))]) (rest := [(.int (-1 : Int32))]) (W := 1) (argsL := [(.int p0), (.int (3 : Int32)), (.int (1 : Int32)), (.int (3 : Int32))]) hZ hown (hw _ (List.mem_of_getElem? (i := 45) rfl)) (hw _ (List.mem_of_getElem? (i := 46) rfl)) (hw _ (List.mem_of_getElem? (i := 47) rfl)) (hw _ (List.mem_of_getElem? (i := 48) rfl)) (by decide) e385 (rm8 l Z a0 hw [] p0 (3 : Int32) (1 : Int32) (3 : Int32)  T378.heap n0 Z378 ) (hb hby at_165) (lenOf own_pd5 rfl) (by decide) (by decide) (by rw [hml]; rfl) (Nat.le_of_eq rfl) (by decide) (by decide)
      obtain ⟨hv386, M386, e386⟩ := Q386
      rw [show (own_F8 p0 (3 : Int32) (1 : Int32) (3 : Int32)) = (-1 : Int32) from rfl] at hv386
      subst hv386
      have N386 := Fr.app N385 M386
      refine Run.back (g' := (mkF m 168 #[.val (.int p0), .val (.int p1), .val (.int p2), .val (.ref b1), .val (.int (3 : Int32)), .val (.int (1 : Int32)), .val (.ref b361), .val (.int ((f9 (3 : Int32)) &&& (255 : Int32))), .val (.int (-1 : Int32)), .val (.int (-1 : Int32)), .val (.int (-1 : Int32)), .val (.int (-1 : Int32)), .val (.int (4 : Int32)), .val (.int (0 : Int32))] [(.int (-1 : Int32)), (.int (-1 : Int32))])) st386 ?_
      refine Run.icmpNo (pc' := 171) X386 hx (hb hby at_168) (teq rfl).2 rfl ?_
      refine Run.iload (pc' := 173) X386 hx (hb hby at_171) rfl rfl ?_
      refine Run.iloadN (pc' := 174) X386 hx (hb hby at_173) rfl rfl ?_
      refine Run.iload (pc' := 176) X386 hx (hb hby at_174) rfl rfl ?_
      refine Run.iload (pc' := 178) X386 hx (hb hby at_176) rfl rfl ?_
      refine Run.iconst (pc' := 179) (v := (4 : Int32)) X386 hx (hb hby at_178) rfl rfl ?_
      obtain ⟨T387, L387, v387, X387, Q387, st387⟩ := callStatic X386 hx (y := (⟨"com/example/tallyhold/tallyhold/ledger/ArrayInputReadPinLaw", "expected", "(IIII)I"⟩ : MethodName)) (Ls := #[.val (.int p0), .val (.int p1), .val (.int p2), .val (.ref b1), .val (.int (3 : Int32)), .val (.int (1 : Int32)), .val (.ref b361), .val (.int ((f9 (3 : Int32)) &&& (255 : Int32))), .val (.int (-1 : Int32)), .val (.int (-1 : Int32)), .val (.int (-1 : Int32)), .val (.int (-1 : Int32)), .val (.int (4 : Int32)), .val (.int (0 : Int32))]) (rest := [(.int (-1 : Int32))]) (W := 1) (argsL := [(.int p0), (.int (3 : Int32)), (.int (1 : Int32)), (.int (4 : Int32))]) hZ hown (hw _ (List.mem_of_getElem? (i := 45) rfl)) (hw _ (List.mem_of_getElem? (i := 46) rfl)) (hw _ (List.mem_of_getElem? (i := 47) rfl)) (hw _ (List.mem_of_getElem? (i := 48) rfl)) (by decide) e386 (rm8 l Z a0 hw [] p0 (3 : Int32) (1 : Int32) (4 : Int32)  T378.heap n0 Z378 ) (hb hby at_179) (lenOf own_pd5 rfl) (by decide) (by decide) (by rw [hml]; rfl) (Nat.le_of_eq rfl) (by decide) (by decide)
      obtain ⟨hv387, M387, e387⟩ := Q387
      rw [show (own_F8 p0 (3 : Int32) (1 : Int32) (4 : Int32)) = (-1 : Int32) from rfl] at hv387
      subst hv387
      have N387 := Fr.app N386 M387
      refine Run.back (g' := (mkF m 182 #[.val (.int p0), .val (.int p1), .val (.int p2), .val (.ref b1), .val (.int (3 : Int32)), .val (.int (1 : Int32)), .val (.ref b361), .val (.int ((f9 (3 : Int32)) &&& (255 : Int32))), .val (.int (-1 : Int32)), .val (.int (-1 : Int32)), .val (.int (-1 : Int32)), .val (.int (-1 : Int32)), .val (.int (4 : Int32)), .val (.int (0 : Int32))] [(.int (-1 : Int32)), (.int (-1 : Int32))])) st387 ?_
      refine Run.icmpNo (pc' := 185) X387 hx (hb hby at_182) (teq rfl).2 rfl ?_
      refine Run.iload (pc' := 187) X387 hx (hb hby at_185) rfl rfl ?_
      refine Run.iload (pc' := 189) X387 hx (hb hby at_187) rfl rfl ?_
      refine Run.iload (pc' := 191) X387 hx (hb hby at_189) rfl rfl ?_
      refine Run.iadd (pc' := 192) X387 hx (hb hby at_191) rfl ?_
      refine Run.icmpNo (pc' := 195) X387 hx (hb hby at_192) (teq (by decide : (4 : Int32) = ((3 : Int32) + (1 : Int32)))).2 rfl ?_
      refine Run.iload (pc' := 197) X387 hx (hb hby at_195) rfl rfl ?_
      refine Run.ifNo (pc' := 200) X387 hx (hb hby at_197) ((if0 _ _).trans (teq (by decide : (0 : Int32) = (0 : Int32))).2) rfl ?_
      refine Run.iconst (pc' := 201) (v := (1 : Int32)) X387 hx (hb hby at_200) rfl rfl ?_
      refine Run.goto (pc' := 205) X387 hx (hb hby at_201) (by decide) (by decide) ?_
      exact Run.retSmall X387 hx (t := .boolean) (z' := (1 : Int32)) Bd.notSynchronized Bd.returns (by simp) rfl (hb hby at_205) ⟨rfl, N387⟩ (by decide) (by decide)
  · rw [ho]
    refine Run.iloadN (pc' := 42) X8 hx (hb hby at_41) rfl rfl ?_
    refine Run.ldcInt (pc' := 44) (v := (2147483647 : Int32)) X8 hx hown (mvT hZ (hw _ (List.mem_of_getElem? (i := 1) rfl))) (hb hby at_42) rfl ?_
    refine Run.iand (pc' := 45) X8 hx (hb hby at_44) rfl ?_
    refine Run.iconst (pc' := 46) (v := (5 : Int32)) X8 hx (hb hby at_45) rfl rfl ?_
    refine Run.iload (pc' := 48) X8 hx (hb hby at_46) rfl rfl ?_
    refine Run.isub (pc' := 49) X8 hx (hb hby at_48) rfl ?_
    refine Run.irem (pc' := 50) X8 hx (hb hby at_49) (by decide) rfl ?_
    refine Run.istore (pc' := 52) X8 hx (l' := #[.val (.int p0), .val (.int p1), .val (.int p2), .val (.ref b1), .val (.int (4 : Int32)), .val (.int ((p2 &&& (2147483647 : Int32)) % ((5 : Int32) - (4 : Int32)))), .unset, .unset, .unset, .unset, .unset, .unset, .unset, .unset]) (hb hby at_50) rfl rfl ?_
    obtain hl := own_l4 p2
    · rw [hl]
      obtain ⟨T388, h388, X388, e388, E388, A388, D388, -, st388⟩ := newO X8 hx hZ hown (hw _ (List.mem_of_getElem? (i := 2) rfl)) (hw _ (List.mem_of_getElem? (i := 3) rfl)) (hw _ (List.mem_of_getElem? (i := 4) rfl)) e8 (g := (mkF m 52 #[.val (.int p0), .val (.int p1), .val (.int p2), .val (.ref b1), .val (.int (4 : Int32)), .val (.int (0 : Int32)), .unset, .unset, .unset, .unset, .unset, .unset, .unset, .unset] [])) rfl (hb hby at_52) (by decide) (by decide)
      obtain ⟨b388, g388⟩ : ∃ z, z = h8.size := ⟨_, rfl⟩
      rw [← g388] at A388 D388 st388
      have ne_b1_b388 : b1 ≠ b388 := Nat.ne_of_lt (Nat.lt_of_lt_of_le (A8).lt (Nat.le_of_eq g388.symm))
      have G388 : n0 ≤ b388 := Nat.le_trans Z8 (Nat.le_of_eq g388.symm)
      have Z388 : n0 ≤ h388.size := Nat.le_trans Z8 E388.1
      have fq389 := Ints.ext E388 A8
      have F388_bytes : Fld Z h388 b388 "com/example/tallyhold/tallyhold/ledger/ArrayInput" "bytes" "[B" .null := D388 (Or.inr (hw _ (List.mem_of_getElem? (i := 25) rfl))) (ty := (.array .byte)) (by decide)
      have F388_at : Fld Z h388 b388 "com/example/tallyhold/tallyhold/ledger/ArrayInput" "at" "I" (.int (0 : Int32)) := D388 (Or.inl (hw _ (List.mem_of_getElem? (i := 27) rfl))) (ty := .int) (by decide)
      have F388_end : Fld Z h388 b388 "com/example/tallyhold/tallyhold/ledger/ArrayInput" "end" "I" (.int (0 : Int32)) := D388 (Or.inr (hw _ (List.mem_of_getElem? (i := 29) rfl))) (ty := .int) (by decide)
      refine Run.back (g' := (mkF m 55 #[.val (.int p0), .val (.int p1), .val (.int p2), .val (.ref b1), .val (.int (4 : Int32)), .val (.int (0 : Int32)), .unset, .unset, .unset, .unset, .unset, .unset, .unset, .unset] [(.ref b388)])) st388 ?_
      refine Run.dup (pc' := 56) X388 hx (hb hby at_55) rfl rfl ?_
      refine Run.aloadN (pc' := 57) X388 hx (hb hby at_56) rfl rfl ?_
      refine Run.iload (pc' := 59) X388 hx (hb hby at_57) rfl rfl ?_
      refine Run.iload (pc' := 61) X388 hx (hb hby at_59) rfl rfl ?_
      obtain ⟨T390, L390, v390, X390, Q390, st390⟩ := callSpecial X388 hx (y := (⟨"com/example/tallyhold/tallyhold/ledger/ArrayInput", "<init>", "([BII)V"⟩ : MethodName)) (a := b388) (Ls := #[.val (.int p0), .val (.int p1), .val (.int p2), .val (.ref b1), .val (.int (4 : Int32)), .val (.int (0 : Int32)), .unset, .unset, .unset, .unset, .unset, .unset, .unset, .unset]) (rest := [(.ref b388)]) (W := 1) (argsL := [(.ref b1), (.int (4 : Int32)), (.int (0 : Int32))]) rfl hZ hown (hw _ (List.mem_of_getElem? (i := 5) rfl)) (hw _ (List.mem_of_getElem? (i := 6) rfl)) (hw _ (List.mem_of_getElem? (i := 4) rfl)) (hw _ (List.mem_of_getElem? (i := 7) rfl)) (by decide) e388 (rm4 l Z a0 hw [] b388 b1 (4 : Int32) (0 : Int32) f9 h388 n0 Z388 A388 F388_bytes F388_at F388_end G388 fq389 ne_b1_b388 (by decide) (by decide)) (hb hby at_61) (lenOf own_pd3 rfl) (by decide) (by decide) (by rw [hml]; rfl) (Nat.le_of_eq rfl) (by decide) (by decide)
      obtain ⟨rfl, M390, K390, E390, F390_bytes, F390_at, F390_end⟩ := Q390
      rw [show ((4 : Int32) + (0 : Int32)) = (4 : Int32) from rfl] at F390_end
      have N390 := Fr.app N8 M390
      have fq391 := Ints.keep fq389 K390 (ninS ne_b1_b388 nin0)
      have fq392 := Exa.keep A388 K390
      have Z390 : n0 ≤ T390.heap.size := Nat.le_trans Z388 K390.1
      refine Run.back (g' := (mkF m 64 #[.val (.int p0), .val (.int p1), .val (.int p2), .val (.ref b1), .val (.int (4 : Int32)), .val (.int (0 : Int32)), .unset, .unset, .unset, .unset, .unset, .unset, .unset, .unset] [(.ref b388)])) st390 ?_
      refine Run.astore (pc' := 66) X390 hx (l' := #[.val (.int p0), .val (.int p1), .val (.int p2), .val (.ref b1), .val (.int (4 : Int32)), .val (.int (0 : Int32)), .val (.ref b388), .unset, .unset, .unset, .unset, .unset, .unset, .unset]) (hb hby at_64) rfl rfl ?_
      refine Run.aload (pc' := 68) X390 hx (hb hby at_66) rfl rfl ?_
      obtain ⟨T393, L393, v393, X393, Q393, st393⟩ := callVirtual X390 hx (y := (⟨"com/example/tallyhold/tallyhold/ledger/ArrayInput", "read", "()I"⟩ : MethodName)) (z := (⟨"com/example/tallyhold/tallyhold/ledger/ArrayInput", "read", "()I"⟩ : MethodName)) (C := "com/example/tallyhold/tallyhold/ledger/ArrayInput") (a := b388) (Ls := #[.val (.int p0), .val (.int p1), .val (.int p2), .val (.ref b1), .val (.int (4 : Int32)), .val (.int (0 : Int32)), .val (.ref b388), .unset, .unset, .unset, .unset, .unset, .unset, .unset]) (rest := []) (W := 0) (argsL := []) hZ hown (hw _ (List.mem_of_getElem? (i := 30) rfl)) (hw _ (List.mem_of_getElem? (i := 31) rfl)) (notFace_of_selects (args := #[]) (mvT hZ (hw _ (List.mem_of_getElem? (i := 33) rfl)))) (hw _ (List.mem_of_getElem? (i := 33) rfl)) (hw _ (List.mem_of_getElem? (i := 32) rfl)) (hw _ (List.mem_of_getElem? (i := 4) rfl)) (hw _ (List.mem_of_getElem? (i := 34) rfl)) (by decide) rfl E390 (rm5 l Z a0 hw [] b388 b1 (4 : Int32) (4 : Int32) f9 T390.heap n0 Z390 E390 F390_bytes F390_at F390_end G388 fq391 ne_b1_b388 (by decide) (by decide)) (hb hby at_68) (lenOf own_pd4 rfl) (by decide) (by decide) (by rw [hml]; rfl) (Nat.le_of_eq rfl) (by decide) (by decide)
      obtain ⟨hv393, M393, K393, E393, F393_bytes, F393_at, F393_end⟩ := Q393
      rw [show (own_R (4 : Int32) (4 : Int32) f9) = (-1 : Int32) from rfl] at hv393
      subst hv393
      rw [show (own_N (4 : Int32) (4 : Int32)) = (4 : Int32) from rfl] at F393_at
      have N393 := Fr.app N390 M393
      have fq394 := Ints.keep fq391 K393 (ninS ne_b1_b388 nin0)
      have fq395 := Exa.keep E390 K393
      have Z393 : n0 ≤ T393.heap.size := Nat.le_trans Z390 K393.1
      refine Run.back (g' := (mkF m 71 #[.val (.int p0), .val (.int p1), .val (.int p2), .val (.ref b1), .val (.int (4 : Int32)), .val (.int (0 : Int32)), .val (.ref b388), .unset, .unset, .unset, .unset, .unset, .unset, .unset] [(.int (-1 : Int32))])) st393 ?_
      refine Run.istore (pc' := 73) X393 hx (l' := #[.val (.int p0), .val (.int p1), .val (.int p2), .val (.ref b1), .val (.int (4 : Int32)), .val (.int (0 : Int32)), .val (.ref b388), .val (.int (-1 : Int32)), .unset, .unset, .unset, .unset, .unset, .unset]) (hb hby at_71) rfl rfl ?_
      refine Run.aload (pc' := 75) X393 hx (hb hby at_73) rfl rfl ?_
      obtain ⟨T396, L396, v396, X396, Q396, st396⟩ := callVirtual X393 hx (y := (⟨"com/example/tallyhold/tallyhold/ledger/ArrayInput", "read", "()I"⟩ : MethodName)) (z := (⟨"com/example/tallyhold/tallyhold/ledger/ArrayInput", "read", "()I"⟩ : MethodName)) (C := "com/example/tallyhold/tallyhold/ledger/ArrayInput") (a := b388) (Ls := #[.val (.int p0), .val (.int p1), .val (.int p2), .val (.ref b1), .val (.int (4 : Int32)), .val (.int (0 : Int32)), .val (.ref b388), .val (.int (-1 : Int32)), .unset, .unset, .unset, .unset, .unset, .unset]) (rest := []) (W := 0) (argsL := []) hZ hown (hw _ (List.mem_of_getElem? (i := 30) rfl)) (hw _ (List.mem_of_getElem? (i := 31) rfl)) (notFace_of_selects (args := #[]) (mvT hZ (hw _ (List.mem_of_getElem? (i := 33) rfl)))) (hw _ (List.mem_of_getElem? (i := 33) rfl)) (hw _ (List.mem_of_getElem? (i := 32) rfl)) (hw _ (List.mem_of_getElem? (i := 4) rfl)) (hw _ (List.mem_of_getElem? (i := 34) rfl)) (by decide) rfl E393 (rm5 l Z a0 hw [] b388 b1 (4 : Int32) (4 : Int32) f9 T393.heap n0 Z393 E393 F393_bytes F393_at F393_end G388 fq394 ne_b1_b388 (by decide) (by decide)) (hb hby at_75) (lenOf own_pd4 rfl) (by decide) (by decide) (by rw [hml]; rfl) (Nat.le_of_eq rfl) (by decide) (by decide)
      obtain ⟨hv396, M396, K396, E396, F396_bytes, F396_at, F396_end⟩ := Q396
      rw [show (own_R (4 : Int32) (4 : Int32) f9) = (-1 : Int32) from rfl] at hv396
      subst hv396
      rw [show (own_N (4 : Int32) (4 : Int32)) = (4 : Int32) from rfl] at F396_at
      have N396 := Fr.app N393 M396
      have fq397 := Ints.keep fq394 K396 (ninS ne_b1_b388 nin0)
      have fq398 := Exa.keep E393 K396
      have Z396 : n0 ≤ T396.heap.size := Nat.le_trans Z393 K396.1
      refine Run.back (g' := (mkF m 78 #[.val (.int p0), .val (.int p1), .val (.int p2), .val (.ref b1), .val (.int (4 : Int32)), .val (.int (0 : Int32)), .val (.ref b388), .val (.int (-1 : Int32)), .unset, .unset, .unset, .unset, .unset, .unset] [(.int (-1 : Int32))])) st396 ?_
      refine Run.istore (pc' := 80) X396 hx (l' := #[.val (.int p0), .val (.int p1), .val (.int p2), .val (.ref b1), .val (.int (4 : Int32)), .val (.int (0 : Int32)), .val (.ref b388), .val (.int (-1 : Int32)), .val (.int (-1 : Int32)), .unset, .unset, .unset, .unset, .unset]) (hb hby at_78) rfl rfl ?_
      refine Run.aload (pc' := 82) X396 hx (hb hby at_80) rfl rfl ?_
      obtain ⟨T399, L399, v399, X399, Q399, st399⟩ := callVirtual X396 hx (y := (⟨"com/example/tallyhold/tallyhold/ledger/ArrayInput", "read", "()I"⟩ : MethodName)) (z := (⟨"com/example/tallyhold/tallyhold/ledger/ArrayInput", "read", "()I"⟩ : MethodName)) (C := "com/example/tallyhold/tallyhold/ledger/ArrayInput") (a := b388) (Ls := #[.val (.int p0), .val (.int p1), .val (.int p2), .val (.ref b1), .val (.int (4 : Int32)), .val (.int (0 : Int32)), .val (.ref b388), .val (.int (-1 : Int32)), .val (.int (-1 : Int32)), .unset, .unset, .unset, .unset, .unset]) (rest := []) (W := 0) (argsL := []) hZ hown (hw _ (List.mem_of_getElem? (i := 30) rfl)) (hw _ (List.mem_of_getElem? (i := 31) rfl)) (notFace_of_selects (args := #[]) (mvT hZ (hw _ (List.mem_of_getElem? (i := 33) rfl)))) (hw _ (List.mem_of_getElem? (i := 33) rfl)) (hw _ (List.mem_of_getElem? (i := 32) rfl)) (hw _ (List.mem_of_getElem? (i := 4) rfl)) (hw _ (List.mem_of_getElem? (i := 34) rfl)) (by decide) rfl E396 (rm5 l Z a0 hw [] b388 b1 (4 : Int32) (4 : Int32) f9 T396.heap n0 Z396 E396 F396_bytes F396_at F396_end G388 fq397 ne_b1_b388 (by decide) (by decide)) (hb hby at_82) (lenOf own_pd4 rfl) (by decide) (by decide) (by rw [hml]; rfl) (Nat.le_of_eq rfl) (by decide) (by decide)
      obtain ⟨hv399, M399, K399, E399, F399_bytes, F399_at, F399_end⟩ := Q399
      rw [show (own_R (4 : Int32) (4 : Int32) f9) = (-1 : Int32) from rfl] at hv399
      subst hv399
      rw [show (own_N (4 : Int32) (4 : Int32)) = (4 : Int32) from rfl] at F399_at
      have N399 := Fr.app N396 M399
      have fq400 := Ints.keep fq397 K399 (ninS ne_b1_b388 nin0)
      have fq401 := Exa.keep E396 K399
      have Z399 : n0 ≤ T399.heap.size := Nat.le_trans Z396 K399.1
      refine Run.back (g' := (mkF m 85 #[.val (.int p0), .val (.int p1), .val (.int p2), .val (.ref b1), .val (.int (4 : Int32)), .val (.int (0 : Int32)), .val (.ref b388), .val (.int (-1 : Int32)), .val (.int (-1 : Int32)), .unset, .unset, .unset, .unset, .unset] [(.int (-1 : Int32))])) st399 ?_
      refine Run.istore (pc' := 87) X399 hx (l' := #[.val (.int p0), .val (.int p1), .val (.int p2), .val (.ref b1), .val (.int (4 : Int32)), .val (.int (0 : Int32)), .val (.ref b388), .val (.int (-1 : Int32)), .val (.int (-1 : Int32)), .val (.int (-1 : Int32)), .unset, .unset, .unset, .unset]) (hb hby at_85) rfl rfl ?_
      refine Run.aload (pc' := 89) X399 hx (hb hby at_87) rfl rfl ?_
      obtain ⟨T402, L402, v402, X402, Q402, st402⟩ := callVirtual X399 hx (y := (⟨"com/example/tallyhold/tallyhold/ledger/ArrayInput", "read", "()I"⟩ : MethodName)) (z := (⟨"com/example/tallyhold/tallyhold/ledger/ArrayInput", "read", "()I"⟩ : MethodName)) (C := "com/example/tallyhold/tallyhold/ledger/ArrayInput") (a := b388) (Ls := #[.val (.int p0), .val (.int p1), .val (.int p2), .val (.ref b1), .val (.int (4 : Int32)), .val (.int (0 : Int32)), .val (.ref b388), .val (.int (-1 : Int32)), .val (.int (-1 : Int32)), .val (.int (-1 : Int32)), .unset, .unset, .unset, .unset]) (rest := []) (W := 0) (argsL := []) hZ hown (hw _ (List.mem_of_getElem? (i := 30) rfl)) (hw _ (List.mem_of_getElem? (i := 31) rfl)) (notFace_of_selects (args := #[]) (mvT hZ (hw _ (List.mem_of_getElem? (i := 33) rfl)))) (hw _ (List.mem_of_getElem? (i := 33) rfl)) (hw _ (List.mem_of_getElem? (i := 32) rfl)) (hw _ (List.mem_of_getElem? (i := 4) rfl)) (hw _ (List.mem_of_getElem? (i := 34) rfl)) (by decide) rfl E399 (rm5 l Z a0 hw [] b388 b1 (4 : Int32) (4 : Int32) f9 T399.heap n0 Z399 E399 F399_bytes F399_at F399_end G388 fq400 ne_b1_b388 (by decide) (by decide)) (hb hby at_89) (lenOf own_pd4 rfl) (by decide) (by decide) (by rw [hml]; rfl) (Nat.le_of_eq rfl) (by decide) (by decide)
      obtain ⟨hv402, M402, K402, E402, F402_bytes, F402_at, F402_end⟩ := Q402
      rw [show (own_R (4 : Int32) (4 : Int32) f9) = (-1 : Int32) from rfl] at hv402
      subst hv402
      rw [show (own_N (4 : Int32) (4 : Int32)) = (4 : Int32) from rfl] at F402_at
      have N402 := Fr.app N399 M402
      have fq403 := Ints.keep fq400 K402 (ninS ne_b1_b388 nin0)
      have fq404 := Exa.keep E399 K402
      have Z402 : n0 ≤ T402.heap.size := Nat.le_trans Z399 K402.1
      refine Run.back (g' := (mkF m 92 #[.val (.int p0), .val (.int p1), .val (.int p2), .val (.ref b1), .val (.int (4 : Int32)), .val (.int (0 : Int32)), .val (.ref b388), .val (.int (-1 : Int32)), .val (.int (-1 : Int32)), .val (.int (-1 : Int32)), .unset, .unset, .unset, .unset] [(.int (-1 : Int32))])) st402 ?_
      refine Run.istore (pc' := 94) X402 hx (l' := #[.val (.int p0), .val (.int p1), .val (.int p2), .val (.ref b1), .val (.int (4 : Int32)), .val (.int (0 : Int32)), .val (.ref b388), .val (.int (-1 : Int32)), .val (.int (-1 : Int32)), .val (.int (-1 : Int32)), .val (.int (-1 : Int32)), .unset, .unset, .unset]) (hb hby at_92) rfl rfl ?_
      refine Run.aload (pc' := 96) X402 hx (hb hby at_94) rfl rfl ?_
      obtain ⟨T405, L405, v405, X405, Q405, st405⟩ := callVirtual X402 hx (y := (⟨"com/example/tallyhold/tallyhold/ledger/ArrayInput", "read", "()I"⟩ : MethodName)) (z := (⟨"com/example/tallyhold/tallyhold/ledger/ArrayInput", "read", "()I"⟩ : MethodName)) (C := "com/example/tallyhold/tallyhold/ledger/ArrayInput") (a := b388) (Ls := #[.val (.int p0), .val (.int p1), .val (.int p2), .val (.ref b1), .val (.int (4 : Int32)), .val (.int (0 : Int32)), .val (.ref b388), .val (.int (-1 : Int32)), .val (.int (-1 : Int32)), .val (.int (-1 : Int32)), .val (.int (-1 : Int32)), .unset, .unset, .unset]) (rest := []) (W := 0) (argsL := []) hZ hown (hw _ (List.mem_of_getElem? (i := 30) rfl)) (hw _ (List.mem_of_getElem? (i := 31) rfl)) (notFace_of_selects (args := #[]) (mvT hZ (hw _ (List.mem_of_getElem? (i := 33) rfl)))) (hw _ (List.mem_of_getElem? (i := 33) rfl)) (hw _ (List.mem_of_getElem? (i := 32) rfl)) (hw _ (List.mem_of_getElem? (i := 4) rfl)) (hw _ (List.mem_of_getElem? (i := 34) rfl)) (by decide) rfl E402 (rm5 l Z a0 hw [] b388 b1 (4 : Int32) (4 : Int32) f9 T402.heap n0 Z402 E402 F402_bytes F402_at F402_end G388 fq403 ne_b1_b388 (by decide) (by decide)) (hb hby at_96) (lenOf own_pd4 rfl) (by decide) (by decide) (by rw [hml]; rfl) (Nat.le_of_eq rfl) (by decide) (by decide)
      obtain ⟨hv405, M405, K405, E405, F405_bytes, F405_at, F405_end⟩ := Q405
      rw [show (own_R (4 : Int32) (4 : Int32) f9) = (-1 : Int32) from rfl] at hv405
      subst hv405
      rw [show (own_N (4 : Int32) (4 : Int32)) = (4 : Int32) from rfl] at F405_at
      have N405 := Fr.app N402 M405
      have fq406 := Ints.keep fq403 K405 (ninS ne_b1_b388 nin0)
      have fq407 := Exa.keep E402 K405
      have Z405 : n0 ≤ T405.heap.size := Nat.le_trans Z402 K405.1
      refine Run.back (g' := (mkF m 99 #[.val (.int p0), .val (.int p1), .val (.int p2), .val (.ref b1), .val (.int (4 : Int32)), .val (.int (0 : Int32)), .val (.ref b388), .val (.int (-1 : Int32)), .val (.int (-1 : Int32)), .val (.int (-1 : Int32)), .val (.int (-1 : Int32)), .unset, .unset, .unset] [(.int (-1 : Int32))])) st405 ?_
      refine Run.istore (pc' := 101) X405 hx (l' := #[.val (.int p0), .val (.int p1), .val (.int p2), .val (.ref b1), .val (.int (4 : Int32)), .val (.int (0 : Int32)), .val (.ref b388), .val (.int (-1 : Int32)), .val (.int (-1 : Int32)), .val (.int (-1 : Int32)), .val (.int (-1 : Int32)), .val (.int (-1 : Int32)), .unset, .unset]) (hb hby at_99) rfl rfl ?_
      refine Run.aload (pc' := 103) X405 hx (hb hby at_101) rfl rfl ?_
      obtain ⟨T408, L408, v408, X408, Q408, st408⟩ := callVirtual X405 hx (y := (⟨"com/example/tallyhold/tallyhold/ledger/ArrayInput", "position", "()I"⟩ : MethodName)) (z := (⟨"com/example/tallyhold/tallyhold/ledger/ArrayInput", "position", "()I"⟩ : MethodName)) (C := "com/example/tallyhold/tallyhold/ledger/ArrayInput") (a := b388) (Ls := #[.val (.int p0), .val (.int p1), .val (.int p2), .val (.ref b1), .val (.int (4 : Int32)), .val (.int (0 : Int32)), .val (.ref b388), .val (.int (-1 : Int32)), .val (.int (-1 : Int32)), .val (.int (-1 : Int32)), .val (.int (-1 : Int32)), .val (.int (-1 : Int32)), .unset, .unset]) (rest := []) (W := 0) (argsL := []) hZ hown (hw _ (List.mem_of_getElem? (i := 35) rfl)) (hw _ (List.mem_of_getElem? (i := 36) rfl)) (notFace_of_selects (args := #[]) (mvT hZ (hw _ (List.mem_of_getElem? (i := 38) rfl)))) (hw _ (List.mem_of_getElem? (i := 38) rfl)) (hw _ (List.mem_of_getElem? (i := 37) rfl)) (hw _ (List.mem_of_getElem? (i := 4) rfl)) (hw _ (List.mem_of_getElem? (i := 39) rfl)) (by decide) rfl E405 (rm6 l Z a0 hw [] b388 (4 : Int32) T405.heap n0 Z405 F405_at) (hb hby at_103) (lenOf own_pd4 rfl) (by decide) (by decide) (by rw [hml]; rfl) (Nat.le_of_eq rfl) (by decide) (by decide)
      obtain ⟨hv408, M408, e408⟩ := Q408
      rw [show (own_F6 b388 (4 : Int32)) = (4 : Int32) from rfl] at hv408
      subst hv408
      have N408 := Fr.app N405 M408
      refine Run.back (g' := (mkF m 106 #[.val (.int p0), .val (.int p1), .val (.int p2), .val (.ref b1), .val (.int (4 : Int32)), .val (.int (0 : Int32)), .val (.ref b388), .val (.int (-1 : Int32)), .val (.int (-1 : Int32)), .val (.int (-1 : Int32)), .val (.int (-1 : Int32)), .val (.int (-1 : Int32)), .unset, .unset] [(.int (4 : Int32))])) st408 ?_
      refine Run.istore (pc' := 108) X408 hx (l' := #[.val (.int p0), .val (.int p1), .val (.int p2), .val (.ref b1), .val (.int (4 : Int32)), .val (.int (0 : Int32)), .val (.ref b388), .val (.int (-1 : Int32)), .val (.int (-1 : Int32)), .val (.int (-1 : Int32)), .val (.int (-1 : Int32)), .val (.int (-1 : Int32)), .val (.int (4 : Int32)), .unset]) (hb hby at_106) rfl rfl ?_
      refine Run.aload (pc' := 110) X408 hx (hb hby at_108) rfl rfl ?_
      obtain ⟨T409, L409, v409, X409, Q409, st409⟩ := callVirtual X408 hx (y := (⟨"com/example/tallyhold/tallyhold/ledger/ArrayInput", "available", "()I"⟩ : MethodName)) (z := (⟨"com/example/tallyhold/tallyhold/ledger/ArrayInput", "available", "()I"⟩ : MethodName)) (C := "com/example/tallyhold/tallyhold/ledger/ArrayInput") (a := b388) (Ls := #[.val (.int p0), .val (.int p1), .val (.int p2), .val (.ref b1), .val (.int (4 : Int32)), .val (.int (0 : Int32)), .val (.ref b388), .val (.int (-1 : Int32)), .val (.int (-1 : Int32)), .val (.int (-1 : Int32)), .val (.int (-1 : Int32)), .val (.int (-1 : Int32)), .val (.int (4 : Int32)), .unset]) (rest := []) (W := 0) (argsL := []) hZ hown (hw _ (List.mem_of_getElem? (i := 40) rfl)) (hw _ (List.mem_of_getElem? (i := 41) rfl)) (notFace_of_selects (args := #[]) (mvT hZ (hw _ (List.mem_of_getElem? (i := 43) rfl)))) (hw _ (List.mem_of_getElem? (i := 43) rfl)) (hw _ (List.mem_of_getElem? (i := 42) rfl)) (hw _ (List.mem_of_getElem? (i := 4) rfl)) (hw _ (List.mem_of_getElem? (i := 44) rfl)) (by decide) e408 E405 (rm7 l Z a0 hw [] b388 (4 : Int32) (4 : Int32) T405.heap n0 Z405 F405_at F405_end) (hb hby at_110) (lenOf own_pd4 rfl) (by decide) (by decide) (by rw [hml]; rfl) (Nat.le_of_eq rfl) (by decide) (by decide)
      obtain ⟨hv409, M409, e409⟩ := Q409
      rw [show (own_F7 b388 (4 : Int32) (4 : Int32)) = (0 : Int32) from rfl] at hv409
      subst hv409
      have N409 := Fr.app N408 M409
      refine Run.back (g' := (mkF m 113 #[.val (.int p0), .val (.int p1), .val (.int p2), .val (.ref b1), .val (.int (4 : Int32)), .val (.int (0 : Int32)), .val (.ref b388), .val (.int (-1 : Int32)), .val (.int (-1 : Int32)), .val (.int (-1 : Int32)), .val (.int (-1 : Int32)), .val (.int (-1 : Int32)), .val (.int (4 : Int32)), .unset] [(.int (0 : Int32))])) st409 ?_
      refine Run.istore (pc' := 115) X409 hx (l' := #[.val (.int p0), .val (.int p1), .val (.int p2), .val (.ref b1), .val (.int (4 : Int32)), .val (.int (0 : Int32)), .val (.ref b388), .val (.int (-1 : Int32)), .val (.int (-1 : Int32)), .val (.int (-1 : Int32)), .val (.int (-1 : Int32)), .val (.int (-1 : Int32)), .val (.int (4 : Int32)), .val (.int (0 : Int32))]) (hb hby at_113) rfl rfl ?_
      refine Run.iload (pc' := 117) X409 hx (hb hby at_115) rfl rfl ?_
      refine Run.iloadN (pc' := 118) X409 hx (hb hby at_117) rfl rfl ?_
      refine Run.iload (pc' := 120) X409 hx (hb hby at_118) rfl rfl ?_
      refine Run.iload (pc' := 122) X409 hx (hb hby at_120) rfl rfl ?_
      refine Run.iconst (pc' := 123) (v := (0 : Int32)) X409 hx (hb hby at_122) rfl rfl ?_
      obtain ⟨T410, L410, v410, X410, Q410, st410⟩ := callStatic X409 hx (y := (⟨"com/example/tallyhold/tallyhold/ledger/ArrayInputReadPinLaw", "expected", "(IIII)I"⟩ : MethodName)) (Ls := #[.val (.int p0), .val (.int p1), .val (.int p2), .val (.ref b1), .val (.int (4 : Int32)), .val (.int (0 : Int32)), .val (.ref b388), .val (.int (-1 : Int32)), .val (.int (-1 : Int32)), .val (.int (-1 : Int32)), .val (.int (-1 : Int32)), .val (.int (-1 : Int32)), .val (.int (4 : Int32)), .val (.int (0 : Int32))]) (rest := [(.int (-1 : Int32))]) (W := 1) (argsL := [(.int p0), (.int (4 : Int32)), (.int (0 : Int32)), (.int (0 : Int32))]) hZ hown (hw _ (List.mem_of_getElem? (i := 45) rfl)) (hw _ (List.mem_of_getElem? (i := 46) rfl)) (hw _ (List.mem_of_getElem? (i := 47) rfl)) (hw _ (List.mem_of_getElem? (i := 48) rfl)) (by decide) e409 (rm8 l Z a0 hw [] p0 (4 : Int32) (0 : Int32) (0 : Int32)  T405.heap n0 Z405 ) (hb hby at_123) (lenOf own_pd5 rfl) (by decide) (by decide) (by rw [hml]; rfl) (Nat.le_of_eq rfl) (by decide) (by decide)
      obtain ⟨hv410, M410, e410⟩ := Q410
      rw [show (own_F8 p0 (4 : Int32) (0 : Int32) (0 : Int32)) = (-1 : Int32) from rfl] at hv410
      subst hv410
      have N410 := Fr.app N409 M410
      refine Run.back (g' := (mkF m 126 #[.val (.int p0), .val (.int p1), .val (.int p2), .val (.ref b1), .val (.int (4 : Int32)), .val (.int (0 : Int32)), .val (.ref b388), .val (.int (-1 : Int32)), .val (.int (-1 : Int32)), .val (.int (-1 : Int32)), .val (.int (-1 : Int32)), .val (.int (-1 : Int32)), .val (.int (4 : Int32)), .val (.int (0 : Int32))] [(.int (-1 : Int32)), (.int (-1 : Int32))])) st410 ?_
      refine Run.icmpNo (pc' := 129) X410 hx (hb hby at_126) (teq rfl).2 rfl ?_
      refine Run.iload (pc' := 131) X410 hx (hb hby at_129) rfl rfl ?_
      refine Run.iloadN (pc' := 132) X410 hx (hb hby at_131) rfl rfl ?_
      refine Run.iload (pc' := 134) X410 hx (hb hby at_132) rfl rfl ?_
      refine Run.iload (pc' := 136) X410 hx (hb hby at_134) rfl rfl ?_
      refine Run.iconst (pc' := 137) (v := (1 : Int32)) X410 hx (hb hby at_136) rfl rfl ?_
      obtain ⟨T411, L411, v411, X411, Q411, st411⟩ := callStatic X410 hx (y := (⟨"com/example/tallyhold/tallyhold/ledger/ArrayInputReadPinLaw", "expected", "(IIII)I"⟩ : MethodName)) (Ls := #[.val (.int p0), .val (.int p1), .val (.int p2), .val (.ref b1), .val (.int (4 : Int32)), .val (.int (0 : Int32)), .val (.ref b388), .val (.int (-1 : Int32)), .val (.int (-1 : Int32)), .val (.int (-1 : Int32)), .val (.int (-1 : Int32)), .val (.int (-1 : Int32)), .val (.int (4 : Int32)), .val (.int (0 : Int32))]) (rest := [(.int (-1 : Int32))]) (W := 1) (argsL := [(.int p0), (.int (4 : Int32)), (.int (0 : Int32)), (.int (1 : Int32))]) hZ hown (hw _ (List.mem_of_getElem? (i := 45) rfl)) (hw _ (List.mem_of_getElem? (i := 46) rfl)) (hw _ (List.mem_of_getElem? (i := 47) rfl)) (hw _ (List.mem_of_getElem? (i := 48) rfl)) (by decide) e410 (rm8 l Z a0 hw [] p0 (4 : Int32) (0 : Int32) (1 : Int32)  T405.heap n0 Z405 ) (hb hby at_137) (lenOf own_pd5 rfl) (by decide) (by decide) (by rw [hml]; rfl) (Nat.le_of_eq rfl) (by decide) (by decide)
      obtain ⟨hv411, M411, e411⟩ := Q411
      rw [show (own_F8 p0 (4 : Int32) (0 : Int32) (1 : Int32)) = (-1 : Int32) from rfl] at hv411
      subst hv411
      have N411 := Fr.app N410 M411
      refine Run.back (g' := (mkF m 140 #[.val (.int p0), .val (.int p1), .val (.int p2), .val (.ref b1), .val (.int (4 : Int32)), .val (.int (0 : Int32)), .val (.ref b388), .val (.int (-1 : Int32)), .val (.int (-1 : Int32)), .val (.int (-1 : Int32)), .val (.int (-1 : Int32)), .val (.int (-1 : Int32)), .val (.int (4 : Int32)), .val (.int (0 : Int32))] [(.int (-1 : Int32)), (.int (-1 : Int32))])) st411 ?_
      refine Run.icmpNo (pc' := 143) X411 hx (hb hby at_140) (teq rfl).2 rfl ?_
      refine Run.iload (pc' := 145) X411 hx (hb hby at_143) rfl rfl ?_
      refine Run.iloadN (pc' := 146) X411 hx (hb hby at_145) rfl rfl ?_
      refine Run.iload (pc' := 148) X411 hx (hb hby at_146) rfl rfl ?_
      refine Run.iload (pc' := 150) X411 hx (hb hby at_148) rfl rfl ?_
      refine Run.iconst (pc' := 151) (v := (2 : Int32)) X411 hx (hb hby at_150) rfl rfl ?_
      obtain ⟨T412, L412, v412, X412, Q412, st412⟩ := callStatic X411 hx (y := (⟨"com/example/tallyhold/tallyhold/ledger/ArrayInputReadPinLaw", "expected", "(IIII)I"⟩ : MethodName)) (Ls := #[.val (.int p0), .val (.int p1), .val (.int p2), .val (.ref b1), .val (.int (4 : Int32)), .val (.int (0 : Int32)), .val (.ref b388), .val (.int (-1 : Int32)), .val (.int (-1 : Int32)), .val (.int (-1 : Int32)), .val (.int (-1 : Int32)), .val (.int (-1 : Int32)), .val (.int (4 : Int32)), .val (.int (0 : Int32))]) (rest := [(.int (-1 : Int32))]) (W := 1) (argsL := [(.int p0), (.int (4 : Int32)), (.int (0 : Int32)), (.int (2 : Int32))]) hZ hown (hw _ (List.mem_of_getElem? (i := 45) rfl)) (hw _ (List.mem_of_getElem? (i := 46) rfl)) (hw _ (List.mem_of_getElem? (i := 47) rfl)) (hw _ (List.mem_of_getElem? (i := 48) rfl)) (by decide) e411 (rm8 l Z a0 hw [] p0 (4 : Int32) (0 : Int32) (2 : Int32)  T405.heap n0 Z405 ) (hb hby at_151) (lenOf own_pd5 rfl) (by decide) (by decide) (by rw [hml]; rfl) (Nat.le_of_eq rfl) (by decide) (by decide)
      obtain ⟨hv412, M412, e412⟩ := Q412
      rw [show (own_F8 p0 (4 : Int32) (0 : Int32) (2 : Int32)) = (-1 : Int32) from rfl] at hv412
      subst hv412
      have N412 := Fr.app N411 M412
      refine Run.back (g' := (mkF m 154 #[.val (.int p0), .val (.int p1), .val (.int p2), .val (.ref b1), .val (.int (4 : Int32)), .val (.int (0 : Int32)), .val (.ref b388), .val (.int (-1 : Int32)), .val (.int (-1 : Int32)), .val (.int (-1 : Int32)), .val (.int (-1 : Int32)), .val (.int (-1 : Int32)), .val (.int (4 : Int32)), .val (.int (0 : Int32))] [(.int (-1 : Int32)), (.int (-1 : Int32))])) st412 ?_
      refine Run.icmpNo (pc' := 157) X412 hx (hb hby at_154) (teq rfl).2 rfl ?_
      refine Run.iload (pc' := 159) X412 hx (hb hby at_157) rfl rfl ?_
      refine Run.iloadN (pc' := 160) X412 hx (hb hby at_159) rfl rfl ?_
      refine Run.iload (pc' := 162) X412 hx (hb hby at_160) rfl rfl ?_
      refine Run.iload (pc' := 164) X412 hx (hb hby at_162) rfl rfl ?_
      refine Run.iconst (pc' := 165) (v := (3 : Int32)) X412 hx (hb hby at_164) rfl rfl ?_
      obtain ⟨T413, L413, v413, X413, Q413, st413⟩ := callStatic X412 hx (y := (⟨"com/example/tallyhold/tallyhold/ledger/ArrayInputReadPinLaw", "expected", "(IIII)I"⟩ : MethodName)) (Ls := #[.val (.int p0), .val (.int p1), .val (.int p2), .val (.ref b1), .val (.int (4 : Int32)), .val (.int (0 : Int32)), .val (.ref b388), .val (.int (-1 : Int32)), .val (.int (-1 : Int32)), .val (.int (-1 : Int32)), .val (.int (-1 : Int32)), .val (.int (-1 : Int32)), .val (.int (4 : Int32)), .val (.int (0 : Int32))]) (rest := [(.int (-1 : Int32))]) (W := 1) (argsL := [(.int p0), (.int (4 : Int32)), (.int (0 : Int32)), (.int (3 : Int32))]) hZ hown (hw _ (List.mem_of_getElem? (i := 45) rfl)) (hw _ (List.mem_of_getElem? (i := 46) rfl)) (hw _ (List.mem_of_getElem? (i := 47) rfl)) (hw _ (List.mem_of_getElem? (i := 48) rfl)) (by decide) e412 (rm8 l Z a0 hw [] p0 (4 : Int32) (0 : Int32) (3 : Int32)  T405.heap n0 Z405 ) (hb hby at_165) (lenOf own_pd5 rfl) (by decide) (by decide) (by rw [hml]; rfl) (Nat.le_of_eq rfl) (by decide) (by decide)
      obtain ⟨hv413, M413, e413⟩ := Q413
      rw [show (own_F8 p0 (4 : Int32) (0 : Int32) (3 : Int32)) = (-1 : Int32) from rfl] at hv413
      subst hv413
      have N413 := Fr.app N412 M413
      refine Run.back (g' := (mkF m 168 #[.val (.int p0), .val (.int p1), .val (.int p2), .val (.ref b1), .val (.int (4 : Int32)), .val (.int (0 : Int32)), .val (.ref b388), .val (.int (-1 : Int32)), .val (.int (-1 : Int32)), .val (.int (-1 : Int32)), .val (.int (-1 : Int32)), .val (.int (-1 : Int32)), .val (.int (4 : Int32)), .val (.int (0 : Int32))] [(.int (-1 : Int32)), (.int (-1 : Int32))])) st413 ?_
      refine Run.icmpNo (pc' := 171) X413 hx (hb hby at_168) (teq rfl).2 rfl ?_
      refine Run.iload (pc' := 173) X413 hx (hb hby at_171) rfl rfl ?_
      refine Run.iloadN (pc' := 174) X413 hx (hb hby at_173) rfl rfl ?_
      refine Run.iload (pc' := 176) X413 hx (hb hby at_174) rfl rfl ?_
      refine Run.iload (pc' := 178) X413 hx (hb hby at_176) rfl rfl ?_
      refine Run.iconst (pc' := 179) (v := (4 : Int32)) X413 hx (hb hby at_178) rfl rfl ?_
      obtain ⟨T414, L414, v414, X414, Q414, st414⟩ := callStatic X413 hx (y := (⟨"com/example/tallyhold/tallyhold/ledger/ArrayInputReadPinLaw", "expected", "(IIII)I"⟩ : MethodName)) (Ls := #[.val (.int p0), .val (.int p1), .val (.int p2), .val (.ref b1), .val (.int (4 : Int32)), .val (.int (0 : Int32)), .val (.ref b388), .val (.int (-1 : Int32)), .val (.int (-1 : Int32)), .val (.int (-1 : Int32)), .val (.int (-1 : Int32)), .val (.int (-1 : Int32)), .val (.int (4 : Int32)), .val (.int (0 : Int32))]) (rest := [(.int (-1 : Int32))]) (W := 1) (argsL := [(.int p0), (.int (4 : Int32)), (.int (0 : Int32)), (.int (4 : Int32))]) hZ hown (hw _ (List.mem_of_getElem? (i := 45) rfl)) (hw _ (List.mem_of_getElem? (i := 46) rfl)) (hw _ (List.mem_of_getElem? (i := 47) rfl)) (hw _ (List.mem_of_getElem? (i := 48) rfl)) (by decide) e413 (rm8 l Z a0 hw [] p0 (4 : Int32) (0 : Int32) (4 : Int32)  T405.heap n0 Z405 ) (hb hby at_179) (lenOf own_pd5 rfl) (by decide) (by decide) (by rw [hml]; rfl) (Nat.le_of_eq rfl) (by decide) (by decide)
      obtain ⟨hv414, M414, e414⟩ := Q414
      rw [show (own_F8 p0 (4 : Int32) (0 : Int32) (4 : Int32)) = (-1 : Int32) from rfl] at hv414
      subst hv414
      have N414 := Fr.app N413 M414
      refine Run.back (g' := (mkF m 182 #[.val (.int p0), .val (.int p1), .val (.int p2), .val (.ref b1), .val (.int (4 : Int32)), .val (.int (0 : Int32)), .val (.ref b388), .val (.int (-1 : Int32)), .val (.int (-1 : Int32)), .val (.int (-1 : Int32)), .val (.int (-1 : Int32)), .val (.int (-1 : Int32)), .val (.int (4 : Int32)), .val (.int (0 : Int32))] [(.int (-1 : Int32)), (.int (-1 : Int32))])) st414 ?_
      refine Run.icmpNo (pc' := 185) X414 hx (hb hby at_182) (teq rfl).2 rfl ?_
      refine Run.iload (pc' := 187) X414 hx (hb hby at_185) rfl rfl ?_
      refine Run.iload (pc' := 189) X414 hx (hb hby at_187) rfl rfl ?_
      refine Run.iload (pc' := 191) X414 hx (hb hby at_189) rfl rfl ?_
      refine Run.iadd (pc' := 192) X414 hx (hb hby at_191) rfl ?_
      refine Run.icmpNo (pc' := 195) X414 hx (hb hby at_192) (teq (by decide : (4 : Int32) = ((4 : Int32) + (0 : Int32)))).2 rfl ?_
      refine Run.iload (pc' := 197) X414 hx (hb hby at_195) rfl rfl ?_
      refine Run.ifNo (pc' := 200) X414 hx (hb hby at_197) ((if0 _ _).trans (teq (by decide : (0 : Int32) = (0 : Int32))).2) rfl ?_
      refine Run.iconst (pc' := 201) (v := (1 : Int32)) X414 hx (hb hby at_200) rfl rfl ?_
      refine Run.goto (pc' := 205) X414 hx (hb hby at_201) (by decide) (by decide) ?_
      exact Run.retSmall X414 hx (t := .boolean) (z' := (1 : Int32)) Bd.notSynchronized Bd.returns (by simp) rfl (hb hby at_205) ⟨rfl, N414⟩ (by decide) (by decide)
set_option maxRecDepth 65536 in
set_option maxHeartbeats 40000000 in
theorem comes_1 {Post : Tables → Env → Array Value → State → Outcome → State → Prop} (hpost : ∀ tb e args s v u, (limb_1_1.after args s (.returned v) u = true ∧ limb_1_2.after args s (.returned v) u = true ∧ True) → FrameEnd s (.returned v) u (Jvm.fieldLocs frame_1_writes args s ++ Jvm.arrayLocs frame_1_arrays args s ++ Jvm.staticLocs frame_1_statics s) 16 128 → Post tb e args s (.returned v) u) :
    ArmFor flags0 classFile x code maxLocals ret World_1 tables_1 room_1 Calls_1 rest_1 Pre_1 Post := by
  intro l hfl _ _ p e ha hc hk s m args below hf hA hF happ hP
  obtain ⟨hcalls, hrest, hpre⟩ := hP
  obtain ⟨-, -, -, hnamed, -, -, -, hat⟩ := (Spec.applies_iff hf).mp happ
  obtain ⟨hg, hn⟩ := and_e (Cond.before_iff.mp (show (Jvm.Cond.and given_1 narrow_1).before args s = true from hpre))
  obtain ⟨hcount, hg0⟩ := and_e hg
  obtain ⟨ha0, hg1⟩ := and_e hg0
  obtain ⟨ha1, hg2⟩ := and_e hg1
  obtain ⟨w0, w1, w2, rfl⟩ : ∃ w0 w1 w2 : Value, args = #[w0, w1, w2] := by
    have hs : args.size = 3 := by simpa [Cond.value, given_1] using hcount
    obtain ⟨L⟩ := args
    match L, hs with
    | [w0, w1, w2], _ => exact ⟨w0, w1, w2, rfl⟩
  have hw := fun d (hd : d ∈ tables_1) => atoms_spec (ws := Jvm.Cond.code x code maxLocals ret :: tables_1) hat d (List.mem_cons_of_mem _ hd)
  have hfit : Fit s := fun {y c} hc i hi => by
    obtain ⟨ha, rfl⟩ := Array.getElem?_eq_some_iff.mp hc
    have q := List.all_eq_true.mp ((Array.all_eq_true_iff_forall_mem.mp hF) _ (Array.getElem_mem ha)) i (List.mem_range.mpr hi)
    simpa [Array.getElem?_eq_getElem hi] using q
  obtain ⟨i0, ei0⟩ := is_v ha0
  obtain rfl : w0 = (.int i0) := Option.some.inj ei0
  obtain ⟨i1, ei1⟩ := is_v ha1
  obtain rfl : w1 = (.int i1) := Option.some.inj ei1
  obtain ⟨i2, ei2⟩ := is_v hg2
  obtain rfl : w2 = (.int i2) := Option.some.inj ei2
  obtain ⟨n, o, h1, h2, h3, _, L, rfl, ⟨rfl, N⟩, hq⟩ := rm0 l s _ hw tables_1 i0 i1 i2 s.heap s.heap.size (Nat.le_refl _) p e ha hc hk s m _ below hf ((Spec.applies_iff_loose hf).mp happ).1 ⟨rfl, State.Warmed39.refl s, rfl⟩ trivial
  refine ⟨n, _, h1, h2, h3, hpost _ _ _ _ _ _ ⟨Cond.after_iff.mpr rfl, Cond.after_iff.mpr (eq_i res_at (Term.int_eval (1)) rfl), trivial⟩ ⟨hq.1, hq.2.1, (hq.2.2.sift fun y hy => Or.inr (N y hy)).mono (by decide) (by decide)⟩⟩
theorem main_1_1 : Claimed_1_1 := comes_1 fun _ _ _ _ _ _ h hF => ⟨h.1, hF⟩
theorem main_1_2 : Claimed_1_2 := comes_1 fun _ _ _ _ _ _ h hF => ⟨h.2.1, hF⟩
end Jvm.Pilot.@@N@@
namespace Jvm.Pilot.@@N@@
open Jvm Jvm.ClassFile Sem Op Lib Jvm.Free Jvm.Stand Jvm.Pilot.@@N@@.Jvm.D
/-! MADE BY PROGRAM (witnessworld.py) out of the Statement's table words and the real class files: 14 classes; the members and pool entries that the words name. The judged class is class 1, her method 2. -/
namespace start1
open Jvm.ClassFile
def u (s : String) : CpInfo := .utf8 (stringToUtf16 s)
/-- a pool by its gaps: so many unusable entries, then the entry; so many at the end -/
def gap : Nat → List CpInfo → List CpInfo
  | 0, r => r
  | n + 1, r => .unusable :: gap n r
def poolList (es : List (Nat × CpInfo)) (last : Nat) : List CpInfo := es.foldr (fun e r => gap e.1 (e.2 :: r)) (gap last [])
def pool (es : List (Nat × CpInfo)) (last : Nat) : Array CpInfo := ⟨poolList es last⟩
def fileOf (pool : Array CpInfo) (this : Nat) (attrs : Array Attribute := #[]) (ms : Array MethodInfo := #[]) (fl : Nat := 33) (sup : Nat := 0) (ifs : Array Nat := #[]) (fds : Array FieldInfo := #[]) : ClassFile where
  minorVersion := 0
  majorVersion := 65
  constantPool := pool
  accessFlags := fl
  thisClass := this
  superClass := sup
  interfaces := ifs
  fields := fds
  methods := ms
  attributes := attrs
def plain (name : String) (sup : Option ClassId) : Class where
  name := name
  kind := .ordinary
  loader := none
  accessFlags := 33
  super := sup
  interfaces := #[]
  cf := none
  fields := #[]
  methods := #[]
  instanceTypes := #[]
  staticTypes := #[]
  resolved := #[]
  callSites := []
  init := .initialized
  statics := none
  mirror := none

def pool0 : Array CpInfo := pool [(5, u "<init>"), (0, u "()V"), (1, .class_ 10), (1, u "java/lang/Object")] 113

def k0c0 : Code := { maxStack := 0, maxLocals := 1, code := object_method_1_code, exceptionTable := #[], attributes := #[] }
def k0m0 : Method := { name := "<init>", desc := "()V", sig := { parameters := [], returnType := none }, accessFlags := 1, code := some k0c0 }
/-- java/lang/Object -/
def k0 : Class := { plain "java/lang/Object" none with
  accessFlags := 33
  interfaces := #[]
  cf := some (fileOf pool0 8 #[] #[{ accessFlags := 1, nameIndex := 5, descriptorIndex := 6, attributes := #[] }] 33 0 #[] #[])
  fields := #[]
  methods := #[k0m0]
  instanceTypes := #[]
  staticTypes := #[]
  resolved := Array.replicate 124 none
  statics := none }

def pool1 : Array CpInfo := pool [(2, .class_ 4), (1, u "java/lang/Object"), (0, u "<init>"), (0, u "()V"), (0, .integer 2147483647), (0, .class_ 9), (0, u "com/example/tallyhold/tallyhold/ledger/ArrayInput"), (0, .methodref 8 11), (0, .nameAndType 5 12), (0, u "([BII)V"), (0, .methodref 8 14), (0, .nameAndType 15 16), (0, u "read"), (0, u "()I"), (0, .methodref 8 18), (0, .nameAndType 19 16), (0, u "position"), (0, .methodref 8 21), (0, .nameAndType 22 16), (0, u "available"), (0, .methodref 24 25), (0, .class_ 26), (0, .nameAndType 27 28), (0, u "com/example/tallyhold/tallyhold/ledger/ArrayInputReadPinLaw"), (0, u "expected"), (0, u "(IIII)I"), (3, u "law"), (0, u "(III)Z")] 4

def k1m0 : Method := { name := "<init>", desc := "()V", sig := { parameters := [], returnType := none }, accessFlags := 1, code := none }
def k1c1 : Code := { maxStack := 4, maxLocals := 4, code := method_2_code, exceptionTable := #[], attributes := #[] }
def k1m1 : Method := { name := "expected", desc := "(IIII)I", sig := { parameters := [.int, .int, .int, .int], returnType := some .int }, accessFlags := 10, code := some k1c1 }
def k1c2 : Code := { maxStack := 5, maxLocals := 14, code := code, exceptionTable := #[], attributes := #[] }
def k1m2 : Method := { name := "law", desc := "(III)Z", sig := { parameters := [.int, .int, .int], returnType := some .boolean }, accessFlags := 9, code := some k1c2 }
/-- com/example/tallyhold/tallyhold/ledger/ArrayInputReadPinLaw -/
def k1 : Class := { plain "com/example/tallyhold/tallyhold/ledger/ArrayInputReadPinLaw" (some 0) with
  accessFlags := 49
  interfaces := #[]
  cf := some (fileOf pool1 24 #[] #[{ accessFlags := 1, nameIndex := 5, descriptorIndex := 6, attributes := #[] }, { accessFlags := 10, nameIndex := 27, descriptorIndex := 28, attributes := #[] }, { accessFlags := 9, nameIndex := 32, descriptorIndex := 33, attributes := #[] }] 49 2 #[] #[])
  fields := #[]
  methods := #[k1m0, k1m1, k1m2]
  instanceTypes := #[]
  staticTypes := #[]
  resolved := Array.replicate 38 none
  statics := none }

def pool2 : Array CpInfo := pool [(1, .class_ 2), (0, u "java/lang/AutoCloseable"), (0, .class_ 4), (0, u "java/lang/Object")] 7

/-- java/lang/AutoCloseable -/
def k2 : Class := { plain "java/lang/AutoCloseable" (some 0) with
  accessFlags := 1537
  interfaces := #[]
  cf := some (fileOf pool2 1 #[] #[] 1537 3 #[] #[])
  fields := #[]
  methods := #[]
  instanceTypes := #[]
  staticTypes := #[]
  resolved := Array.replicate 12 none
  statics := none }

def pool3 : Array CpInfo := pool [(1, .class_ 2), (0, u "java/io/Closeable"), (0, .class_ 4), (0, u "java/lang/Object"), (0, .class_ 6), (0, u "java/lang/AutoCloseable")] 7

/-- java/io/Closeable -/
def k3 : Class := { plain "java/io/Closeable" (some 0) with
  accessFlags := 1537
  interfaces := #[2]
  cf := some (fileOf pool3 1 #[] #[] 1537 3 #[5] #[])
  fields := #[]
  methods := #[]
  instanceTypes := #[]
  staticTypes := #[]
  resolved := Array.replicate 14 none
  statics := none }

def pool4 : Array CpInfo := pool [(3, .methodref 4 5), (0, .class_ 6), (0, .nameAndType 7 8), (0, u "java/lang/Object"), (0, u "<init>"), (0, u "()V"), (0, .class_ 10), (0, u "java/io/InputStream$1"), (2, .class_ 15), (1, u "java/io/InputStream"), (116, .class_ 133), (0, u "java/io/Closeable"), (0, u "MAX_SKIP_BUFFER_SIZE"), (0, u "I"), (2, u "DEFAULT_BUFFER_SIZE"), (1, u "MAX_BUFFER_SIZE")] 54

def k4c0 : Code := { maxStack := 1, maxLocals := 1, code := jdk_2022_method_1_code, exceptionTable := #[], attributes := #[] }
def k4m0 : Method := { name := "<init>", desc := "()V", sig := { parameters := [], returnType := none }, accessFlags := 1, code := some k4c0 }
/-- java/io/InputStream -/
def k4 : Class := { plain "java/io/InputStream" (some 0) with
  accessFlags := 1057
  interfaces := #[3]
  cf := some (fileOf pool4 13 #[.nestMembers #[9]] #[{ accessFlags := 1, nameIndex := 7, descriptorIndex := 8, attributes := #[] }] 1057 4 #[132] #[{ accessFlags := 26, nameIndex := 134, descriptorIndex := 135, attributes := #[] }, { accessFlags := 26, nameIndex := 138, descriptorIndex := 135, attributes := #[] }, { accessFlags := 26, nameIndex := 140, descriptorIndex := 135, attributes := #[] }])
  fields := #[{ name := "MAX_SKIP_BUFFER_SIZE", type := .int, accessFlags := 26, slot := 0, constantValue := 0 }, { name := "DEFAULT_BUFFER_SIZE", type := .int, accessFlags := 26, slot := 1, constantValue := 0 }, { name := "MAX_BUFFER_SIZE", type := .int, accessFlags := 26, slot := 2, constantValue := 0 }]
  methods := #[k4m0]
  instanceTypes := #[]
  staticTypes := #[.int, .int, .int]
  resolved := Array.replicate 195 none
  statics := none }

def pool5 : Array CpInfo := pool [(2, .class_ 4), (1, u "com/example/tallyhold/tallyhold/ledger/ArrayInput"), (0, u "<init>"), (0, u "([BII)V"), (0, .methodref 8 9), (0, .class_ 10), (0, .nameAndType 5 11), (0, u "java/io/InputStream"), (0, u "()V"), (0, .methodref 13 14), (0, .class_ 15), (0, .nameAndType 16 17), (0, u "java/util/Objects"), (0, u "checkFromIndexSize"), (0, u "(III)I"), (0, .fieldref 2 19), (0, .nameAndType 20 21), (0, u "bytes"), (0, u "[B"), (0, .fieldref 2 23), (0, .nameAndType 24 25), (0, u "at"), (0, u "I"), (0, .fieldref 2 27), (0, .nameAndType 28 25), (0, u "end"), (21, u "position"), (0, u "()I"), (0, u "read"), (4, u "available")] 2

def k5c0 : Code := { maxStack := 3, maxLocals := 4, code := prog_32_method_2_code, exceptionTable := #[], attributes := #[] }
def k5m0 : Method := { name := "<init>", desc := "([BII)V", sig := { parameters := [(.array .byte), .int, .int], returnType := none }, accessFlags := 0, code := some k5c0 }
def k5c1 : Code := { maxStack := 1, maxLocals := 1, code := prog_32_method_3_code, exceptionTable := #[], attributes := #[] }
def k5m1 : Method := { name := "position", desc := "()I", sig := { parameters := [], returnType := some .int }, accessFlags := 0, code := some k5c1 }
def k5c2 : Code := { maxStack := 5, maxLocals := 1, code := prog_32_method_4_code, exceptionTable := #[], attributes := #[] }
def k5m2 : Method := { name := "read", desc := "()I", sig := { parameters := [], returnType := some .int }, accessFlags := 1, code := some k5c2 }
def k5c3 : Code := { maxStack := 2, maxLocals := 1, code := prog_32_method_7_code, exceptionTable := #[], attributes := #[] }
def k5m3 : Method := { name := "available", desc := "()I", sig := { parameters := [], returnType := some .int }, accessFlags := 1, code := some k5c3 }
/-- com/example/tallyhold/tallyhold/ledger/ArrayInput -/
def k5 : Class := { plain "com/example/tallyhold/tallyhold/ledger/ArrayInput" (some 4) with
  accessFlags := 48
  interfaces := #[]
  cf := some (fileOf pool5 2 #[] #[{ accessFlags := 0, nameIndex := 5, descriptorIndex := 6, attributes := #[] }, { accessFlags := 0, nameIndex := 50, descriptorIndex := 51, attributes := #[] }, { accessFlags := 1, nameIndex := 52, descriptorIndex := 51, attributes := #[] }, { accessFlags := 1, nameIndex := 57, descriptorIndex := 51, attributes := #[] }] 48 8 #[] #[{ accessFlags := 18, nameIndex := 20, descriptorIndex := 21, attributes := #[] }, { accessFlags := 18, nameIndex := 28, descriptorIndex := 25, attributes := #[] }, { accessFlags := 2, nameIndex := 24, descriptorIndex := 25, attributes := #[] }])
  fields := #[{ name := "bytes", type := (.array .byte), accessFlags := 18, slot := 0, constantValue := 0 }, { name := "end", type := .int, accessFlags := 18, slot := 1, constantValue := 0 }, { name := "at", type := .int, accessFlags := 2, slot := 2, constantValue := 0 }]
  methods := #[k5m0, k5m1, k5m2, k5m3]
  instanceTypes := #[(.array .byte), .int, .int]
  staticTypes := #[]
  resolved := Array.replicate 60 none
  statics := none }

def pool6 : Array CpInfo := pool [(2, .class_ 4), (1, u "java/lang/Object"), (0, u "<init>"), (0, u "()V"), (35, .class_ 44), (1, u "java/util/Objects"), (61, .class_ 108), (1, u "jdk/internal/util/Preconditions"), (5, u "(IIILjava/util/function/BiFunction;)I"), (0, .methodref 106 116), (0, .nameAndType 117 114), (0, u "checkFromIndexSize"), (57, u "(III)I")] 8

def k6m0 : Method := { name := "<init>", desc := "()V", sig := { parameters := [], returnType := none }, accessFlags := 2, code := none }
def k6c1 : Code := { maxStack := 4, maxLocals := 3, code := jdk_31_method_19_code, exceptionTable := #[], attributes := #[] }
def k6m1 : Method := { name := "checkFromIndexSize", desc := "(III)I", sig := { parameters := [.int, .int, .int], returnType := some .int }, accessFlags := 9, code := some k6c1 }
/-- java/util/Objects -/
def k6 : Class := { plain "java/util/Objects" (some 0) with
  accessFlags := 49
  interfaces := #[]
  cf := some (fileOf pool6 42 #[] #[{ accessFlags := 2, nameIndex := 5, descriptorIndex := 6, attributes := #[] }, { accessFlags := 9, nameIndex := 117, descriptorIndex := 175, attributes := #[] }] 49 2 #[] #[])
  fields := #[]
  methods := #[k6m0, k6m1]
  instanceTypes := #[]
  staticTypes := #[]
  resolved := Array.replicate 184 none
  statics := none }

def pool7 : Array CpInfo := pool [(2, .class_ 4), (1, u "java/lang/Object"), (0, u "<init>"), (0, u "()V"), (17, .class_ 26), (1, u "jdk/internal/util/Preconditions"), (22, u "checkFromIndexSize"), (5, .class_ 56), (0, u "jdk/internal/util/Preconditions$4"), (57, .class_ 115), (0, u "jdk/internal/util/Preconditions$1"), (7, u "SIOOBE_FORMATTER"), (0, u "Ljava/util/function/BiFunction;"), (0, .class_ 126), (0, u "jdk/internal/util/Preconditions$2"), (3, u "AIOOBE_FORMATTER"), (0, .class_ 132), (0, u "jdk/internal/util/Preconditions$3"), (3, u "IOOBE_FORMATTER"), (46, u "(IIILjava/util/function/BiFunction;)I")] 10

def k7m0 : Method := { name := "<init>", desc := "()V", sig := { parameters := [], returnType := none }, accessFlags := 1, code := none }
def k7c1 : Code := { maxStack := 4, maxLocals := 4, code := jdk_41_method_13_code, exceptionTable := #[], attributes := #[] }
def k7m1 : Method := { name := "checkFromIndexSize", desc := "(IIILjava/util/function/BiFunction;)I", sig := { parameters := [.int, .int, .int, (.object "java/util/function/BiFunction")], returnType := some .int }, accessFlags := 9, code := some k7c1 }
/-- jdk/internal/util/Preconditions -/
def k7 : Class := { plain "jdk/internal/util/Preconditions" (some 0) with
  accessFlags := 33
  interfaces := #[]
  cf := some (fileOf pool7 24 #[.nestMembers #[55, 131, 125, 114]] #[{ accessFlags := 1, nameIndex := 5, descriptorIndex := 6, attributes := #[] }, { accessFlags := 9, nameIndex := 49, descriptorIndex := 183, attributes := #[] }] 33 2 #[] #[{ accessFlags := 25, nameIndex := 123, descriptorIndex := 124, attributes := #[] }, { accessFlags := 25, nameIndex := 130, descriptorIndex := 124, attributes := #[] }, { accessFlags := 25, nameIndex := 136, descriptorIndex := 124, attributes := #[] }])
  fields := #[{ name := "SIOOBE_FORMATTER", type := (.object "java/util/function/BiFunction"), accessFlags := 25, slot := 0, constantValue := 0 }, { name := "AIOOBE_FORMATTER", type := (.object "java/util/function/BiFunction"), accessFlags := 25, slot := 1, constantValue := 0 }, { name := "IOOBE_FORMATTER", type := (.object "java/util/function/BiFunction"), accessFlags := 25, slot := 2, constantValue := 0 }]
  methods := #[k7m0, k7m1]
  instanceTypes := #[]
  staticTypes := #[(.object "java/util/function/BiFunction"), (.object "java/util/function/BiFunction"), (.object "java/util/function/BiFunction")]
  resolved := Array.replicate 194 none
  statics := none }

def pool8 : Array CpInfo := pool [(1, u "java/lang/Cloneable"), (0, .class_ 1), (0, u "java/lang/Object"), (0, .class_ 3)] 3

/-- java/lang/Cloneable -/
def k8 : Class := { plain "java/lang/Cloneable" (some 0) with
  accessFlags := 1537
  interfaces := #[]
  cf := some (fileOf pool8 2 #[] #[] 1537 4 #[] #[])
  fields := #[]
  methods := #[]
  instanceTypes := #[]
  staticTypes := #[]
  resolved := Array.replicate 8 none
  statics := none }

def pool9 : Array CpInfo := pool [(1, u "java/io/Serializable"), (0, .class_ 1), (0, u "java/lang/Object"), (0, .class_ 3)] 3

/-- java/io/Serializable -/
def k9 : Class := { plain "java/io/Serializable" (some 0) with
  accessFlags := 1537
  interfaces := #[]
  cf := some (fileOf pool9 2 #[] #[] 1537 4 #[] #[])
  fields := #[]
  methods := #[]
  instanceTypes := #[]
  staticTypes := #[]
  resolved := Array.replicate 8 none
  statics := none }

/-- the primitive byte -/
def k10 : Class := { plain "byte" none with kind := .primitive 'B', accessFlags := 0x411 }
/-- [B -/
def k11 : Class := { plain "[B" (some 0) with kind := .array 10 .byte, interfaces := #[8, 9], accessFlags := 1041 }

/-- the primitive int -/
def k12 : Class := { plain "int" none with kind := .primitive 'I', accessFlags := 0x411 }
/-- [I -/
def k13 : Class := { plain "[I" (some 0) with kind := .array 12 .int, interfaces := #[8, 9], accessFlags := 1041 }

def heap : Heap := #[]
def classes : Array Class := #[k0, k1, k2, k3, k4, k5, k6, k7, k8, k9, k10, k11, k12, k13]
def interned : List (Array UInt16 × Addr) := []
def slotsUsed : Nat := 0
def theMethod : MethodId := ⟨1, 2⟩
def args0 : Array Value := #[.int 97, .int 3, .int 5]
def aboutOver (below : List Frame) : State where
  vm := { classes := classes, interned := interned.toArray }
  heap := heap
  slotsUsed := slotsUsed
  threads := #[{ frames := .invoking theMethod args0 :: below }]
def below0 : List Frame := [.native { method := ⟨0, 0⟩, args := #[] }]
def about1 : State := aboutOver below0
def p0 : Program := .bare "" "" ""
def e0 : Env := launch0.env 0 0 0
theorem w_frames : about1.frames = Frame.invoking theMethod args0 :: below0 := rfl
set_option maxRecDepth 65536 in
theorem w_args : argsFit about1.vm theMethod args0 = true := by decide +kernel
set_option maxRecDepth 65536 in
theorem w_heap : heapFits about1 = true := by decide +kernel
set_option maxRecDepth 65536 in
theorem w_runnable : about1.curStatus? = some .runnable := by decide +kernel
set_option maxRecDepth 65536 in
theorem w_alone : about1.alone = true := by decide +kernel
set_option maxRecDepth 65536 in
theorem w_named : about1.methodNamed? x = some theMethod := by decide +kernel
set_option maxRecDepth 65536 in
theorem w_hears : about1.hears theMethod below0 = true := by decide +kernel
set_option maxRecDepth 65536 in
theorem w_ripe : about1.ripe theMethod args0 below0 = true := by decide +kernel
theorem w_running : about1.status = .running := rfl
set_option maxRecDepth 65536 in
theorem w_room : about1.hasRoom e0.platform room_1 = true :=
  launch0.hasRoom_least _ room_1 (by decide +kernel) (by decide +kernel) (by decide +kernel) (by decide +kernel) (by decide +kernel) (by decide +kernel)
theorem allAtoms_all (ts : List Jvm.Cond) (a : Array Jvm.Value) (st : Jvm.State) : (allAtoms ts).before a st = ts.all (fun c => c.before a st) := by
  induction ts with
  | nil => rfl
  | cons c t ih =>
    show (Jvm.Cond.and c (allAtoms t)).before a st = _
    rw [Jvm.Cond.before_and, ih, List.all_cons]
def words1 : List Jvm.Cond := Jvm.Cond.code x code maxLocals ret :: tables_1
/-- a 'code' word, met by the world's own term for the bytes: nothing is compared byte by byte -/
theorem code_word {y : MethodName} {bytes : ByteArray} {mx : Nat} {rt : Option FieldType} {a : Array Value} {s : State} {m : MethodId} {meth : Method} {c : Code} (h1 : s.methodNamed? y = some m) (h2 : s.vm.method? m = some meth) (h3 : meth.code = some c) (h4 : c.code = bytes)
    (h5 : (c.maxLocals == mx && c.exceptionTable.isEmpty && decide (c.maxStack ≤ mostOperands) && decide (meth.sig.returnType = rt) && !meth.locks && decide (parseMethodDescriptor y.desc = some meth.sig)) = true) : (Jvm.Cond.code y bytes mx rt).before a s = true := by
  simp only [Bool.and_eq_true, beq_iff_eq, Bool.not_eq_true', decide_eq_true_eq] at h5
  obtain ⟨⟨⟨⟨⟨g1, g2⟩, g3⟩, g4⟩, g5⟩, g6⟩ := h5
  simp [Cond.before, Cond.holds, Cond.value, h1, h2, h3, h4, g1, g2, g3, g4, g5, g6]
def isCode : Jvm.Cond → Bool
  | .code _ _ _ _ => true
  | _ => false
theorem all_split {L : List Jvm.Cond} {P : Jvm.Cond → Bool} (h1 : L.all (fun c => isCode c || P c) = true) (h2 : ∀ c ∈ L.filter isCode, P c = true) : L.all P = true := by
  refine List.all_eq_true.mpr fun c hc => ?_
  have h := List.all_eq_true.mp h1 c hc
  rcases Bool.eq_false_or_eq_true (isCode c) with hi | hi
  · exact h2 c (List.mem_filter.mpr ⟨hc, hi⟩)
  · simpa [hi] using h
set_option maxRecDepth 65536 in
theorem w_c0 : (Jvm.Cond.code x code maxLocals ret).before args0 about1 = true := code_word (m := ⟨1, 2⟩) (meth := k1m2) (c := k1c2) (by decide +kernel) rfl rfl rfl (by decide +kernel)
set_option maxRecDepth 65536 in
theorem w_c1 : (Jvm.Cond.code ({ cls := "com/example/tallyhold/tallyhold/ledger/ArrayInput", name := "<init>", desc := "([BII)V" } : Jvm.MethodName) prog_32_method_2_code (4 : Nat) (Option.none : Option Jvm.ClassFile.FieldType)).before args0 about1 = true := code_word (m := ⟨5, 0⟩) (meth := k5m0) (c := k5c0) (by decide +kernel) rfl rfl rfl (by decide +kernel)
set_option maxRecDepth 65536 in
theorem w_c2 : (Jvm.Cond.code ({ cls := "java/io/InputStream", name := "<init>", desc := "()V" } : Jvm.MethodName) jdk_2022_method_1_code (1 : Nat) (Option.none : Option Jvm.ClassFile.FieldType)).before args0 about1 = true := code_word (m := ⟨4, 0⟩) (meth := k4m0) (c := k4c0) (by decide +kernel) rfl rfl rfl (by decide +kernel)
set_option maxRecDepth 65536 in
theorem w_c3 : (Jvm.Cond.code ({ cls := "java/lang/Object", name := "<init>", desc := "()V" } : Jvm.MethodName) object_method_1_code (1 : Nat) (Option.none : Option Jvm.ClassFile.FieldType)).before args0 about1 = true := code_word (m := ⟨0, 0⟩) (meth := k0m0) (c := k0c0) (by decide +kernel) rfl rfl rfl (by decide +kernel)
set_option maxRecDepth 65536 in
theorem w_c4 : (Jvm.Cond.code ({ cls := "java/util/Objects", name := "checkFromIndexSize", desc := "(III)I" } : Jvm.MethodName) jdk_31_method_19_code (3 : Nat) (Option.some Jvm.ClassFile.FieldType.int)).before args0 about1 = true := code_word (m := ⟨6, 1⟩) (meth := k6m1) (c := k6c1) (by decide +kernel) rfl rfl rfl (by decide +kernel)
set_option maxRecDepth 65536 in
theorem w_c5 : (Jvm.Cond.code ({ cls := "jdk/internal/util/Preconditions", name := "checkFromIndexSize", desc := "(IIILjava/util/function/BiFunction;)I" } : Jvm.MethodName) jdk_41_method_13_code (4 : Nat) (Option.some Jvm.ClassFile.FieldType.int)).before args0 about1 = true := code_word (m := ⟨7, 1⟩) (meth := k7m1) (c := k7c1) (by decide +kernel) rfl rfl rfl (by decide +kernel)
set_option maxRecDepth 65536 in
theorem w_c6 : (Jvm.Cond.code ({ cls := "com/example/tallyhold/tallyhold/ledger/ArrayInput", name := "read", desc := "()I" } : Jvm.MethodName) prog_32_method_4_code (1 : Nat) (Option.some Jvm.ClassFile.FieldType.int)).before args0 about1 = true := code_word (m := ⟨5, 2⟩) (meth := k5m2) (c := k5c2) (by decide +kernel) rfl rfl rfl (by decide +kernel)
set_option maxRecDepth 65536 in
theorem w_c7 : (Jvm.Cond.code ({ cls := "com/example/tallyhold/tallyhold/ledger/ArrayInput", name := "position", desc := "()I" } : Jvm.MethodName) prog_32_method_3_code (1 : Nat) (Option.some Jvm.ClassFile.FieldType.int)).before args0 about1 = true := code_word (m := ⟨5, 1⟩) (meth := k5m1) (c := k5c1) (by decide +kernel) rfl rfl rfl (by decide +kernel)
set_option maxRecDepth 65536 in
theorem w_c8 : (Jvm.Cond.code ({ cls := "com/example/tallyhold/tallyhold/ledger/ArrayInput", name := "available", desc := "()I" } : Jvm.MethodName) prog_32_method_7_code (1 : Nat) (Option.some Jvm.ClassFile.FieldType.int)).before args0 about1 = true := code_word (m := ⟨5, 3⟩) (meth := k5m3) (c := k5c3) (by decide +kernel) rfl rfl rfl (by decide +kernel)
set_option maxRecDepth 65536 in
theorem w_c9 : (Jvm.Cond.code ({ cls := "com/example/tallyhold/tallyhold/ledger/ArrayInputReadPinLaw", name := "expected", desc := "(IIII)I" } : Jvm.MethodName) method_2_code (4 : Nat) (Option.some Jvm.ClassFile.FieldType.int)).before args0 about1 = true := code_word (m := ⟨1, 1⟩) (meth := k1m1) (c := k1c1) (by decide +kernel) rfl rfl rfl (by decide +kernel)
def codes1 : List Jvm.Cond := [Jvm.Cond.code x code maxLocals ret, Jvm.Cond.code ({ cls := "com/example/tallyhold/tallyhold/ledger/ArrayInput", name := "<init>", desc := "([BII)V" } : Jvm.MethodName) prog_32_method_2_code (4 : Nat) (Option.none : Option Jvm.ClassFile.FieldType), Jvm.Cond.code ({ cls := "java/io/InputStream", name := "<init>", desc := "()V" } : Jvm.MethodName) jdk_2022_method_1_code (1 : Nat) (Option.none : Option Jvm.ClassFile.FieldType), Jvm.Cond.code ({ cls := "java/lang/Object", name := "<init>", desc := "()V" } : Jvm.MethodName) object_method_1_code (1 : Nat) (Option.none : Option Jvm.ClassFile.FieldType), Jvm.Cond.code ({ cls := "java/util/Objects", name := "checkFromIndexSize", desc := "(III)I" } : Jvm.MethodName) jdk_31_method_19_code (3 : Nat) (Option.some Jvm.ClassFile.FieldType.int), Jvm.Cond.code ({ cls := "jdk/internal/util/Preconditions", name := "checkFromIndexSize", desc := "(IIILjava/util/function/BiFunction;)I" } : Jvm.MethodName) jdk_41_method_13_code (4 : Nat) (Option.some Jvm.ClassFile.FieldType.int), Jvm.Cond.code ({ cls := "com/example/tallyhold/tallyhold/ledger/ArrayInput", name := "read", desc := "()I" } : Jvm.MethodName) prog_32_method_4_code (1 : Nat) (Option.some Jvm.ClassFile.FieldType.int), Jvm.Cond.code ({ cls := "com/example/tallyhold/tallyhold/ledger/ArrayInput", name := "position", desc := "()I" } : Jvm.MethodName) prog_32_method_3_code (1 : Nat) (Option.some Jvm.ClassFile.FieldType.int), Jvm.Cond.code ({ cls := "com/example/tallyhold/tallyhold/ledger/ArrayInput", name := "available", desc := "()I" } : Jvm.MethodName) prog_32_method_7_code (1 : Nat) (Option.some Jvm.ClassFile.FieldType.int), Jvm.Cond.code ({ cls := "com/example/tallyhold/tallyhold/ledger/ArrayInputReadPinLaw", name := "expected", desc := "(IIII)I" } : Jvm.MethodName) method_2_code (4 : Nat) (Option.some Jvm.ClassFile.FieldType.int)]
set_option maxRecDepth 65536 in
theorem codes_eq : words1.filter isCode = codes1 := rfl
theorem w_codes : ∀ c ∈ words1.filter isCode, c.before args0 about1 = true := by
  rw [codes_eq]
  intro c hc
  simp only [codes1, List.mem_cons, List.not_mem_nil, or_false] at hc
  rcases hc with rfl | rfl | rfl | rfl | rfl | rfl | rfl | rfl | rfl | rfl
  · exact w_c0
  · exact w_c1
  · exact w_c2
  · exact w_c3
  · exact w_c4
  · exact w_c5
  · exact w_c6
  · exact w_c7
  · exact w_c8
  · exact w_c9
set_option maxRecDepth 65536 in
theorem w_t1 : (words1.take 24).all (fun c => isCode c || c.before args0 about1) = true := by decide +kernel
set_option maxRecDepth 65536 in
theorem w_t2 : ((words1.drop 24).take 24).all (fun c => isCode c || c.before args0 about1) = true := by decide +kernel
set_option maxRecDepth 65536 in
theorem w_t3 : ((words1.drop 24).drop 24).all (fun c => isCode c || c.before args0 about1) = true := by decide +kernel
theorem w_tables : (allAtoms (Jvm.Cond.code x code maxLocals ret :: tables_1)).before args0 about1 = true := by
  rw [allAtoms_all]
  show words1.all (fun c => c.before args0 about1) = true
  refine all_split ?_ w_codes
  rw [← List.take_append_drop 24 words1, List.all_append, w_t1, ← List.take_append_drop 24 (words1.drop 24), List.all_append, w_t2, w_t3]
  rfl
set_option maxRecDepth 65536 in
theorem w_case : (Jvm.Cond.and given_1 narrow_1).before args0 about1 = true := by decide +kernel
theorem w_applies : (headSpec (Jvm.Cond.code x code maxLocals ret :: tables_1) room_1).applies x e0.platform about1 = true :=
  (Spec.applies_iff w_frames).mpr ⟨w_running, w_runnable, w_alone, w_named, w_hears, w_ripe, w_room, w_tables⟩
theorem atStart : AtStart classFile x code maxLocals ret World_1 tables_1 room_1 Calls_1 rest_1 Pre_1 launch0 p0 e0 about1 theMethod args0 below0 :=
  ⟨lists_1, trivial, launch0.admits_env _ _ _, launch0.least_env, fairChoices_fair.cas, fairChoices_fair.clock, w_frames, w_args, w_heap, w_applies, trivial, trivial, w_case⟩
end start1
theorem witness_1 : WitnessClaimed_1 := ⟨start1.p0, start1.e0, start1.about1, start1.theMethod, start1.args0, start1.below0, start1.atStart⟩
end Jvm.Pilot.@@N@@
